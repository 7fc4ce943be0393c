import JvmDerived
import JvmDerived.Pilot.@@N@@Statement
import JvmDerived.Pilot.@@N@@Code
set_option linter.unusedVariables false
set_option linter.unusedSimpArgs false
namespace Jvm.RoadKit
open Sem ClassFile Op Lib Jvm.Stand Jvm.Free Jvm.LawKit
theorem Ext.keep {h h' : Heap} (E : Ext h h') (ws : List Addr) : Keep h h' ws := (Keep.refl _ _).ext E
theorem Keep.toExt {h h' : Heap} (K : Keep h h' []) : Ext h h' := ⟨K.1, fun a c q => K.2.1 a c q nin0⟩
theorem Sta.keep {Z : State} {h : Heap} {C f d : String} {v : Value} {h' : Heap} {ws : List Addr} (F : Sta Z h C f d v) (K : Keep h h' ws) (q : ∀ x ∈ ws, ∃ c : Cell, h[x]? = some c ∧ c.vm.isStatics = false) : Sta Z h' C f d v := by
  obtain ⟨cf, i, k, f, st, cell, h1, h2, h3, h4, h5, h6, h7⟩ := F
  exact ⟨cf, i, k, f, st, cell, h1, h2, h3, h4, K.2.1 st cell h5 (fun z => by obtain ⟨c, e1, e2⟩ := q st z; cases e1.symm.trans h5; rw [e2] at h6; cases h6), h6, h7⟩
theorem Ins.keep {Z : State} {h : Heap} {a : Addr} {C : String} {b : Bool} {h' : Heap} {ws : List Addr} (F : Ins Z h a C b) (K : Keep h h' ws) : Ins Z h' a C b := by
  obtain ⟨cell, cT, h1, h2, h3⟩ := F
  obtain ⟨c', q, r1, r2, -⟩ := K.2.2 a cell h1
  exact ⟨c', cT, q, h2, by rw [r1, r2]; exact h3⟩
end Jvm.RoadKit
namespace Jvm.Pilot.@@N@@
open Jvm Jvm.ClassFile Sem Op Lib Jvm.Free Jvm.Stand Jvm.LawKit Jvm.RoadKit Bundle Jvm.Pilot.@@N@@.Jvm.D
/-- what a walk is about: all that is fixed while one body runs -/
abbrev Wk : Type := Program × Launch × Env × Room × State × MethodId × Array Value × List Frame × Method × Code × State × Nat
def Cx (w : Wk) (R : Room) (Z : State) (n0 : Nat) (own : String) (bytes : ByteArray) (mx : Nat) (rt : Option FieldType) (nm : String) : Prop :=
  match w with
  | ⟨p, _, _, R', s, m, _, _, meth, c, Z', k⟩ => p.tables.exec = Jvm.exec ∧ c.code = bytes ∧ c.maxLocals = mx ∧ s.vm.findClass own = some m.cls ∧ Z.Warmed39 s.vm ∧ meth.sig.returnType = rt ∧ meth.name = nm ∧ meth.locks = false ∧ R' = R ∧ Z' = Z ∧ k = n0 ∧ n0 ≤ s.heap.size
def At1 (w : Wk) (T : State) (h : Heap) (k n : Nat) : Prop :=
  match w with
  | ⟨p, l, e, R, s, m, args, below, meth, c, _, n0⟩ => ∃ locs, Stand p l e R s m args below meth c T locs k n ∧ T.heap = h ∧ Fr n0 locs
def Go (w : Wk) (Q : Option Value → Heap → Prop) (T : State) (pc : Nat) (L : Array Slot) (st : List Value) : Prop :=
  match w with
  | ⟨p, _, e, R, s, m, _, below, _, _, _, n0⟩ => ∃ s₂ o, Steps p.tables e below (T.setTop (mkF m pc L st)) s₂ ∧ s₂.status = .running ∧ Ended s₂ below o ∧ ∃ v Lc, o = .returned v ∧ (Q v s₂.heap ∧ Fr n0 Lc) ∧ FrameEnd s o s₂ Lc R.cells R.slots
def Dc (bytes : ByteArray) (pc : Nat) (i : Instr) (n pc' : Nat) : Prop := decode bytes pc = .ok (i, n) ∧ pc + n = pc'
/-- a callee's contract -/
def Con (l : Launch) (Z : State) (y : MethodName) (bytes : ByteArray) (mx : Nat) (rt : Option FieldType) (R : Room) (as' : Array Value) (h0 : Heap) (n0 : Nat) (Q : Option Value → Heap → Prop) : Prop :=
  ∀ ws, MetFree l y (head1 (Jvm.Cond.code y bytes mx rt :: ws) R) (fun a U => a = as' ∧ Z.Warmed39 U.vm ∧ U.heap = h0) (fun _ _ _ _ _ => True) (fun _ U o U' => ∃ v L, o = .returned v ∧ (Q v U'.heap ∧ Fr n0 L) ∧ FrameEnd U o U' L R.cells R.slots)
def RI (P : Int32 → Heap → Prop) : Option Value → Heap → Prop := fun v h => ∃ z : Int32, v = some (.int z) ∧ P z h
def RL (P : Int64 → Heap → Prop) : Option Value → Heap → Prop := fun v h => ∃ z : Int64, v = some (.long z) ∧ P z h
def RR (P : Value → Heap → Prop) : Option Value → Heap → Prop := fun v h => ∃ z : Value, v = some z ∧ z.isRef = true ∧ P z h
def RV (P : Heap → Prop) : Option Value → Heap → Prop := fun v h => v = none ∧ P h
/-- Java's x >>> y -/
def iU (x y : Int32) : Int32 := (x.toUInt32 >>> (y &&& 31).toUInt32).toInt32
def lU (x : Int64) (y : Int32) : Int64 := (x.toUInt64 >>> (y &&& 0x3f).toInt64.toUInt64).toInt64
section Own
variable {w : Wk} {R : Room} {Z : State} {n0 : Nat} {own : String} {bytes : ByteArray} {mx : Nat} {rt : Option FieldType} {nm : String} {T : State} {h : Heap} {k n : Nat} {Q : Option Value → Heap → Prop} {pc pc' : Nat} {L L' : Array Slot} {st st' : List Value}
theorem con_intro {l : Launch} {y : MethodName} {as' : Array Value} {h0 : Heap} (hp : plainFor y = true) (hef : ∀ m, entryFrame m as' mx = mkF m 0 L []) (hz : n0 ≤ h0.size)
    (body : ∀ w T, Cx w R Z n0 y.cls bytes mx rt y.name → At1 w T h0 0 0 → Go w Q T 0 L []) : Con l Z y bytes mx rt R as' h0 n0 Q := by
  intro ws
  refine MetFree.of_bodySF hp hisR ?_
  intro p e s m args below meth c s₁ Bd hml0 hP hK
  obtain ⟨rfl, hZ, hh⟩ := hP
  have X0 : Stand p l e R s m args below meth c s₁ [] 0 0 := Stand.of_body Bd
  have e0 : s₁.heap = h0 := by rw [← hh, Bd.state]; rfl
  have B := body ⟨p, l, e, R, s, m, args, below, meth, c, Z, n0⟩ s₁ ⟨Bd.exec, Bd.bytes, hml0, findClass_of_methodNamed Bd.named, hZ, Bd.returns, (name_of_methodNamed Bd.named Bd.method).1, Bd.notSynchronized, rfl, rfl, rfl, by rw [hh]; exact hz⟩ ⟨[], X0, e0, Fr.nil n0⟩
  obtain ⟨s₂, o, h1, h2⟩ := B
  exact ⟨s₂, o, castTop (hef m) h1, h2⟩
theorem go_step (K : Cx w R Z n0 own bytes mx rt nm) (H : At1 w T h k n)
    (hs : ∀ (p : Program) (e : Env) (m : MethodId) (below : List Frame) (c : Code), p.tables.exec = Jvm.exec → c.code = bytes → At T m c below → ∀ t, Steps p.tables e below (T.setTop (mkF m pc' L' st')) t → Steps p.tables e below (T.setTop (mkF m pc L st)) t)
    (G : Go w Q T pc' L' st') : Go w Q T pc L st := by
  obtain ⟨p, l, e, R', s, m, args, below, meth, c, Z', k0⟩ := w
  obtain ⟨hx, hby, -⟩ := K
  obtain ⟨locs, X, -⟩ := H
  obtain ⟨s₂, o, h1, h2⟩ := G
  exact ⟨s₂, o, hs p e m below c hx hby X.here _ h1, h2⟩
theorem dcb {c : Code} {i : Instr} {q : Nat} (hby : c.code = bytes) (d : Dc bytes pc i q pc') : decode c.code pc = .ok (i, q) := by rw [hby]; exact d.1
theorem go_iadd {x y : Int32} (K : Cx w R Z n0 own bytes mx rt nm) (H : At1 w T h k n) (d : Dc bytes pc .iadd 1 pc') (G : ∀ z : Int32, z = x + y → Go w Q T pc' L (.int z :: st)) : Go w Q T pc L (.int y :: .int x :: st) := by
  obtain ⟨d1, rfl⟩ := d
  exact go_step K H (fun p e m below c hx hby hA t kk => XS.iadd hA hx rfl (by rw [hby]; exact d1) rfl kk) (G _ rfl)
theorem go_ladd {x y : Int64} (K : Cx w R Z n0 own bytes mx rt nm) (H : At1 w T h k n) (d : Dc bytes pc .ladd 1 pc') (G : ∀ z : Int64, z = x + y → Go w Q T pc' L (.long z :: st)) : Go w Q T pc L (.long y :: .long x :: st) := by
  obtain ⟨d1, rfl⟩ := d
  exact go_step K H (fun p e m below c hx hby hA t kk => XS.ladd hA hx rfl (by rw [hby]; exact d1) rfl kk) (G _ rfl)
theorem go_isub {x y : Int32} (K : Cx w R Z n0 own bytes mx rt nm) (H : At1 w T h k n) (d : Dc bytes pc .isub 1 pc') (G : ∀ z : Int32, z = x - y → Go w Q T pc' L (.int z :: st)) : Go w Q T pc L (.int y :: .int x :: st) := by
  obtain ⟨d1, rfl⟩ := d
  exact go_step K H (fun p e m below c hx hby hA t kk => XS.isub hA hx rfl (by rw [hby]; exact d1) rfl kk) (G _ rfl)
theorem go_lsub {x y : Int64} (K : Cx w R Z n0 own bytes mx rt nm) (H : At1 w T h k n) (d : Dc bytes pc .lsub 1 pc') (G : ∀ z : Int64, z = x - y → Go w Q T pc' L (.long z :: st)) : Go w Q T pc L (.long y :: .long x :: st) := by
  obtain ⟨d1, rfl⟩ := d
  exact go_step K H (fun p e m below c hx hby hA t kk => XS.lsub hA hx rfl (by rw [hby]; exact d1) rfl kk) (G _ rfl)
theorem go_imul {x y : Int32} (K : Cx w R Z n0 own bytes mx rt nm) (H : At1 w T h k n) (d : Dc bytes pc .imul 1 pc') (G : ∀ z : Int32, z = x * y → Go w Q T pc' L (.int z :: st)) : Go w Q T pc L (.int y :: .int x :: st) := by
  obtain ⟨d1, rfl⟩ := d
  exact go_step K H (fun p e m below c hx hby hA t kk => XS.imul hA hx rfl (by rw [hby]; exact d1) rfl kk) (G _ rfl)
theorem go_lmul {x y : Int64} (K : Cx w R Z n0 own bytes mx rt nm) (H : At1 w T h k n) (d : Dc bytes pc .lmul 1 pc') (G : ∀ z : Int64, z = x * y → Go w Q T pc' L (.long z :: st)) : Go w Q T pc L (.long y :: .long x :: st) := by
  obtain ⟨d1, rfl⟩ := d
  exact go_step K H (fun p e m below c hx hby hA t kk => XS.lmul hA hx rfl (by rw [hby]; exact d1) rfl kk) (G _ rfl)
theorem go_iand {x y : Int32} (K : Cx w R Z n0 own bytes mx rt nm) (H : At1 w T h k n) (d : Dc bytes pc .iand 1 pc') (G : ∀ z : Int32, z = x &&& y → Go w Q T pc' L (.int z :: st)) : Go w Q T pc L (.int y :: .int x :: st) := by
  obtain ⟨d1, rfl⟩ := d
  exact go_step K H (fun p e m below c hx hby hA t kk => XS.iand hA hx rfl (by rw [hby]; exact d1) rfl kk) (G _ rfl)
theorem go_land {x y : Int64} (K : Cx w R Z n0 own bytes mx rt nm) (H : At1 w T h k n) (d : Dc bytes pc .land 1 pc') (G : ∀ z : Int64, z = x &&& y → Go w Q T pc' L (.long z :: st)) : Go w Q T pc L (.long y :: .long x :: st) := by
  obtain ⟨d1, rfl⟩ := d
  exact go_step K H (fun p e m below c hx hby hA t kk => XS.land hA hx rfl (by rw [hby]; exact d1) rfl kk) (G _ rfl)
theorem go_ior {x y : Int32} (K : Cx w R Z n0 own bytes mx rt nm) (H : At1 w T h k n) (d : Dc bytes pc .ior 1 pc') (G : ∀ z : Int32, z = x ||| y → Go w Q T pc' L (.int z :: st)) : Go w Q T pc L (.int y :: .int x :: st) := by
  obtain ⟨d1, rfl⟩ := d
  exact go_step K H (fun p e m below c hx hby hA t kk => XS.ior hA hx rfl (by rw [hby]; exact d1) rfl kk) (G _ rfl)
theorem go_lor {x y : Int64} (K : Cx w R Z n0 own bytes mx rt nm) (H : At1 w T h k n) (d : Dc bytes pc .lor 1 pc') (G : ∀ z : Int64, z = x ||| y → Go w Q T pc' L (.long z :: st)) : Go w Q T pc L (.long y :: .long x :: st) := by
  obtain ⟨d1, rfl⟩ := d
  exact go_step K H (fun p e m below c hx hby hA t kk => XS.lor hA hx rfl (by rw [hby]; exact d1) rfl kk) (G _ rfl)
theorem go_ixor {x y : Int32} (K : Cx w R Z n0 own bytes mx rt nm) (H : At1 w T h k n) (d : Dc bytes pc .ixor 1 pc') (G : ∀ z : Int32, z = x ^^^ y → Go w Q T pc' L (.int z :: st)) : Go w Q T pc L (.int y :: .int x :: st) := by
  obtain ⟨d1, rfl⟩ := d
  exact go_step K H (fun p e m below c hx hby hA t kk => XS.ixor hA hx rfl (by rw [hby]; exact d1) rfl kk) (G _ rfl)
theorem go_lxor {x y : Int64} (K : Cx w R Z n0 own bytes mx rt nm) (H : At1 w T h k n) (d : Dc bytes pc .lxor 1 pc') (G : ∀ z : Int64, z = x ^^^ y → Go w Q T pc' L (.long z :: st)) : Go w Q T pc L (.long y :: .long x :: st) := by
  obtain ⟨d1, rfl⟩ := d
  exact go_step K H (fun p e m below c hx hby hA t kk => XS.lxor hA hx rfl (by rw [hby]; exact d1) rfl kk) (G _ rfl)
theorem go_ishl {x y : Int32} (K : Cx w R Z n0 own bytes mx rt nm) (H : At1 w T h k n) (d : Dc bytes pc .ishl 1 pc') (G : ∀ z : Int32, z = x <<< (y &&& 31) → Go w Q T pc' L (.int z :: st)) : Go w Q T pc L (.int y :: .int x :: st) := by
  obtain ⟨d1, rfl⟩ := d
  exact go_step K H (fun p e m below c hx hby hA t kk => XS.ishl hA hx rfl (by rw [hby]; exact d1) rfl kk) (G _ rfl)
theorem go_ishr {x y : Int32} (K : Cx w R Z n0 own bytes mx rt nm) (H : At1 w T h k n) (d : Dc bytes pc .ishr 1 pc') (G : ∀ z : Int32, z = x >>> (y &&& 31) → Go w Q T pc' L (.int z :: st)) : Go w Q T pc L (.int y :: .int x :: st) := by
  obtain ⟨d1, rfl⟩ := d
  exact go_step K H (fun p e m below c hx hby hA t kk => XS.ishr hA hx rfl (by rw [hby]; exact d1) rfl kk) (G _ rfl)
theorem go_iushr {x y : Int32} (K : Cx w R Z n0 own bytes mx rt nm) (H : At1 w T h k n) (d : Dc bytes pc .iushr 1 pc') (G : ∀ z : Int32, z = iU x y → Go w Q T pc' L (.int z :: st)) : Go w Q T pc L (.int y :: .int x :: st) := by
  obtain ⟨d1, rfl⟩ := d
  exact go_step K H (fun p e m below c hx hby hA t kk => XS.iushr hA hx rfl (by rw [hby]; exact d1) rfl kk) (G _ rfl)
theorem go_lshl {x : Int64} {y : Int32} (K : Cx w R Z n0 own bytes mx rt nm) (H : At1 w T h k n) (d : Dc bytes pc .lshl 1 pc') (G : ∀ z : Int64, z = x <<< (y &&& 0x3f).toInt64 → Go w Q T pc' L (.long z :: st)) : Go w Q T pc L (.int y :: .long x :: st) := by
  obtain ⟨d1, rfl⟩ := d
  exact go_step K H (fun p e m below c hx hby hA t kk => XS.lshl hA hx rfl (by rw [hby]; exact d1) rfl kk) (G _ rfl)
theorem go_lshr {x : Int64} {y : Int32} (K : Cx w R Z n0 own bytes mx rt nm) (H : At1 w T h k n) (d : Dc bytes pc .lshr 1 pc') (G : ∀ z : Int64, z = x >>> (y &&& 0x3f).toInt64 → Go w Q T pc' L (.long z :: st)) : Go w Q T pc L (.int y :: .long x :: st) := by
  obtain ⟨d1, rfl⟩ := d
  exact go_step K H (fun p e m below c hx hby hA t kk => XS.lshr hA hx rfl (by rw [hby]; exact d1) rfl kk) (G _ rfl)
theorem go_lushr {x : Int64} {y : Int32} (K : Cx w R Z n0 own bytes mx rt nm) (H : At1 w T h k n) (d : Dc bytes pc .lushr 1 pc') (G : ∀ z : Int64, z = lU x y → Go w Q T pc' L (.long z :: st)) : Go w Q T pc L (.int y :: .long x :: st) := by
  obtain ⟨d1, rfl⟩ := d
  exact go_step K H (fun p e m below c hx hby hA t kk => XS.lushr hA hx rfl (by rw [hby]; exact d1) rfl kk) (G _ rfl)
theorem go_idiv {x y : Int32} (K : Cx w R Z n0 own bytes mx rt nm) (H : At1 w T h k n) (d : Dc bytes pc .idiv 1 pc') (hy : y ≠ 0) (G : ∀ z : Int32, z = x / y → Go w Q T pc' L (.int z :: st)) : Go w Q T pc L (.int y :: .int x :: st) := by
  obtain ⟨d1, rfl⟩ := d
  exact go_step K H (fun p e m below c hx hby hA t kk => XS.idiv hA hx rfl (by rw [hby]; exact d1) rfl hy kk) (G _ rfl)
theorem go_irem (K : Cx w R Z n0 own bytes mx rt nm) (H : At1 w T h k n) {x y : Int32} (d : Dc bytes pc .irem 1 pc') (hy : y ≠ 0) (G : ∀ z : Int32, z = x % y → Go w Q T pc' L (.int z :: st)) : Go w Q T pc L (.int y :: .int x :: st) := by
  obtain ⟨d1, rfl⟩ := d
  exact go_step K H (fun p e m below c hx hby hA t kk => XS.irem hA hx rfl (by rw [hby]; exact d1) rfl hy (by rw [irem_eq_mod]; exact kk)) (G _ rfl)
theorem go_ldiv {x y : Int64} (K : Cx w R Z n0 own bytes mx rt nm) (H : At1 w T h k n) (d : Dc bytes pc .ldiv 1 pc') (hy : y ≠ 0) (G : ∀ z : Int64, z = x / y → Go w Q T pc' L (.long z :: st)) : Go w Q T pc L (.long y :: .long x :: st) := by
  obtain ⟨d1, rfl⟩ := d
  exact go_step K H (fun p e m below c hx hby hA t kk => XS.ldiv hA hx rfl (by rw [hby]; exact d1) rfl hy kk) (G _ rfl)
theorem go_lrem {x y : Int64} (K : Cx w R Z n0 own bytes mx rt nm) (H : At1 w T h k n) (d : Dc bytes pc .lrem 1 pc') (hy : y ≠ 0) (G : ∀ z : Int64, z = x - (x / y) * y → Go w Q T pc' L (.long z :: st)) : Go w Q T pc L (.long y :: .long x :: st) := by
  obtain ⟨d1, rfl⟩ := d
  exact go_step K H (fun p e m below c hx hby hA t kk => XS.lrem hA hx rfl (by rw [hby]; exact d1) rfl hy kk) (G _ rfl)
theorem go_ineg {x : Int32} (K : Cx w R Z n0 own bytes mx rt nm) (H : At1 w T h k n) (d : Dc bytes pc .ineg 1 pc') (G : ∀ z : Int32, z = -x → Go w Q T pc' L (.int z :: st)) : Go w Q T pc L (.int x :: st) := by
  obtain ⟨d1, rfl⟩ := d
  exact go_step K H (fun p e m below c hx hby hA t kk => XS.ineg hA hx rfl (by rw [hby]; exact d1) rfl kk) (G _ rfl)
theorem go_lneg {x : Int64} (K : Cx w R Z n0 own bytes mx rt nm) (H : At1 w T h k n) (d : Dc bytes pc .lneg 1 pc') (G : ∀ z : Int64, z = -x → Go w Q T pc' L (.long z :: st)) : Go w Q T pc L (.long x :: st) := by
  obtain ⟨d1, rfl⟩ := d
  exact go_step K H (fun p e m below c hx hby hA t kk => XS.lneg hA hx rfl (by rw [hby]; exact d1) rfl kk) (G _ rfl)
theorem go_i2l {x : Int32} (K : Cx w R Z n0 own bytes mx rt nm) (H : At1 w T h k n) (d : Dc bytes pc .i2l 1 pc') (G : ∀ z : Int64, z = x.toInt64 → Go w Q T pc' L (.long z :: st)) : Go w Q T pc L (.int x :: st) := by
  obtain ⟨d1, rfl⟩ := d
  exact go_step K H (fun p e m below c hx hby hA t kk => XS.i2l hA hx rfl (by rw [hby]; exact d1) rfl kk) (G _ rfl)
theorem go_l2i {x : Int64} (K : Cx w R Z n0 own bytes mx rt nm) (H : At1 w T h k n) (d : Dc bytes pc .l2i 1 pc') (G : ∀ z : Int32, z = x.toInt32 → Go w Q T pc' L (.int z :: st)) : Go w Q T pc L (.long x :: st) := by
  obtain ⟨d1, rfl⟩ := d
  exact go_step K H (fun p e m below c hx hby hA t kk => XS.l2i hA hx rfl (by rw [hby]; exact d1) rfl kk) (G _ rfl)
theorem go_i2b {x : Int32} (K : Cx w R Z n0 own bytes mx rt nm) (H : At1 w T h k n) (d : Dc bytes pc .i2b 1 pc') (G : ∀ z : Int32, z = x.toInt8.toInt32 → Go w Q T pc' L (.int z :: st)) : Go w Q T pc L (.int x :: st) := by
  obtain ⟨d1, rfl⟩ := d
  exact go_step K H (fun p e m below c hx hby hA t kk => XS.i2b hA hx rfl (by rw [hby]; exact d1) rfl kk) (G _ rfl)
theorem go_i2c {x : Int32} (K : Cx w R Z n0 own bytes mx rt nm) (H : At1 w T h k n) (d : Dc bytes pc .i2c 1 pc') (G : ∀ z : Int32, z = x.toUInt32.toUInt16.toUInt32.toInt32 → Go w Q T pc' L (.int z :: st)) : Go w Q T pc L (.int x :: st) := by
  obtain ⟨d1, rfl⟩ := d
  exact go_step K H (fun p e m below c hx hby hA t kk => XS.i2c hA hx rfl (by rw [hby]; exact d1) rfl kk) (G _ rfl)
theorem go_i2s {x : Int32} (K : Cx w R Z n0 own bytes mx rt nm) (H : At1 w T h k n) (d : Dc bytes pc .i2s 1 pc') (G : ∀ z : Int32, z = x.toInt16.toInt32 → Go w Q T pc' L (.int z :: st)) : Go w Q T pc L (.int x :: st) := by
  obtain ⟨d1, rfl⟩ := d
  exact go_step K H (fun p e m below c hx hby hA t kk => XS.i2s hA hx rfl (by rw [hby]; exact d1) rfl kk) (G _ rfl)
theorem go_lcmp {x y : Int64} (K : Cx w R Z n0 own bytes mx rt nm) (H : At1 w T h k n) (d : Dc bytes pc .lcmp 1 pc') (G : ∀ z : Int32, z = lcmpW x y → Go w Q T pc' L (.int z :: st)) : Go w Q T pc L (.long y :: .long x :: st) := by
  obtain ⟨d1, rfl⟩ := d
  exact go_step K H (fun p e m below c hx hby hA t kk => XS.lcmp hA hx rfl (by rw [hby]; exact d1) rfl kk) (G _ rfl)
theorem go_iloadN {j : Fin 4} {v : Int32} (K : Cx w R Z n0 own bytes mx rt nm) (H : At1 w T h k n) (d : Dc bytes pc (.iload_n j) 1 pc') (hl : L[j.val]? = some (.val (.int v))) (G : Go w Q T pc' L (.int v :: st)) : Go w Q T pc L st := by
  obtain ⟨d1, rfl⟩ := d
  exact go_step K H (fun p e m below c hx hby hA t kk => XS.iloadN hA hx rfl (by rw [hby]; exact d1) hl kk) G
theorem go_iload {j : Nat} {v : Int32} (K : Cx w R Z n0 own bytes mx rt nm) (H : At1 w T h k n) (d : Dc bytes pc (.iload j) 2 pc') (hl : L[j]? = some (.val (.int v))) (G : Go w Q T pc' L (.int v :: st)) : Go w Q T pc L st := by
  obtain ⟨d1, rfl⟩ := d
  exact go_step K H (fun p e m below c hx hby hA t kk => XS.iload hA hx rfl (by rw [hby]; exact d1) hl kk) G
theorem go_lloadN {j : Fin 4} {v : Int64} (K : Cx w R Z n0 own bytes mx rt nm) (H : At1 w T h k n) (d : Dc bytes pc (.lload_n j) 1 pc') (hl : L[j.val]? = some (.val (.long v))) (G : Go w Q T pc' L (.long v :: st)) : Go w Q T pc L st := by
  obtain ⟨d1, rfl⟩ := d
  exact go_step K H (fun p e m below c hx hby hA t kk => XS.lloadN hA hx rfl (by rw [hby]; exact d1) hl kk) G
theorem go_lload {j : Nat} {v : Int64} (K : Cx w R Z n0 own bytes mx rt nm) (H : At1 w T h k n) (d : Dc bytes pc (.lload j) 2 pc') (hl : L[j]? = some (.val (.long v))) (G : Go w Q T pc' L (.long v :: st)) : Go w Q T pc L st := by
  obtain ⟨d1, rfl⟩ := d
  exact go_step K H (fun p e m below c hx hby hA t kk => XS.lload hA hx rfl (by rw [hby]; exact d1) hl kk) G
theorem go_aloadN {j : Fin 4} {v : Value} (K : Cx w R Z n0 own bytes mx rt nm) (H : At1 w T h k n) (d : Dc bytes pc (.aload_n j) 1 pc') (hl : L[j.val]? = some (.val v)) (hv : v.isRef = true) (G : Go w Q T pc' L (v :: st)) : Go w Q T pc L st := by
  obtain ⟨d1, rfl⟩ := d
  exact go_step K H (fun p e m below c hx hby hA t kk => XS.aloadN hA hx rfl (by rw [hby]; exact d1) hl hv kk) G
theorem go_aload {j : Nat} {v : Value} (K : Cx w R Z n0 own bytes mx rt nm) (H : At1 w T h k n) (d : Dc bytes pc (.aload j) 2 pc') (hl : L[j]? = some (.val v)) (hv : v.isRef = true) (G : Go w Q T pc' L (v :: st)) : Go w Q T pc L st := by
  obtain ⟨d1, rfl⟩ := d
  exact go_step K H (fun p e m below c hx hby hA t kk => XS.aload hA hx rfl (by rw [hby]; exact d1) hl hv kk) G
theorem go_istoreN {j : Fin 4} {v : Int32} (K : Cx w R Z n0 own bytes mx rt nm) (H : At1 w T h k n) (d : Dc bytes pc (.istore_n j) 1 pc') (hl : storeLocals L j.val (.int v) = some L') (G : Go w Q T pc' L' st) : Go w Q T pc L (.int v :: st) := by
  obtain ⟨d1, rfl⟩ := d
  exact go_step K H (fun p e m below c hx hby hA t kk => XS.istoreN hA hx rfl (by rw [hby]; exact d1) rfl hl kk) G
theorem go_istore {j : Nat} {v : Int32} (K : Cx w R Z n0 own bytes mx rt nm) (H : At1 w T h k n) (d : Dc bytes pc (.istore j) 2 pc') (hl : storeLocals L j (.int v) = some L') (G : Go w Q T pc' L' st) : Go w Q T pc L (.int v :: st) := by
  obtain ⟨d1, rfl⟩ := d
  exact go_step K H (fun p e m below c hx hby hA t kk => XS.istore hA hx rfl (by rw [hby]; exact d1) rfl hl kk) G
theorem go_lstoreN {j : Fin 4} {v : Int64} (K : Cx w R Z n0 own bytes mx rt nm) (H : At1 w T h k n) (d : Dc bytes pc (.lstore_n j) 1 pc') (hl : storeLocals L j.val (.long v) = some L') (G : Go w Q T pc' L' st) : Go w Q T pc L (.long v :: st) := by
  obtain ⟨d1, rfl⟩ := d
  exact go_step K H (fun p e m below c hx hby hA t kk => XS.lstoreN hA hx rfl (by rw [hby]; exact d1) rfl hl kk) G
theorem go_lstore {j : Nat} {v : Int64} (K : Cx w R Z n0 own bytes mx rt nm) (H : At1 w T h k n) (d : Dc bytes pc (.lstore j) 2 pc') (hl : storeLocals L j (.long v) = some L') (G : Go w Q T pc' L' st) : Go w Q T pc L (.long v :: st) := by
  obtain ⟨d1, rfl⟩ := d
  exact go_step K H (fun p e m below c hx hby hA t kk => XS.lstore hA hx rfl (by rw [hby]; exact d1) rfl hl kk) G
theorem go_astoreN {j : Fin 4} {v : Value} (K : Cx w R Z n0 own bytes mx rt nm) (H : At1 w T h k n) (d : Dc bytes pc (.astore_n j) 1 pc') (hv : v.isRef = true) (hl : storeLocals L j.val v = some L') (G : Go w Q T pc' L' st) : Go w Q T pc L (v :: st) := by
  obtain ⟨d1, rfl⟩ := d
  exact go_step K H (fun p e m below c hx hby hA t kk => XS.astoreN hA hx rfl (by rw [hby]; exact d1) rfl hv hl kk) G
theorem go_astore {j : Nat} {v : Value} (K : Cx w R Z n0 own bytes mx rt nm) (H : At1 w T h k n) (d : Dc bytes pc (.astore j) 2 pc') (hv : v.isRef = true) (hl : storeLocals L j v = some L') (G : Go w Q T pc' L' st) : Go w Q T pc L (v :: st) := by
  obtain ⟨d1, rfl⟩ := d
  exact go_step K H (fun p e m below c hx hby hA t kk => XS.astore hA hx rfl (by rw [hby]; exact d1) rfl hv hl kk) G
theorem go_iinc {j : Nat} {cst : Int} {x z : Int32} (K : Cx w R Z n0 own bytes mx rt nm) (H : At1 w T h k n) (d : Dc bytes pc (.iinc j cst) 3 pc') (hl : L[j]? = some (.val (.int x))) (hz : z = x + Int32.ofInt cst) (hl' : storeLocals L j (.int z) = some L') (G : Go w Q T pc' L' st) : Go w Q T pc L st := by
  obtain ⟨d1, rfl⟩ := d
  exact go_step K H (fun p e m below c hx hby hA t kk => XS.iinc hA hx rfl (by rw [hby]; exact d1) hl (by rw [← hz]; exact hl') kk) G
theorem go_iconst {i : Int} (z : Int32) (K : Cx w R Z n0 own bytes mx rt nm) (H : At1 w T h k n) (d : Dc bytes pc (.iconst i) 1 pc') (hz : Int32.ofInt i = z) (G : Go w Q T pc' L (.int z :: st)) : Go w Q T pc L st := by
  obtain ⟨d1, rfl⟩ := d
  exact go_step K H (fun p e m below c hx hby hA t kk => XS.iconst hA hx rfl (by rw [hby]; exact d1) (by rw [hz]; exact kk)) G
theorem go_bipush {i : Int} (z : Int32) (K : Cx w R Z n0 own bytes mx rt nm) (H : At1 w T h k n) (d : Dc bytes pc (.bipush i) 2 pc') (hz : (Int8.ofInt i).toInt32 = z) (G : Go w Q T pc' L (.int z :: st)) : Go w Q T pc L st := by
  obtain ⟨d1, rfl⟩ := d
  exact go_step K H (fun p e m below c hx hby hA t kk => XS.bipush hA hx rfl (by rw [hby]; exact d1) (by rw [hz]; exact kk)) G
theorem go_sipush {i : Int} (z : Int32) (K : Cx w R Z n0 own bytes mx rt nm) (H : At1 w T h k n) (d : Dc bytes pc (.sipush i) 3 pc') (hz : (Int16.ofInt i).toInt32 = z) (G : Go w Q T pc' L (.int z :: st)) : Go w Q T pc L st := by
  obtain ⟨d1, rfl⟩ := d
  exact go_step K H (fun p e m below c hx hby hA t kk => XS.sipush hA hx rfl (by rw [hby]; exact d1) (by rw [hz]; exact kk)) G
theorem go_lconst {i : Fin 2} (z : Int64) (K : Cx w R Z n0 own bytes mx rt nm) (H : At1 w T h k n) (d : Dc bytes pc (.lconst i) 1 pc') (hz : Int64.ofNat i = z) (G : Go w Q T pc' L (.long z :: st)) : Go w Q T pc L st := by
  obtain ⟨d1, rfl⟩ := d
  exact go_step K H (fun p e m below c hx hby hA t kk => XS.lconst hA hx rfl (by rw [hby]; exact d1) (by rw [hz]; exact kk)) G
theorem go_null  (K : Cx w R Z n0 own bytes mx rt nm) (H : At1 w T h k n) (d : Dc bytes pc .aconst_null 1 pc') (G : Go w Q T pc' L (.null :: st)) : Go w Q T pc L st := by
  obtain ⟨d1, rfl⟩ := d
  exact go_step K H (fun p e m below c hx hby hA t kk => XS.aconstNull hA hx rfl (by rw [hby]; exact d1) kk) G
theorem go_dup {x : Value} (K : Cx w R Z n0 own bytes mx rt nm) (H : At1 w T h k n) (d : Dc bytes pc .dup 1 pc') (hc : x.category = 1) (G : Go w Q T pc' L (x :: x :: st)) : Go w Q T pc L (x :: st) := by
  obtain ⟨d1, rfl⟩ := d
  exact go_step K H (fun p e m below c hx hby hA t kk => XS.dup hA hx rfl (by rw [hby]; exact d1) rfl hc kk) G
theorem go_pop {x : Value} (K : Cx w R Z n0 own bytes mx rt nm) (H : At1 w T h k n) (d : Dc bytes pc .pop 1 pc') (hc : x.category = 1) (G : Go w Q T pc' L st) : Go w Q T pc L (x :: st) := by
  obtain ⟨d1, rfl⟩ := d
  exact go_step K H (fun p e m below c hx hby hA t kk => XS.pop hA hx rfl (by rw [hby]; exact d1) rfl hc kk) G
theorem go_dupX1 {x y : Value} (K : Cx w R Z n0 own bytes mx rt nm) (H : At1 w T h k n) (d : Dc bytes pc .dup_x1 1 pc') (hc : x.category = 1) (hc' : y.category = 1) (G : Go w Q T pc' L (x :: y :: x :: st)) : Go w Q T pc L (x :: y :: st) := by
  obtain ⟨d1, rfl⟩ := d
  exact go_step K H (fun p e m below c hx hby hA t kk => XS.dupX1 hA hx rfl (by rw [hby]; exact d1) rfl hc hc' kk) G
theorem go_dup2 {x y : Value} (K : Cx w R Z n0 own bytes mx rt nm) (H : At1 w T h k n) (d : Dc bytes pc .dup2 1 pc') (hc : x.category = 1) (hc' : y.category = 1) (G : Go w Q T pc' L (x :: y :: x :: y :: st)) : Go w Q T pc L (x :: y :: st) := by
  obtain ⟨d1, rfl⟩ := d
  exact go_step K H (fun p e m below c hx hby hA t kk => Jvm.Free.XT.dup2 hA hx rfl (by rw [hby]; exact d1) rfl hc hc' kk) G
theorem go_dup2L {x : Int64} (K : Cx w R Z n0 own bytes mx rt nm) (H : At1 w T h k n) (d : Dc bytes pc .dup2 1 pc') (G : Go w Q T pc' L (.long x :: .long x :: st)) : Go w Q T pc L (.long x :: st) := by
  obtain ⟨d1, rfl⟩ := d
  exact go_step K H (fun p e m below c hx hby hA t kk => Jvm.Free.XT.dup2L hA hx rfl (by rw [hby]; exact d1) rfl kk) G
def Jp (bytes : ByteArray) (pc : Nat) (i : Int → Instr) (yes no : Nat) : Prop := ∃ o : Int, decode bytes pc = .ok (i o, 3) ∧ 0 ≤ (pc : Int) + o ∧ ((pc : Int) + o).toNat = yes ∧ pc + 3 = no
theorem go_goto (K : Cx w R Z n0 own bytes mx rt nm) (H : At1 w T h k n) {no : Nat} (d : Jp bytes pc .goto pc' no) (G : Go w Q T pc' L st) : Go w Q T pc L st := by
  obtain ⟨o, d1, d2, d3, d4⟩ := d
  exact go_step K H (fun p e m below c hx hby hA t kk => XS.goto hA hx rfl rfl (by rw [hby]; exact d1) d2 d3 kk) G
theorem go_icmp_lt (K : Cx w R Z n0 own bytes mx rt nm) (H : At1 w T h k n) {x y : Int32} {yes no : Nat} (d : Jp bytes pc (.if_icmp .lt) yes no) (G1 : x < y → Go w Q T yes L st) (G2 : ¬ x < y → Go w Q T no L st) : Go w Q T pc L (.int y :: .int x :: st) := by
  obtain ⟨o, d1, d2, d3, rfl⟩ := d
  by_cases q : x < y
  · exact go_step K H (fun p e m below c hx hby hA t kk => XS.icmpYes hA hx rfl rfl (by rw [hby]; exact d1) rfl (tlt q).1 d2 d3 kk) (G1 q)
  · exact go_step K H (fun p e m below c hx hby hA t kk => XS.icmpNo hA hx rfl (by rw [hby]; exact d1) rfl (flt q).1 kk) (G2 q)
theorem go_if_lt (K : Cx w R Z n0 own bytes mx rt nm) (H : At1 w T h k n) {x : Int32} {yes no : Nat} (d : Jp bytes pc (.ifCond .lt) yes no) (G1 : x < (0 : Int32) → Go w Q T yes L st) (G2 : ¬ x < (0 : Int32) → Go w Q T no L st) : Go w Q T pc L (.int x :: st) := by
  obtain ⟨o, d1, d2, d3, rfl⟩ := d
  by_cases q : x < (0 : Int32)
  · exact go_step K H (fun p e m below c hx hby hA t kk => XS.ifYes hA hx rfl rfl (by rw [hby]; exact d1) rfl ((if0 _ _).trans (tlt q).1) d2 d3 kk) (G1 q)
  · exact go_step K H (fun p e m below c hx hby hA t kk => XS.ifNo hA hx rfl (by rw [hby]; exact d1) rfl ((if0 _ _).trans (flt q).1) kk) (G2 q)
theorem go_icmp_ge (K : Cx w R Z n0 own bytes mx rt nm) (H : At1 w T h k n) {x y : Int32} {yes no : Nat} (d : Jp bytes pc (.if_icmp .ge) yes no) (G1 : ¬ x < y → Go w Q T yes L st) (G2 : x < y → Go w Q T no L st) : Go w Q T pc L (.int y :: .int x :: st) := by
  obtain ⟨o, d1, d2, d3, rfl⟩ := d
  by_cases q : ¬ x < y
  · exact go_step K H (fun p e m below c hx hby hA t kk => XS.icmpYes hA hx rfl rfl (by rw [hby]; exact d1) rfl (flt q).2.1 d2 d3 kk) (G1 q)
  · exact go_step K H (fun p e m below c hx hby hA t kk => XS.icmpNo hA hx rfl (by rw [hby]; exact d1) rfl (tlt (Decidable.not_not.mp q)).2.1 kk) (G2 (Decidable.not_not.mp q))
theorem go_if_ge (K : Cx w R Z n0 own bytes mx rt nm) (H : At1 w T h k n) {x : Int32} {yes no : Nat} (d : Jp bytes pc (.ifCond .ge) yes no) (G1 : ¬ x < (0 : Int32) → Go w Q T yes L st) (G2 : x < (0 : Int32) → Go w Q T no L st) : Go w Q T pc L (.int x :: st) := by
  obtain ⟨o, d1, d2, d3, rfl⟩ := d
  by_cases q : ¬ x < (0 : Int32)
  · exact go_step K H (fun p e m below c hx hby hA t kk => XS.ifYes hA hx rfl rfl (by rw [hby]; exact d1) rfl ((if0 _ _).trans (flt q).2.1) d2 d3 kk) (G1 q)
  · exact go_step K H (fun p e m below c hx hby hA t kk => XS.ifNo hA hx rfl (by rw [hby]; exact d1) rfl ((if0 _ _).trans (tlt (Decidable.not_not.mp q)).2.1) kk) (G2 (Decidable.not_not.mp q))
theorem go_icmp_gt (K : Cx w R Z n0 own bytes mx rt nm) (H : At1 w T h k n) {x y : Int32} {yes no : Nat} (d : Jp bytes pc (.if_icmp .gt) yes no) (G1 : y < x → Go w Q T yes L st) (G2 : ¬ y < x → Go w Q T no L st) : Go w Q T pc L (.int y :: .int x :: st) := by
  obtain ⟨o, d1, d2, d3, rfl⟩ := d
  by_cases q : y < x
  · exact go_step K H (fun p e m below c hx hby hA t kk => XS.icmpYes hA hx rfl rfl (by rw [hby]; exact d1) rfl (tlt q).2.2.1 d2 d3 kk) (G1 q)
  · exact go_step K H (fun p e m below c hx hby hA t kk => XS.icmpNo hA hx rfl (by rw [hby]; exact d1) rfl (flt q).2.2.1 kk) (G2 q)
theorem go_if_gt (K : Cx w R Z n0 own bytes mx rt nm) (H : At1 w T h k n) {x : Int32} {yes no : Nat} (d : Jp bytes pc (.ifCond .gt) yes no) (G1 : (0 : Int32) < x → Go w Q T yes L st) (G2 : ¬ (0 : Int32) < x → Go w Q T no L st) : Go w Q T pc L (.int x :: st) := by
  obtain ⟨o, d1, d2, d3, rfl⟩ := d
  by_cases q : (0 : Int32) < x
  · exact go_step K H (fun p e m below c hx hby hA t kk => XS.ifYes hA hx rfl rfl (by rw [hby]; exact d1) rfl ((if0 _ _).trans (tlt q).2.2.1) d2 d3 kk) (G1 q)
  · exact go_step K H (fun p e m below c hx hby hA t kk => XS.ifNo hA hx rfl (by rw [hby]; exact d1) rfl ((if0 _ _).trans (flt q).2.2.1) kk) (G2 q)
theorem go_icmp_le (K : Cx w R Z n0 own bytes mx rt nm) (H : At1 w T h k n) {x y : Int32} {yes no : Nat} (d : Jp bytes pc (.if_icmp .le) yes no) (G1 : ¬ y < x → Go w Q T yes L st) (G2 : y < x → Go w Q T no L st) : Go w Q T pc L (.int y :: .int x :: st) := by
  obtain ⟨o, d1, d2, d3, rfl⟩ := d
  by_cases q : ¬ y < x
  · exact go_step K H (fun p e m below c hx hby hA t kk => XS.icmpYes hA hx rfl rfl (by rw [hby]; exact d1) rfl (flt q).2.2.2 d2 d3 kk) (G1 q)
  · exact go_step K H (fun p e m below c hx hby hA t kk => XS.icmpNo hA hx rfl (by rw [hby]; exact d1) rfl (tlt (Decidable.not_not.mp q)).2.2.2 kk) (G2 (Decidable.not_not.mp q))
theorem go_if_le (K : Cx w R Z n0 own bytes mx rt nm) (H : At1 w T h k n) {x : Int32} {yes no : Nat} (d : Jp bytes pc (.ifCond .le) yes no) (G1 : ¬ (0 : Int32) < x → Go w Q T yes L st) (G2 : (0 : Int32) < x → Go w Q T no L st) : Go w Q T pc L (.int x :: st) := by
  obtain ⟨o, d1, d2, d3, rfl⟩ := d
  by_cases q : ¬ (0 : Int32) < x
  · exact go_step K H (fun p e m below c hx hby hA t kk => XS.ifYes hA hx rfl rfl (by rw [hby]; exact d1) rfl ((if0 _ _).trans (flt q).2.2.2) d2 d3 kk) (G1 q)
  · exact go_step K H (fun p e m below c hx hby hA t kk => XS.ifNo hA hx rfl (by rw [hby]; exact d1) rfl ((if0 _ _).trans (tlt (Decidable.not_not.mp q)).2.2.2) kk) (G2 (Decidable.not_not.mp q))
theorem go_icmp_eq (K : Cx w R Z n0 own bytes mx rt nm) (H : At1 w T h k n) {x y : Int32} {yes no : Nat} (d : Jp bytes pc (.if_icmp .eq) yes no) (G1 : x = y → Go w Q T yes L st) (G2 : ¬ x = y → Go w Q T no L st) : Go w Q T pc L (.int y :: .int x :: st) := by
  obtain ⟨o, d1, d2, d3, rfl⟩ := d
  by_cases q : x = y
  · exact go_step K H (fun p e m below c hx hby hA t kk => XS.icmpYes hA hx rfl rfl (by rw [hby]; exact d1) rfl (teq q).1 d2 d3 kk) (G1 q)
  · exact go_step K H (fun p e m below c hx hby hA t kk => XS.icmpNo hA hx rfl (by rw [hby]; exact d1) rfl (feq q).1 kk) (G2 q)
theorem go_if_eq (K : Cx w R Z n0 own bytes mx rt nm) (H : At1 w T h k n) {x : Int32} {yes no : Nat} (d : Jp bytes pc (.ifCond .eq) yes no) (G1 : x = (0 : Int32) → Go w Q T yes L st) (G2 : ¬ x = (0 : Int32) → Go w Q T no L st) : Go w Q T pc L (.int x :: st) := by
  obtain ⟨o, d1, d2, d3, rfl⟩ := d
  by_cases q : x = (0 : Int32)
  · exact go_step K H (fun p e m below c hx hby hA t kk => XS.ifYes hA hx rfl rfl (by rw [hby]; exact d1) rfl ((if0 _ _).trans (teq q).1) d2 d3 kk) (G1 q)
  · exact go_step K H (fun p e m below c hx hby hA t kk => XS.ifNo hA hx rfl (by rw [hby]; exact d1) rfl ((if0 _ _).trans (feq q).1) kk) (G2 q)
theorem go_icmp_ne (K : Cx w R Z n0 own bytes mx rt nm) (H : At1 w T h k n) {x y : Int32} {yes no : Nat} (d : Jp bytes pc (.if_icmp .ne) yes no) (G1 : ¬ x = y → Go w Q T yes L st) (G2 : x = y → Go w Q T no L st) : Go w Q T pc L (.int y :: .int x :: st) := by
  obtain ⟨o, d1, d2, d3, rfl⟩ := d
  by_cases q : ¬ x = y
  · exact go_step K H (fun p e m below c hx hby hA t kk => XS.icmpYes hA hx rfl rfl (by rw [hby]; exact d1) rfl (feq q).2 d2 d3 kk) (G1 q)
  · exact go_step K H (fun p e m below c hx hby hA t kk => XS.icmpNo hA hx rfl (by rw [hby]; exact d1) rfl (teq (Decidable.not_not.mp q)).2 kk) (G2 (Decidable.not_not.mp q))
theorem go_if_ne (K : Cx w R Z n0 own bytes mx rt nm) (H : At1 w T h k n) {x : Int32} {yes no : Nat} (d : Jp bytes pc (.ifCond .ne) yes no) (G1 : ¬ x = (0 : Int32) → Go w Q T yes L st) (G2 : x = (0 : Int32) → Go w Q T no L st) : Go w Q T pc L (.int x :: st) := by
  obtain ⟨o, d1, d2, d3, rfl⟩ := d
  by_cases q : ¬ x = (0 : Int32)
  · exact go_step K H (fun p e m below c hx hby hA t kk => XS.ifYes hA hx rfl rfl (by rw [hby]; exact d1) rfl ((if0 _ _).trans (feq q).2) d2 d3 kk) (G1 q)
  · exact go_step K H (fun p e m below c hx hby hA t kk => XS.ifNo hA hx rfl (by rw [hby]; exact d1) rfl ((if0 _ _).trans (teq (Decidable.not_not.mp q)).2) kk) (G2 (Decidable.not_not.mp q))
theorem go_ifnull_yes (K : Cx w R Z n0 own bytes mx rt nm) (H : At1 w T h k n) {yes no : Nat} (d : Jp bytes pc .ifnull yes no) (G : Go w Q T yes L st) : Go w Q T pc L (.null :: st) := by
  obtain ⟨o, d1, d2, d3, rfl⟩ := d
  exact go_step K H (fun p e m below c hx hby hA t kk => XS.ifnullYes hA hx rfl rfl (by rw [hby]; exact d1) rfl d2 d3 kk) G
theorem go_ifnull_no (K : Cx w R Z n0 own bytes mx rt nm) (H : At1 w T h k n) {a : Addr} {yes no : Nat} (d : Jp bytes pc .ifnull yes no) (G : Go w Q T no L st) : Go w Q T pc L (.ref a :: st) := by
  obtain ⟨o, d1, d2, d3, rfl⟩ := d
  exact go_step K H (fun p e m below c hx hby hA t kk => XS.ifnullNo hA hx rfl (by rw [hby]; exact d1) rfl kk) G
theorem go_ifnonnull_yes (K : Cx w R Z n0 own bytes mx rt nm) (H : At1 w T h k n) {a : Addr} {yes no : Nat} (d : Jp bytes pc .ifnonnull yes no) (G : Go w Q T yes L st) : Go w Q T pc L (.ref a :: st) := by
  obtain ⟨o, d1, d2, d3, rfl⟩ := d
  exact go_step K H (fun p e m below c hx hby hA t kk => XS.ifnonnullYes hA hx rfl rfl (by rw [hby]; exact d1) rfl d2 d3 kk) G
theorem go_ifnonnull_no (K : Cx w R Z n0 own bytes mx rt nm) (H : At1 w T h k n) {yes no : Nat} (d : Jp bytes pc .ifnonnull yes no) (G : Go w Q T no L st) : Go w Q T pc L (.null :: st) := by
  obtain ⟨o, d1, d2, d3, rfl⟩ := d
  exact go_step K H (fun p e m below c hx hby hA t kk => XS.ifnonnullNo hA hx rfl (by rw [hby]; exact d1) rfl kk) G
theorem go_acmp_eq (K : Cx w R Z n0 own bytes mx rt nm) (H : At1 w T h k n) {x y : Value} (h1 : x.isRef = true) (h2 : y.isRef = true) {yes no : Nat} (d : Jp bytes pc (.if_acmp .eq) yes no) (G1 : x = y → Go w Q T yes L st) (G2 : ¬ x = y → Go w Q T no L st) : Go w Q T pc L (y :: x :: st) := by
  obtain ⟨p, l, e, R', s, m, args, below, meth, c, Z', k0⟩ := w
  obtain ⟨hx, hby, -⟩ := K
  obtain ⟨locs, X, -⟩ := H
  obtain ⟨o, d1, d2, d3, rfl⟩ := d
  by_cases q : x = y
  · obtain ⟨s₂, o2, g1, g2⟩ := G1 q
    exact ⟨s₂, o2, Jvm.RoadKit.acmp X hx rfl h1 h2 (pc' := yes) (same := true) rfl (by rw [hby]; exact d1) rfl (decide_eq_true q) d2 (by simp [acV, d3]) g1, g2⟩
  · obtain ⟨s₂, o2, g1, g2⟩ := G2 q
    exact ⟨s₂, o2, Jvm.RoadKit.acmp X hx rfl h1 h2 (pc' := pc + 3) (same := false) rfl (by rw [hby]; exact d1) rfl (decide_eq_false q) d2 (by simp [acV]) g1, g2⟩
theorem go_acmp_ne (K : Cx w R Z n0 own bytes mx rt nm) (H : At1 w T h k n) {x y : Value} (h1 : x.isRef = true) (h2 : y.isRef = true) {yes no : Nat} (d : Jp bytes pc (.if_acmp .ne) yes no) (G1 : ¬ x = y → Go w Q T yes L st) (G2 : x = y → Go w Q T no L st) : Go w Q T pc L (y :: x :: st) := by
  obtain ⟨p, l, e, R', s, m, args, below, meth, c, Z', k0⟩ := w
  obtain ⟨hx, hby, -⟩ := K
  obtain ⟨locs, X, -⟩ := H
  obtain ⟨o, d1, d2, d3, rfl⟩ := d
  by_cases q : x = y
  · obtain ⟨s₂, o2, g1, g2⟩ := G2 q
    exact ⟨s₂, o2, Jvm.RoadKit.acmp X hx rfl h1 h2 (pc' := pc + 3) (same := true) rfl (by rw [hby]; exact d1) rfl (decide_eq_true q) d2 (by simp [acV]) g1, g2⟩
  · obtain ⟨s₂, o2, g1, g2⟩ := G1 q
    exact ⟨s₂, o2, Jvm.RoadKit.acmp X hx rfl h1 h2 (pc' := yes) (same := false) rfl (by rw [hby]; exact d1) rfl (decide_eq_false q) d2 (by simp [acV, d3]) g1, g2⟩
/-- a step that hands on to a new state of the walk -/
theorem go_move {T' : State} (K : Cx w R Z n0 own bytes mx rt nm)
    (hs : ∀ (p : Program) (e : Env) (m : MethodId) (below : List Frame), (∃ l s args meth c, w = ⟨p, l, e, R, s, m, args, below, meth, c, Z, n0⟩) → ∀ t, Steps p.tables e below (T'.setTop (mkF m pc' L' st')) t → Steps p.tables e below (T.setTop (mkF m pc L st)) t)
    (G : Go w Q T' pc' L' st') : Go w Q T pc L st := by
  obtain ⟨p, l, e, R', s, m, args, below, meth, c, Z', k0⟩ := w
  obtain ⟨-, -, -, -, -, -, -, -, rfl, rfl, rfl, -⟩ := K
  obtain ⟨s₂, o, h1, h2⟩ := G
  exact ⟨s₂, o, hs p e m below ⟨l, s, args, meth, c, rfl⟩ _ h1, h2⟩
/-- one law a body's end -/
theorem go_leave (K : Cx w R Z n0 own bytes mx rt nm) (H : At1 w T h k n) {v : Option Value} (hv : rt = none → v = none) (hk : k ≤ R.cells) (hn : n ≤ R.slots)
    (hs : ∀ (p : Program) (l : Launch) (e : Env) (s : State) (m : MethodId) (args : Array Value) (below : List Frame) (meth : Method) (c : Code) (locs : List Loc), Stand p l e R s m args below meth c T locs k n → p.tables.exec = Jvm.exec → c.code = bytes → meth.sig.returnType = rt → ∀ fs, (∀ (f : JFrame) (acts : List Action), f.method = m → f.locked = none → f.entered = [] → (doReturn e (T.setTop f) acts v).1 = T.setFrames fs) → Steps p.tables e below (T.setTop (mkF m pc L st)) (T.setFrames fs))
    (hq : Q v h) : Go w Q T pc L st := by
  obtain ⟨p, l, e, R', s, m, args, below, meth, c, Z', k0⟩ := w
  obtain ⟨hx, hby, hml, hown, hZ, hret, hnm, hlk, rfl, rfl, rfl, h00⟩ := K
  obtain ⟨locs, X, eT, N⟩ := H
  obtain ⟨fs, hr, hrun, hended, hW, hsame⟩ := X.leave (v := v) (fun q => hv (hret ▸ q)) hlk
  exact ⟨_, _, hs p l e s m args below meth c locs X hx hby hret fs hr, hrun, hended, v, locs, rfl, ⟨by show Q v T.heap; rw [eT]; exact hq, N⟩, ⟨v, rfl⟩, hW, hsame.mono hk hn⟩
theorem go_ret (K : Cx w R Z n0 own bytes mx rt nm) (H : At1 w T h k n) {P : Heap → Prop} (d : Dc bytes pc .return_ 1 pc') (hr : rt = none) (hk : k ≤ R.cells) (hn : n ≤ R.slots) (hq : P h) : Go w (RV P) T pc L [] :=
  go_leave K H (fun _ => rfl) hk hn (fun p l e s m args below meth c locs X hx hby hret fs hl => X.returnOut hx (hret.trans hr) (dcb hby d) hl) ⟨rfl, hq⟩
theorem go_retV (K : Cx w R Z n0 own bytes mx rt nm) (H : At1 w T h k n) {v : Value} {t : FieldType} {i : Instr} (d : Dc bytes pc i 1 pc') (hr : rt = some t) (hnar : narrow t v = v)
    (hi : (i = .ireturn ∧ (t = .int ∨ t = .boolean ∨ t = .byte ∨ t = .char ∨ t = .short) ∧ ∃ z, v = .int z) ∨ (i = .lreturn ∧ t = .long ∧ ∃ z, v = .long z) ∨ (i = .dreturn ∧ t = .double ∧ ∃ z, v = .double z) ∨ (i = .freturn ∧ t = .float ∧ ∃ z, v = .float z) ∨ (i = .areturn ∧ t.isReference = true ∧ v.isRef = true))
    (hk : k ≤ R.cells) (hn : n ≤ R.slots) (hq : Q (some v) h) : Go w Q T pc L (v :: st) :=
  go_leave K H (fun q => by rw [hr] at q; cases q) hk hn (fun p l e s m args below meth c locs X hx hby hret fs hl => retOut X hx (hret.trans hr) hnar hi (dcb hby d) hl) hq
theorem go_iret (K : Cx w R Z n0 own bytes mx rt nm) (H : At1 w T h k n) {P : Int32 → Heap → Prop} {z : Int32} (d : Dc bytes pc .ireturn 1 pc') (hr : rt = some .int) (hk : k ≤ R.cells) (hn : n ≤ R.slots) (hq : P z h) : Go w (RI P) T pc L (.int z :: st) :=
  go_retV K H d hr rfl (Or.inl ⟨rfl, Or.inl rfl, z, rfl⟩) hk hn ⟨z, rfl, hq⟩
theorem go_zret (K : Cx w R Z n0 own bytes mx rt nm) (H : At1 w T h k n) {P : Int32 → Heap → Prop} {z : Int32} (d : Dc bytes pc .ireturn 1 pc') (hr : rt = some .boolean) (hz : nar .boolean z = z) (hk : k ≤ R.cells) (hn : n ≤ R.slots) (hq : P z h) : Go w (RI P) T pc L (.int z :: st) :=
  go_retV K H d hr (by show Value.int (nar .boolean z) = _; rw [hz]) (Or.inl ⟨rfl, Or.inr (Or.inl rfl), z, rfl⟩) hk hn ⟨z, rfl, hq⟩
theorem go_lret (K : Cx w R Z n0 own bytes mx rt nm) (H : At1 w T h k n) {P : Int64 → Heap → Prop} {z : Int64} (d : Dc bytes pc .lreturn 1 pc') (hr : rt = some .long) (hk : k ≤ R.cells) (hn : n ≤ R.slots) (hq : P z h) : Go w (RL P) T pc L (.long z :: st) :=
  go_retV K H d hr rfl (Or.inr (Or.inl ⟨rfl, rfl, z, rfl⟩)) hk hn ⟨z, rfl, hq⟩
theorem go_aret (K : Cx w R Z n0 own bytes mx rt nm) (H : At1 w T h k n) {P : Value → Heap → Prop} {z : Value} {t : FieldType} (d : Dc bytes pc .areturn 1 pc') (hr : rt = some t) (ht : t.isReference = true) (hz : z.isRef = true) (hk : k ≤ R.cells) (hn : n ≤ R.slots) (hq : P z h) : Go w (RR P) T pc L (z :: st) :=
  go_retV K H d hr (by rcases ref_cases hz with rfl | ⟨a, rfl⟩ <;> (cases t <;> first | rfl | (simp [FieldType.isReference] at ht))) (Or.inr (Or.inr (Or.inr (Or.inr ⟨rfl, ht, hz⟩)))) hk hn ⟨z, rfl, hz, hq⟩
theorem go_ldcI {a0 : Array Value} {idx : Nat} (z : Int32) (K : Cx w R Z n0 own bytes mx rt nm) (H : At1 w T h k n) (d : Dc bytes pc (.ldc idx) 2 pc') (w1 : (Cond.constant own idx z).before a0 Z = true) (G : Go w Q T pc' L (.int z :: st)) : Go w Q T pc L st := by
  obtain ⟨p, l, e, R', s, m, args, below, meth, c, Z', k0⟩ := w
  obtain ⟨hx, hby, hml, hown, hZ, -⟩ := K
  obtain ⟨locs, X, -⟩ := H
  obtain ⟨s₂, o, g1, g2⟩ := G
  obtain ⟨d1, rfl⟩ := d
  exact ⟨s₂, o, X.ldcInt hx hown (mvT hZ w1) rfl (by rw [hby]; exact d1) _ g1, g2⟩
theorem go_ldcwI {a0 : Array Value} {idx : Nat} (z : Int32) (K : Cx w R Z n0 own bytes mx rt nm) (H : At1 w T h k n) (d : Dc bytes pc (.ldc_w idx) 3 pc') (w1 : (Cond.constant own idx z).before a0 Z = true) (G : Go w Q T pc' L (.int z :: st)) : Go w Q T pc L st := by
  obtain ⟨p, l, e, R', s, m, args, below, meth, c, Z', k0⟩ := w
  obtain ⟨hx, hby, hml, hown, hZ, -⟩ := K
  obtain ⟨locs, X, -⟩ := H
  obtain ⟨s₂, o, g1, g2⟩ := G
  obtain ⟨d1, rfl⟩ := d
  exact ⟨s₂, o, X.ldcwInt hx hown (mvT hZ w1) rfl (by rw [hby]; exact d1) _ g1, g2⟩
theorem go_ldcL {a0 : Array Value} {idx : Nat} (z : Int64) (K : Cx w R Z n0 own bytes mx rt nm) (H : At1 w T h k n) (d : Dc bytes pc (.ldc2_w idx) 3 pc') (w1 : (Cond.constantLong own idx z).before a0 Z = true) (G : Go w Q T pc' L (.long z :: st)) : Go w Q T pc L st := by
  obtain ⟨p, l, e, R', s, m, args, below, meth, c, Z', k0⟩ := w
  obtain ⟨hx, hby, hml, hown, hZ, -⟩ := K
  obtain ⟨locs, X, -⟩ := H
  obtain ⟨s₂, o, g1, g2⟩ := G
  obtain ⟨d1, rfl⟩ := d
  exact ⟨s₂, o, X.ldc2Long hx hown (mvT hZ w1) rfl (by rw [hby]; exact d1) _ g1, g2⟩
theorem go_getfield {a0 : Array Value} {R0 O f ds host : String} {idx : Nat} {a : Addr} {v : Value} (K : Cx w R Z n0 own bytes mx rt nm) (H : At1 w T h k n) (d : Dc bytes pc (.getfield idx) 3 pc') (w1 : (Cond.fieldLink own idx R0 f ds).before a0 Z = true ∨ (Cond.fieldLinkNest own idx R0 f ds host).before a0 Z = true) (via : Via Z R0 O f ds) (F : Fld Z h a O f ds v)
    (G : ∀ T', At1 w T' h k n → Go w Q T' pc' L (v :: st)) : Go w Q T pc L (.ref a :: st) := by
  obtain ⟨p, l, e, R', s, m, args, below, meth, c, Z', k0⟩ := w
  obtain ⟨hx, hby, hml, hown, hZ, -⟩ := K
  obtain ⟨locs, X, eT, N⟩ := H
  obtain ⟨d1, rfl⟩ := d
  obtain ⟨T', X', e', stp⟩ := getF X hx hZ hown w1 via eT F (g := mkF m pc L (.ref a :: st)) rfl rfl (by rw [hby]; exact d1)
  obtain ⟨s₂, o, g1, g2⟩ := G T' ⟨locs, X', e', N⟩
  exact ⟨s₂, o, stp _ g1, g2⟩
theorem go_getstatic {a0 : Array Value} {R0 O f ds host : String} {idx : Nat} {v : Value} (K : Cx w R Z n0 own bytes mx rt nm) (H : At1 w T h k n) (d : Dc bytes pc (.getstatic idx) 3 pc') (w1 : (Cond.fieldLink own idx R0 f ds).before a0 Z = true ∨ (Cond.fieldLinkNest own idx R0 f ds host).before a0 Z = true) (via : Via Z R0 O f ds) (F : Sta Z h O f ds v)
    (G : ∀ T', At1 w T' h k n → Go w Q T' pc' L (v :: st)) : Go w Q T pc L st := by
  obtain ⟨p, l, e, R', s, m, args, below, meth, c, Z', k0⟩ := w
  obtain ⟨hx, hby, hml, hown, hZ, -⟩ := K
  obtain ⟨locs, X, eT, N⟩ := H
  obtain ⟨d1, rfl⟩ := d
  obtain ⟨T', X', e', stp⟩ := getS2 X hx hZ hown w1 via eT F (g := mkF m pc L st) rfl (by rw [hby]; exact d1)
  obtain ⟨s₂, o, g1, g2⟩ := G T' ⟨locs, X', e', N⟩
  exact ⟨s₂, o, stp _ g1, g2⟩
theorem go_putfield {a0 : Array Value} {R0 O f ds host C : String} {idx kk : Nat} {a : Addr} {v old : Value} {ty : FieldType} (K : Cx w R Z n0 own bytes mx rt nm) (H : At1 w T h k n) (d : Dc bytes pc (.putfield idx) 3 pc') (w1 : (Cond.fieldLink own idx R0 f ds).before a0 Z = true ∨ (Cond.fieldLinkNest own idx R0 f ds host).before a0 Z = true) (via : Via Z R0 O f ds)
    (F : Fld Z h a O f ds old) (E : Exa Z h a C) (Ly : (Cond.lays C O f ds).before a0 Z = true ∨ ((Cond.laysFinal C O f ds).before a0 Z = true ∧ own = O ∧ nm = "<init>")) (wi : (Cond.instantiable C kk).before a0 Z = true)
    (hty : parseFieldDescriptor ds = some ty) (hn : narrow ty v = v) (hf : fits ty v = true) (ha : n0 ≤ a)
    (G : ∀ T' h', At1 w T' h' k n → Wr h h' a (Jvm.RoadKit.slotOf Z O f ds) v → Go w Q T' pc' L st) : Go w Q T pc L (v :: .ref a :: st) := by
  obtain ⟨p, l, e, R', s, m, args, below, meth, c, Z', k0⟩ := w
  obtain ⟨hx, hby, hml, hown, hZ, hret, hnm, hlk, rfl, rfl, rfl, h00⟩ := K
  obtain ⟨locs, X, eT, N⟩ := H
  obtain ⟨d1, rfl⟩ := d
  obtain ⟨T', h', X', e', W, stp⟩ := putF X hx hZ hown w1 via eT F E (Ly.imp id fun q => ⟨q.1, q.2.1, hnm.trans q.2.2⟩) wi hty hn hf (g := mkF m pc L (v :: .ref a :: st)) rfl rfl (by rw [hby]; exact d1)
  obtain ⟨s₂, o, g1, g2⟩ := G T' h' ⟨_, X', e', Fr.snoc X' N ha⟩ W
  exact ⟨s₂, o, stp _ g1, g2⟩
theorem go_putfieldN {a0 : Array Value} {R0 O f ds C : String} {idx kk : Nat} {a : Addr} {v v' old : Value} {ty : FieldType} (K : Cx w R Z n0 own bytes mx rt nm) (H : At1 w T h k n) (d : Dc bytes pc (.putfield idx) 3 pc') (w1 : (Cond.fieldLink own idx R0 f ds).before a0 Z = true) (via : Via Z R0 O f ds)
    (F : Fld Z h a O f ds old) (E : Exa Z h a C) (Ly : (Cond.lays C O f ds).before a0 Z = true ∨ ((Cond.laysFinal C O f ds).before a0 Z = true ∧ own = O ∧ nm = "<init>")) (wi : (Cond.instantiable C kk).before a0 Z = true)
    (hty : parseFieldDescriptor ds = some ty) (hn : narrow ty v = v') (hf : fits ty v' = true) (ha : n0 ≤ a)
    (G : ∀ T' h', At1 w T' h' k n → Wr h h' a (Jvm.RoadKit.slotOf Z O f ds) v' → Go w Q T' pc' L st) : Go w Q T pc L (v :: .ref a :: st) := by
  obtain ⟨p, l, e, R', s, m, args, below, meth, c, Z', k0⟩ := w
  obtain ⟨hx, hby, hml, hown, hZ, hret, hnm, hlk, rfl, rfl, rfl, h00⟩ := K
  obtain ⟨locs, X, eT, N⟩ := H
  obtain ⟨d1, rfl⟩ := d
  obtain ⟨T', h', X', e', W, stp⟩ := putFN X hx hZ hown w1 via eT F E (Ly.imp id fun q => ⟨q.1, q.2.1, hnm.trans q.2.2⟩) wi hty hn hf (g := mkF m pc L (v :: .ref a :: st)) rfl rfl (by rw [hby]; exact d1)
  obtain ⟨s₂, o, g1, g2⟩ := G T' h' ⟨_, X', e', Fr.snoc X' N ha⟩ W
  exact ⟨s₂, o, stp _ g1, g2⟩
theorem go_new {a0 : Array Value} {C : String} {idx sl : Nat} (K : Cx w R Z n0 own bytes mx rt nm) (H : At1 w T h k n) (d : Dc bytes pc (.new idx) 3 pc') (w1 : (Cond.classLink own idx C).before a0 Z = true) (w2 : (Cond.instantiable C sl).before a0 Z = true) (w3 : (Cond.initialized C).before a0 Z = true) (hk : k + 1 ≤ R.cells) (hn : n + sl ≤ R.slots)
    (G : ∀ T' h' a, At1 w T' h' (k + 1) (n + sl) → a = h.size → n0 ≤ a → Ext h h' → Exa Z h' a C → (∀ {O f ds : String} {ty : FieldType}, Laid Z a0 C O f ds → parseFieldDescriptor ds = some ty → Fld Z h' a O f ds (defaultValue ty)) → Go w Q T' pc' L (.ref a :: st)) : Go w Q T pc L st := by
  obtain ⟨p, l, e, R', s, m, args, below, meth, c, Z', k0⟩ := w
  obtain ⟨hx, hby, hml, hown, hZ, hret, hnm, hlk, rfl, rfl, rfl, h00⟩ := K
  obtain ⟨locs, X, eT, N⟩ := H
  obtain ⟨d1, rfl⟩ := d
  obtain ⟨T', h', X', e', E, A, D, -, stp⟩ := newO X hx hZ hown w1 w2 w3 eT (g := mkF m pc L st) rfl (by rw [hby]; exact d1) hk hn
  obtain ⟨s₂, o, g1, g2⟩ := G T' h' h.size ⟨_, X', e', N⟩ rfl (by rw [← eT]; exact Nat.le_trans h00 X.same.2.1) E A D
  exact ⟨s₂, o, stp _ g1, g2⟩
theorem go_initO {a0 : Array Value} {idx : Nat} {a : Addr} (K : Cx w R Z n0 own bytes mx rt nm) (H : At1 w T h k n) (d : Dc bytes pc (.invokespecial idx) 3 pc') (w1 : (Cond.methodLink own idx Lib.objectInit).before a0 Z = true) (w2 : (Cond.instanceMethod Lib.objectInit).before a0 Z = true) (w3 : (Cond.code Lib.objectInit ⟨#[0xb1]⟩ 1 none).before a0 Z = true)
    (hL : L.size = mx) (hf : 1 ≤ R.frames) {W : Nat} (hW : (st.map fun v => v.category).sum = W) (hl : W + 12 ≤ R.locals)
    (G : ∀ T', At1 w T' h k n → Go w Q T' pc' L st) : Go w Q T pc L (.ref a :: st) := by
  obtain ⟨p, l, e, R', s, m, args, below, meth, c, Z', k0⟩ := w
  obtain ⟨hx, hby, hml, hown, hZ, hret, hnm, hlk, rfl, rfl, rfl, h00⟩ := K
  obtain ⟨locs, X, eT, N⟩ := H
  obtain ⟨d1, rfl⟩ := d
  obtain ⟨T', X', e', stp⟩ := initO X hx hZ hown w1 w2 w3 eT (g := mkF m pc L (.ref a :: st)) rfl (hL.trans hml.symm) rfl (by rw [hby]; exact d1) hf (W := W) (by show 2 * 0 + _ ≤ _; rw [hW]; omega) hl
  obtain ⟨s₂, o, g1, g2⟩ := G T' ⟨locs, X', e', N⟩
  exact ⟨s₂, o, stp _ g1, g2⟩
/-- an array: all its components -/
def VA (Z : State) (h : Heap) (a : Addr) (ty : FieldType) (vs : List Value) : Prop := ∃ c : Cell, Arr Z h a c ty ∧ c.slots.toList = vs ∧ vs.length < 2 ^ 31
def IA (Z : State) (h : Heap) (a : Addr) (xs : List Int32) : Prop := VA Z h a .int (xs.map Value.int)
def JA (Z : State) (h : Heap) (a : Addr) (xs : List Int64) : Prop := VA Z h a .long (xs.map Value.long)
theorem VA.ext {a : Addr} {ty : FieldType} {vs : List Value} {h' : Heap} (A : VA Z h a ty vs) (E : Ext h h') : VA Z h' a ty vs := by obtain ⟨c, A, r⟩ := A; exact ⟨c, A.ext E, r⟩
theorem VA.other {a b : Addr} {ty : FieldType} {vs : List Value} {h' : Heap} {sl : Nat} {v : Value} (A : VA Z h a ty vs) (W : Wr h h' b sl v) (q : a ≠ b) : VA Z h' a ty vs := by obtain ⟨c, A, r⟩ := A; exact ⟨c, A.other W q, r⟩
theorem VA.keep {a : Addr} {ty : FieldType} {vs : List Value} {h' : Heap} {ws : List Addr} (A : VA Z h a ty vs) (K : Keep h h' ws) (q : a ∉ ws) : VA Z h' a ty vs := by obtain ⟨c, A, r⟩ := A; exact ⟨c, ⟨K.2.1 a c A.1 q, A.2⟩, r⟩
theorem VA.lt {a : Addr} {ty : FieldType} {vs : List Value} (A : VA Z h a ty vs) : a < h.size := by obtain ⟨c, A, r⟩ := A; exact A.lt
theorem VA.len {a : Addr} {ty : FieldType} {vs : List Value} (A : VA Z h a ty vs) : vs.length < 2 ^ 31 := by obtain ⟨c, A, r1, r2⟩ := A; exact r2
theorem VA.set {a : Addr} {ty : FieldType} {vs : List Value} {h' : Heap} {i : Nat} {v : Value} (A : VA Z h a ty vs) (W : Wr h h' a i v) : VA Z h' a ty (vs.set i v) := by
  obtain ⟨c, A, r1, r2⟩ := A
  exact ⟨_, A.same W, by simp [Cell.setSlot, r1], by simpa using r2⟩
theorem IA.ext {a : Addr} {xs : List Int32} {h' : Heap} (A : IA Z h a xs) (E : Ext h h') : IA Z h' a xs := VA.ext A E
theorem IA.other {a b : Addr} {xs : List Int32} {h' : Heap} {sl : Nat} {v : Value} (A : IA Z h a xs) (W : Wr h h' b sl v) (q : a ≠ b) : IA Z h' a xs := VA.other A W q
theorem IA.keep {a : Addr} {xs : List Int32} {h' : Heap} {ws : List Addr} (A : IA Z h a xs) (K : Keep h h' ws) (q : a ∉ ws) : IA Z h' a xs := VA.keep A K q
theorem IA.lt {a : Addr} {xs : List Int32} (A : IA Z h a xs) : a < h.size := VA.lt A
theorem IA.len {a : Addr} {xs : List Int32} (A : IA Z h a xs) : xs.length < 2 ^ 31 := by simpa using VA.len A
theorem IA.set {a : Addr} {xs : List Int32} {h' : Heap} {i : Nat} {x : Int32} (A : IA Z h a xs) (W : Wr h h' a i (.int x)) : IA Z h' a (xs.set i x) := by
  have q := VA.set A W
  rw [← List.map_set] at q; exact q
theorem JA.ext {a : Addr} {xs : List Int64} {h' : Heap} (A : JA Z h a xs) (E : Ext h h') : JA Z h' a xs := VA.ext A E
theorem JA.other {a b : Addr} {xs : List Int64} {h' : Heap} {sl : Nat} {v : Value} (A : JA Z h a xs) (W : Wr h h' b sl v) (q : a ≠ b) : JA Z h' a xs := VA.other A W q
theorem JA.keep {a : Addr} {xs : List Int64} {h' : Heap} {ws : List Addr} (A : JA Z h a xs) (K : Keep h h' ws) (q : a ∉ ws) : JA Z h' a xs := VA.keep A K q
theorem JA.lt {a : Addr} {xs : List Int64} (A : JA Z h a xs) : a < h.size := VA.lt A
theorem JA.len {a : Addr} {xs : List Int64} (A : JA Z h a xs) : xs.length < 2 ^ 31 := by simpa using VA.len A
theorem JA.set {a : Addr} {xs : List Int64} {h' : Heap} {i : Nat} {x : Int64} (A : JA Z h a xs) (W : Wr h h' a i (.long x)) : JA Z h' a (xs.set i x) := by
  have q := VA.set A W
  rw [← List.map_set] at q; exact q
theorem idx_nat {j : Int32} {i : Nat} (hj : j.toInt = (i : Int)) : ¬ j < 0 ∧ j.toNatClampNeg = i := by
  constructor
  · rw [Int32.lt_iff_toInt_lt, hj]; show ¬ ((i : Int) < 0); omega
  · simp only [Int32.toNatClampNeg, hj]; omega
theorem slot_at {c : Cell} {vs : List Value} {i : Nat} {v : Value} (r : c.slots.toList = vs) (hi : vs[i]? = some v) : c.slots[i]? = some v := by rw [← Array.getElem?_toList, r]; exact hi
theorem inb_at {c : Cell} {vs : List Value} {j : Int32} {i : Nat} (r : c.slots.toList = vs) (hj : j.toInt = (i : Int)) (hi : i < vs.length) : ¬ (j < 0 ∨ c.slots.size ≤ j.toNatClampNeg) := by
  obtain ⟨h1, h2⟩ := idx_nat hj
  have e : c.slots.size = vs.length := by rw [← r]; simp
  rw [h2, e]
  rintro (q | q)
  · exact h1 q
  · omega
theorem lt_of_at {α : Type} {vs : List α} {i : Nat} {v : α} (hi : vs[i]? = some v) : i < vs.length := (List.getElem?_eq_some_iff.mp hi).1
theorem go_newarray {a0 : Array Value} {aty : ArrayType} {m : Int32} (cap : Nat) (K : Cx w R Z n0 own bytes mx rt nm) (H : At1 w T h k n) (d : Dc bytes pc (.newarray aty) 2 pc') (w1 : (Cond.arrayClass (newarray.typeOf aty)).before a0 Z = true) (hm : ¬ m < 0) (hcap : m.toNatClampNeg ≤ cap) (hb : cap * 8 ≤ 536870912) (hk : k + 1 ≤ R.cells) (hn : n + cap ≤ R.slots)
    (G : ∀ T' h' a, At1 w T' h' (k + 1) (n + cap) → a = h.size → n0 ≤ a → Ext h h' → VA Z h' a (newarray.typeOf aty) (List.replicate m.toNatClampNeg (defaultValue (newarray.typeOf aty))) → Go w Q T' pc' L (.ref a :: st)) : Go w Q T pc L (.int m :: st) := by
  obtain ⟨p, l, e, R', s, mm, args, below, meth, c, Z', k0⟩ := w
  obtain ⟨hx, hby, hml, hown, hZ, hret, hnm, hlk, rfl, rfl, rfl, h00⟩ := K
  obtain ⟨locs, X, eT, N⟩ := H
  obtain ⟨d1, rfl⟩ := d
  obtain ⟨T', h', cA, X', e', E, A, stp⟩ := newP X hx hZ w1 eT (g := mkF mm pc L (.int m :: st)) rfl (by rw [hby]; exact d1) rfl hm hcap hb hk hn
  obtain ⟨s₂, o, g1, g2⟩ := G T' h' h.size ⟨_, X', e', N⟩ rfl (by rw [← eT]; exact Nat.le_trans h00 X.same.2.1) E ⟨_, A, by simp [newA], by simpa using (back32 hm).2⟩
  exact ⟨s₂, o, stp _ g1, g2⟩
theorem go_arraylength {a : Addr} {ty : FieldType} {vs : List Value} (K : Cx w R Z n0 own bytes mx rt nm) (H : At1 w T h k n) (d : Dc bytes pc .arraylength 1 pc') (A : VA Z h a ty vs) (G : ∀ z : Int32, z.toInt = (vs.length : Int) → Go w Q T pc' L (.int z :: st)) : Go w Q T pc L (.ref a :: st) := by
  obtain ⟨p, l, e, R', s, m, args, below, meth, c, Z', k0⟩ := w
  obtain ⟨hx, hby, hml, hown, hZ, -⟩ := K
  obtain ⟨locs, X, eT, N⟩ := H
  obtain ⟨d1, rfl⟩ := d
  obtain ⟨cl, A, r1, r2⟩ := A
  have e : cl.slots.size = vs.length := by rw [← r1]; simp
  obtain ⟨s₂, o, g1, g2⟩ := G cl.slots.size.toInt32 (by rw [e]; exact len_toInt r2)
  exact ⟨s₂, o, X.arraylength hx (by rw [eT]; exact A.1) (State.isArrayOf_alike hZ.alike A.2.1) (g := mkF m pc L (.ref a :: st)) rfl rfl (by rw [hby]; exact d1) _ g1, g2⟩
theorem go_iaload {a : Addr} {vs : List Value} {j : Int32} (i : Nat) {v : Value} (K : Cx w R Z n0 own bytes mx rt nm) (H : At1 w T h k n) (d : Dc bytes pc .iaload 1 pc') (A : VA Z h a .int vs) (hj : j.toInt = (i : Int)) (hi : vs[i]? = some v) (G : Go w Q T pc' L (v :: st)) : Go w Q T pc L (.int j :: .ref a :: st) := by
  obtain ⟨p, l, e, R', s, m, args, below, meth, c, Z', k0⟩ := w
  obtain ⟨hx, hby, hml, hown, hZ, -⟩ := K
  obtain ⟨locs, X, eT, N⟩ := H
  obtain ⟨d1, rfl⟩ := d
  obtain ⟨cl, A, r1, r2⟩ := A
  obtain ⟨s₂, o, g1, g2⟩ := G
  exact ⟨s₂, o, X.iaload hx (by rw [eT]; exact A.1) (State.isArrayOf_alike hZ.alike A.2.1) A.2.2 (inb_at r1 hj (lt_of_at hi)) (by rw [(idx_nat hj).2]; exact slot_at r1 hi) (g := mkF m pc L (.int j :: .ref a :: st)) rfl rfl (by rw [hby]; exact d1) _ g1, g2⟩
theorem go_laload {a : Addr} {vs : List Value} {j : Int32} (i : Nat) {v : Value} (K : Cx w R Z n0 own bytes mx rt nm) (H : At1 w T h k n) (d : Dc bytes pc .laload 1 pc') (A : VA Z h a .long vs) (hj : j.toInt = (i : Int)) (hi : vs[i]? = some v) (G : Go w Q T pc' L (v :: st)) : Go w Q T pc L (.int j :: .ref a :: st) := by
  obtain ⟨p, l, e, R', s, m, args, below, meth, c, Z', k0⟩ := w
  obtain ⟨hx, hby, hml, hown, hZ, -⟩ := K
  obtain ⟨locs, X, eT, N⟩ := H
  obtain ⟨d1, rfl⟩ := d
  obtain ⟨cl, A, r1, r2⟩ := A
  obtain ⟨s₂, o, g1, g2⟩ := G
  exact ⟨s₂, o, X.laload hx (by rw [eT]; exact A.1) (State.isArrayOf_alike hZ.alike A.2.1) A.2.2 (inb_at r1 hj (lt_of_at hi)) (by rw [(idx_nat hj).2]; exact slot_at r1 hi) (g := mkF m pc L (.int j :: .ref a :: st)) rfl rfl (by rw [hby]; exact d1) _ g1, g2⟩
theorem go_caload {a : Addr} {vs : List Value} {j : Int32} (i : Nat) {v : Value} (K : Cx w R Z n0 own bytes mx rt nm) (H : At1 w T h k n) (d : Dc bytes pc .caload 1 pc') (A : VA Z h a .char vs) (hj : j.toInt = (i : Int)) (hi : vs[i]? = some v) (G : Go w Q T pc' L (v :: st)) : Go w Q T pc L (.int j :: .ref a :: st) := by
  obtain ⟨p, l, e, R', s, m, args, below, meth, c, Z', k0⟩ := w
  obtain ⟨hx, hby, hml, hown, hZ, -⟩ := K
  obtain ⟨locs, X, eT, N⟩ := H
  obtain ⟨d1, rfl⟩ := d
  obtain ⟨cl, A, r1, r2⟩ := A
  obtain ⟨s₂, o, g1, g2⟩ := G
  exact ⟨s₂, o, X.caload hx (by rw [eT]; exact A.1) (State.isArrayOf_alike hZ.alike A.2.1) A.2.2 (inb_at r1 hj (lt_of_at hi)) (by rw [(idx_nat hj).2]; exact slot_at r1 hi) (g := mkF m pc L (.int j :: .ref a :: st)) rfl rfl (by rw [hby]; exact d1) _ g1, g2⟩
theorem go_baload {a : Addr} {vs : List Value} {j : Int32} (i : Nat) {v : Value} (K : Cx w R Z n0 own bytes mx rt nm) (H : At1 w T h k n) (d : Dc bytes pc .baload 1 pc') (A : VA Z h a .byte vs) (hj : j.toInt = (i : Int)) (hi : vs[i]? = some v) (G : Go w Q T pc' L (v :: st)) : Go w Q T pc L (.int j :: .ref a :: st) := by
  obtain ⟨p, l, e, R', s, m, args, below, meth, c, Z', k0⟩ := w
  obtain ⟨hx, hby, hml, hown, hZ, -⟩ := K
  obtain ⟨locs, X, eT, N⟩ := H
  obtain ⟨d1, rfl⟩ := d
  obtain ⟨cl, A, r1, r2⟩ := A
  obtain ⟨s₂, o, g1, g2⟩ := G
  exact ⟨s₂, o, X.baloadBytes hx (by rw [eT]; exact A.1) (State.isArrayOf_alike hZ.alike A.2.1) A.2.2 (inb_at r1 hj (lt_of_at hi)) (by rw [(idx_nat hj).2]; exact slot_at r1 hi) (g := mkF m pc L (.int j :: .ref a :: st)) rfl rfl (by rw [hby]; exact d1) _ g1, g2⟩
theorem go_aaload {a : Addr} {ty : FieldType} {vs : List Value} {j : Int32} (i : Nat) {v : Value} (K : Cx w R Z n0 own bytes mx rt nm) (H : At1 w T h k n) (d : Dc bytes pc .aaload 1 pc') (A : VA Z h a ty vs) (hty : ty.isReference = true) (hj : j.toInt = (i : Int)) (hi : vs[i]? = some v) (G : Go w Q T pc' L (v :: st)) : Go w Q T pc L (.int j :: .ref a :: st) := by
  obtain ⟨p, l, e, R', s, m, args, below, meth, c, Z', k0⟩ := w
  obtain ⟨hx, hby, hml, hown, hZ, -⟩ := K
  obtain ⟨locs, X, eT, N⟩ := H
  obtain ⟨d1, rfl⟩ := d
  obtain ⟨cl, A, r1, r2⟩ := A
  obtain ⟨s₂, o, g1, g2⟩ := G
  exact ⟨s₂, o, X.aaload hx (by rw [eT]; exact A.1) (State.isArrayOf_alike hZ.alike A.2.1) hty A.2.2 (inb_at r1 hj (lt_of_at hi)) (by rw [(idx_nat hj).2]; exact slot_at r1 hi) (g := mkF m pc L (.int j :: .ref a :: st)) rfl rfl (by rw [hby]; exact d1) _ g1, g2⟩
theorem go_iastore {a : Addr} {vs : List Value} {j : Int32} {x : Int32} (i : Nat) (K : Cx w R Z n0 own bytes mx rt nm) (H : At1 w T h k n) (d : Dc bytes pc .iastore 1 pc') (A : VA Z h a .int vs) (hj : j.toInt = (i : Int)) (hi : i < vs.length) (ha : n0 ≤ a) (G : ∀ T' h', At1 w T' h' k n → Wr h h' a i (.int x) → Go w Q T' pc' L st) : Go w Q T pc L (.int x :: .int j :: .ref a :: st) := by
  obtain ⟨p, l, e, R', s, m, args, below, meth, c, Z', k0⟩ := w
  obtain ⟨hx, hby, hml, hown, hZ, hret, hnm, hlk, rfl, rfl, rfl, h00⟩ := K
  obtain ⟨locs, X, eT, N⟩ := H
  obtain ⟨d1, rfl⟩ := d
  obtain ⟨cl, A, r1, r2⟩ := A
  obtain ⟨T', h', X', e', W, stp⟩ := stI X hx hZ eT A (inb_at r1 hj hi) (g := mkF m pc L (.int x :: .int j :: .ref a :: st)) rfl rfl (by rw [hby]; exact d1)
  obtain ⟨s₂, o, g1, g2⟩ := G T' h' ⟨_, X', e', Fr.snoc X' N ha⟩ (by rw [← (idx_nat hj).2]; exact W)
  exact ⟨s₂, o, stp _ g1, g2⟩
theorem go_lastore {a : Addr} {vs : List Value} {j : Int32} {x : Int64} (i : Nat) (K : Cx w R Z n0 own bytes mx rt nm) (H : At1 w T h k n) (d : Dc bytes pc .lastore 1 pc') (A : VA Z h a .long vs) (hj : j.toInt = (i : Int)) (hi : i < vs.length) (ha : n0 ≤ a) (G : ∀ T' h', At1 w T' h' k n → Wr h h' a i (.long x) → Go w Q T' pc' L st) : Go w Q T pc L (.long x :: .int j :: .ref a :: st) := by
  obtain ⟨p, l, e, R', s, m, args, below, meth, c, Z', k0⟩ := w
  obtain ⟨hx, hby, hml, hown, hZ, hret, hnm, hlk, rfl, rfl, rfl, h00⟩ := K
  obtain ⟨locs, X, eT, N⟩ := H
  obtain ⟨d1, rfl⟩ := d
  obtain ⟨cl, A, r1, r2⟩ := A
  obtain ⟨T', h', X', e', W, stp⟩ := stJ X hx hZ eT A (inb_at r1 hj hi) (g := mkF m pc L (.long x :: .int j :: .ref a :: st)) rfl rfl (by rw [hby]; exact d1)
  obtain ⟨s₂, o, g1, g2⟩ := G T' h' ⟨_, X', e', Fr.snoc X' N ha⟩ (by rw [← (idx_nat hj).2]; exact W)
  exact ⟨s₂, o, stp _ g1, g2⟩
theorem go_castore {a : Addr} {vs : List Value} {j : Int32} {x : Int32} (i : Nat) (K : Cx w R Z n0 own bytes mx rt nm) (H : At1 w T h k n) (d : Dc bytes pc .castore 1 pc') (A : VA Z h a .char vs) (hj : j.toInt = (i : Int)) (hi : i < vs.length) (ha : n0 ≤ a) (G : ∀ T' h', At1 w T' h' k n → Wr h h' a i (.int (nar .char x)) → Go w Q T' pc' L st) : Go w Q T pc L (.int x :: .int j :: .ref a :: st) := by
  obtain ⟨p, l, e, R', s, m, args, below, meth, c, Z', k0⟩ := w
  obtain ⟨hx, hby, hml, hown, hZ, hret, hnm, hlk, rfl, rfl, rfl, h00⟩ := K
  obtain ⟨locs, X, eT, N⟩ := H
  obtain ⟨d1, rfl⟩ := d
  obtain ⟨cl, A, r1, r2⟩ := A
  obtain ⟨T', h', X', e', W, stp⟩ := stC X hx hZ eT A (inb_at r1 hj hi) (g := mkF m pc L (.int x :: .int j :: .ref a :: st)) rfl rfl (by rw [hby]; exact d1)
  obtain ⟨s₂, o, g1, g2⟩ := G T' h' ⟨_, X', e', Fr.snoc X' N ha⟩ (by rw [← (idx_nat hj).2]; exact W)
  exact ⟨s₂, o, stp _ g1, g2⟩
theorem go_bastore {a : Addr} {vs : List Value} {j : Int32} {x : Int32} (i : Nat) (K : Cx w R Z n0 own bytes mx rt nm) (H : At1 w T h k n) (d : Dc bytes pc .bastore 1 pc') (A : VA Z h a .byte vs) (hj : j.toInt = (i : Int)) (hi : i < vs.length) (ha : n0 ≤ a) (G : ∀ T' h', At1 w T' h' k n → Wr h h' a i (.int x.toInt8.toInt32) → Go w Q T' pc' L st) : Go w Q T pc L (.int x :: .int j :: .ref a :: st) := by
  obtain ⟨p, l, e, R', s, m, args, below, meth, c, Z', k0⟩ := w
  obtain ⟨hx, hby, hml, hown, hZ, hret, hnm, hlk, rfl, rfl, rfl, h00⟩ := K
  obtain ⟨locs, X, eT, N⟩ := H
  obtain ⟨d1, rfl⟩ := d
  obtain ⟨cl, A, r1, r2⟩ := A
  obtain ⟨T', h', X', e', W, stp⟩ := stB X hx hZ eT A (inb_at r1 hj hi) (g := mkF m pc L (.int x :: .int j :: .ref a :: st)) rfl rfl (by rw [hby]; exact d1)
  obtain ⟨s₂, o, g1, g2⟩ := G T' h' ⟨_, X', e', Fr.snoc X' N ha⟩ (by rw [← (idx_nat hj).2]; exact W)
  exact ⟨s₂, o, stp _ g1, g2⟩
theorem at_nat {α : Type} {xs : List α} {j : Int32} (h0 : 0 ≤ j.toInt) (h1 : j.toInt < xs.length) : ∃ (i : Nat) (x : α), j.toInt = (i : Int) ∧ xs[i]? = some x :=
  ⟨j.toInt.toNat, _, (Int.toNat_of_nonneg h0).symm, List.getElem?_eq_getElem (by omega)⟩
theorem go_iaI {a : Addr} {xs : List Int32} {j : Int32} (K : Cx w R Z n0 own bytes mx rt nm) (H : At1 w T h k n) (d : Dc bytes pc .iaload 1 pc') (A : IA Z h a xs) (h0 : 0 ≤ j.toInt) (h1 : j.toInt < xs.length) (G : ∀ (i : Nat) (x : Int32), j.toInt = (i : Int) → xs[i]? = some x → Go w Q T pc' L (.int x :: st)) : Go w Q T pc L (.int j :: .ref a :: st) := by
  obtain ⟨i, x, e, hx⟩ := at_nat h0 h1
  exact go_iaload i K H d A e (by rw [List.getElem?_map, hx]; rfl) (G i x e hx)
theorem go_laJ {a : Addr} {xs : List Int64} {j : Int32} (K : Cx w R Z n0 own bytes mx rt nm) (H : At1 w T h k n) (d : Dc bytes pc .laload 1 pc') (A : JA Z h a xs) (h0 : 0 ≤ j.toInt) (h1 : j.toInt < xs.length) (G : ∀ (i : Nat) (x : Int64), j.toInt = (i : Int) → xs[i]? = some x → Go w Q T pc' L (.long x :: st)) : Go w Q T pc L (.int j :: .ref a :: st) := by
  obtain ⟨i, x, e, hx⟩ := at_nat h0 h1
  exact go_laload i K H d A e (by rw [List.getElem?_map, hx]; rfl) (G i x e hx)
theorem go_iasI {a : Addr} {xs : List Int32} {j x : Int32} (K : Cx w R Z n0 own bytes mx rt nm) (H : At1 w T h k n) (d : Dc bytes pc .iastore 1 pc') (A : IA Z h a xs) (h0 : 0 ≤ j.toInt) (h1 : j.toInt < xs.length) (ha : n0 ≤ a) (G : ∀ T' h' (i : Nat), At1 w T' h' k n → j.toInt = (i : Int) → Wr h h' a i (.int x) → IA Z h' a (xs.set i x) → Go w Q T' pc' L st) : Go w Q T pc L (.int x :: .int j :: .ref a :: st) := by
  have e : j.toInt = (j.toInt.toNat : Int) := (Int.toNat_of_nonneg h0).symm
  exact go_iastore j.toInt.toNat K H d A e (by rw [List.length_map]; omega) ha fun T' h' H' W => G T' h' _ H' e W (IA.set A W)
theorem go_lasJ {a : Addr} {xs : List Int64} {j : Int32} {x : Int64} (K : Cx w R Z n0 own bytes mx rt nm) (H : At1 w T h k n) (d : Dc bytes pc .lastore 1 pc') (A : JA Z h a xs) (h0 : 0 ≤ j.toInt) (h1 : j.toInt < xs.length) (ha : n0 ≤ a) (G : ∀ T' h' (i : Nat), At1 w T' h' k n → j.toInt = (i : Int) → Wr h h' a i (.long x) → JA Z h' a (xs.set i x) → Go w Q T' pc' L st) : Go w Q T pc L (.long x :: .int j :: .ref a :: st) := by
  have e : j.toInt = (j.toInt.toNat : Int) := (Int.toNat_of_nonneg h0).symm
  exact go_lastore j.toInt.toNat K H d A e (by rw [List.length_map]; omega) ha fun T' h' H' W => G T' h' _ H' e W (JA.set A W)
/-- an array of references over C: all its components -/
def OA (Z : State) (h : Heap) (a : Addr) (C : String) (vs : List Value) : Prop := ∃ c : Cell, Arr Z h a c (.object C) ∧ c.slots.toList = vs ∧ vs.length < 2 ^ 31 ∧ Ovr Z c.cls C
theorem OA.va {a : Addr} {C : String} {vs : List Value} (A : OA Z h a C vs) : VA Z h a (.object C) vs := by obtain ⟨c, A, r1, r2, -⟩ := A; exact ⟨c, A, r1, r2⟩
theorem OA.ext {a : Addr} {C : String} {vs : List Value} {h' : Heap} (A : OA Z h a C vs) (E : Ext h h') : OA Z h' a C vs := by obtain ⟨c, A, r⟩ := A; exact ⟨c, A.ext E, r⟩
theorem OA.other {a b : Addr} {C : String} {vs : List Value} {h' : Heap} {sl : Nat} {v : Value} (A : OA Z h a C vs) (W : Wr h h' b sl v) (q : a ≠ b) : OA Z h' a C vs := by obtain ⟨c, A, r⟩ := A; exact ⟨c, A.other W q, r⟩
theorem OA.keep {a : Addr} {C : String} {vs : List Value} {h' : Heap} {ws : List Addr} (A : OA Z h a C vs) (K : Keep h h' ws) (q : a ∉ ws) : OA Z h' a C vs := by obtain ⟨c, A, r⟩ := A; exact ⟨c, ⟨K.2.1 a c A.1 q, A.2⟩, r⟩
theorem OA.lt {a : Addr} {C : String} {vs : List Value} (A : OA Z h a C vs) : a < h.size := A.va.lt
theorem OA.set {a : Addr} {C : String} {vs : List Value} {h' : Heap} {i : Nat} {v : Value} (A : OA Z h a C vs) (W : Wr h h' a i v) : OA Z h' a C (vs.set i v) := by
  obtain ⟨c, A, r1, r2, r3⟩ := A
  exact ⟨_, A.same W, by simp [Cell.setSlot, r1], by simpa using r2, r3⟩
theorem go_anewarray {a0 : Array Value} {C : String} {idx : Nat} {m : Int32} (cap : Nat) (K : Cx w R Z n0 own bytes mx rt nm) (H : At1 w T h k n) (d : Dc bytes pc (.anewarray idx) 3 pc') (w1 : (Cond.classLink own idx C).before a0 Z = true) (w2 : (Cond.arrayOver (.object C)).before a0 Z = true) (hm : ¬ m < 0) (hcap : m.toNatClampNeg ≤ cap) (hb : cap * 8 ≤ 536870912) (hk : k + 1 ≤ R.cells) (hn : n + cap ≤ R.slots)
    (G : ∀ T' h' a, At1 w T' h' (k + 1) (n + cap) → a = h.size → n0 ≤ a → Ext h h' → OA Z h' a C (List.replicate m.toNatClampNeg .null) → Go w Q T' pc' L (.ref a :: st)) : Go w Q T pc L (.int m :: st) := by
  obtain ⟨p, l, e, R', s, mm, args, below, meth, c, Z', k0⟩ := w
  obtain ⟨hx, hby, hml, hown, hZ, hret, hnm, hlk, rfl, rfl, rfl, h00⟩ := K
  obtain ⟨locs, X, eT, N⟩ := H
  obtain ⟨d1, rfl⟩ := d
  obtain ⟨T', h', cA, X', e', E, A, O, stp⟩ := newR X hx hZ hown w1 w2 eT (g := mkF mm pc L (.int m :: st)) rfl (by rw [hby]; exact d1) rfl hm hcap hb hk hn
  obtain ⟨s₂, o, g1, g2⟩ := G T' h' h.size ⟨_, X', e', N⟩ rfl (by rw [← eT]; exact Nat.le_trans h00 X.same.2.1) E ⟨_, A, by simp [newA, defaultValue], by simpa using (back32 hm).2, O⟩
  exact ⟨s₂, o, stp _ g1, g2⟩
theorem go_aastore {a : Addr} {C : String} {vs : List Value} {j : Int32} {v : Value} (i : Nat) (K : Cx w R Z n0 own bytes mx rt nm) (H : At1 w T h k n) (d : Dc bytes pc .aastore 1 pc') (A : OA Z h a C vs) (hv : v = .null ∨ ∃ y, v = .ref y ∧ Ins Z h y C true) (hj : j.toInt = (i : Int)) (hi : i < vs.length) (ha : n0 ≤ a) (G : ∀ T' h', At1 w T' h' k n → Wr h h' a i v → OA Z h' a C (vs.set i v) → Go w Q T' pc' L st) : Go w Q T pc L (v :: .int j :: .ref a :: st) := by
  obtain ⟨p, l, e, R', s, m, args, below, meth, c, Z', k0⟩ := w
  obtain ⟨hx, hby, hml, hown, hZ, hret, hnm, hlk, rfl, rfl, rfl, h00⟩ := K
  obtain ⟨locs, X, eT, N⟩ := H
  obtain ⟨d1, rfl⟩ := d
  have A' := A
  obtain ⟨cl, A, r1, r2, r3⟩ := A
  have S : Sto Z' h a v := by
    rcases hv with rfl | ⟨y, rfl, I⟩
    · exact Or.inl rfl
    · exact Sto.of A r3 I
  obtain ⟨T', h', X', e', W, stp⟩ := stR X hx hZ eT A (inb_at r1 hj hi) rfl S (g := mkF m pc L (v :: .int j :: .ref a :: st)) rfl rfl (by rw [hby]; exact d1)
  have W' : Wr h h' a i v := by rw [← (idx_nat hj).2]; exact W
  obtain ⟨s₂, o, g1, g2⟩ := G T' h' ⟨_, X', e', Fr.snoc X' N ha⟩ W' (A'.set W')
  exact ⟨s₂, o, stp _ g1, g2⟩
theorem go_checkcast {a0 : Array Value} {C : String} {idx : Nat} {a : Addr} (K : Cx w R Z n0 own bytes mx rt nm) (H : At1 w T h k n) (d : Dc bytes pc (.checkcast idx) 3 pc') (w1 : (Cond.classLink own idx C).before a0 Z = true) (F : Ins Z h a C true)
    (G : ∀ T', At1 w T' h k n → Go w Q T' pc' L (.ref a :: st)) : Go w Q T pc L (.ref a :: st) := by
  obtain ⟨p, l, e, R', s, m, args, below, meth, c, Z', k0⟩ := w
  obtain ⟨hx, hby, hml, hown, hZ, -⟩ := K
  obtain ⟨locs, X, eT, N⟩ := H
  obtain ⟨d1, rfl⟩ := d
  obtain ⟨T', X', e', stp⟩ := castY X hx hZ hown w1 eT F (g := mkF m pc L (.ref a :: st)) rfl rfl (by rw [hby]; exact d1)
  obtain ⟨s₂, o, g1, g2⟩ := G T' ⟨locs, X', e', N⟩
  exact ⟨s₂, o, stp _ g1, g2⟩
theorem go_instY {a0 : Array Value} {C : String} {idx : Nat} {a : Addr} (K : Cx w R Z n0 own bytes mx rt nm) (H : At1 w T h k n) (d : Dc bytes pc (.instanceof idx) 3 pc') (w1 : (Cond.classLink own idx C).before a0 Z = true) (F : Ins Z h a C true)
    (G : ∀ T', At1 w T' h k n → Go w Q T' pc' L (.int 1 :: st)) : Go w Q T pc L (.ref a :: st) := by
  obtain ⟨p, l, e, R', s, m, args, below, meth, c, Z', k0⟩ := w
  obtain ⟨hx, hby, hml, hown, hZ, -⟩ := K
  obtain ⟨locs, X, eT, N⟩ := H
  obtain ⟨d1, rfl⟩ := d
  obtain ⟨T', X', e', stp⟩ := instY X hx hZ hown w1 eT F (g := mkF m pc L (.ref a :: st)) rfl rfl (by rw [hby]; exact d1)
  obtain ⟨s₂, o, g1, g2⟩ := G T' ⟨locs, X', e', N⟩
  exact ⟨s₂, o, stp _ g1, g2⟩
theorem eqI_v {t : Term} {z : Int32} {args : Array Value} {s : State} (h : (Cond.eq t (.int z)).value args s none s [] = some true) : t.eval args s none [] s = some (.int z) := by
  obtain ⟨x, y, h1, h2, k1, k2⟩ := cmp_v (Or.inl h)
  cases (Term.int_eval z).symm.trans h2
  obtain ⟨q, rfl⟩ := k2
  rw [h1, gotT (Cond.eq_ints h1 h2) h]
theorem len_size {t : Term} {z : Int32} {a : Addr} {c : Cell} {args : Array Value} {s : State} (h : (Term.length t).eval args s none [] s = some (.int z)) (ht : t.eval args s none [] s = some (.ref a)) (hc : s.heap[a]? = some c) : (c.slots.size : Int) = z.toInt := by
  obtain ⟨a', c', e1, e2, e3⟩ := Term.length_spec h
  cases ht.symm.trans e1
  cases hc.symm.trans (State.arrayAt?_spec e2).1
  by_cases q : c.slots.size < 2 ^ 31
  · cases e3; exact (len_toInt q).symm
  · simp [Term.eval, ht, e2, q] at h
theorem elem_val {t : Term} {z : Int32} {a : Addr} {c : Cell} {args : Array Value} {s : State} {j : Int32} (h : (Term.elem t (.int j)).eval args s none [] s = some (.int z)) (ht : t.eval args s none [] s = some (.ref a)) (hc : s.heap[a]? = some c) : c.slots[j.toNatClampNeg]? = some (.int z) := (elem_in h ht (Term.int_eval j) hc).2
theorem go_instNull {idx : Nat} (K : Cx w R Z n0 own bytes mx rt nm) (H : At1 w T h k n) (d : Dc bytes pc (.instanceof idx) 3 pc') (G : Go w Q T pc' L (.int 0 :: st)) : Go w Q T pc L (.null :: st) := by
  obtain ⟨p, l, e, R', s, m, args, below, meth, c, Z', k0⟩ := w
  obtain ⟨hx, hby, -⟩ := K
  obtain ⟨locs, X, eT, N⟩ := H
  obtain ⟨d1, rfl⟩ := d
  obtain ⟨s₂, o, g1, g2⟩ := G
  exact ⟨s₂, o, X.instanceofNull hx (g := mkF m pc L (.null :: st)) rfl rfl (by rw [hby]; exact d1) _ g1, g2⟩
theorem go_instNo {a0 : Array Value} {C C' : String} {idx : Nat} {a : Addr} (K : Cx w R Z n0 own bytes mx rt nm) (H : At1 w T h k n) (d : Dc bytes pc (.instanceof idx) 3 pc') (w1 : (Cond.classLink own idx C).before a0 Z = true) (E : Exa Z h a C') (F : ∃ c t, Z.vm.findClass C' = some c ∧ Z.vm.findClass C = some t ∧ Z.vm.assignable c t = false)
    (G : ∀ T', At1 w T' h k n → Go w Q T' pc' L (.int 0 :: st)) : Go w Q T pc L (.ref a :: st) := by
  obtain ⟨p, l, e, R', s, m, args, below, meth, c, Z', k0⟩ := w
  obtain ⟨hx, hby, hml, hown, hZ, -⟩ := K
  obtain ⟨locs, X, eT, N⟩ := H
  obtain ⟨d1, rfl⟩ := d
  obtain ⟨T', X', e', stp⟩ := instNo X hx hZ hown w1 eT E F (g := mkF m pc L (.ref a :: st)) rfl rfl (by rw [hby]; exact d1)
  obtain ⟨s₂, o, g1, g2⟩ := G T' ⟨locs, X', e', N⟩
  exact ⟨s₂, o, stp _ g1, g2⟩
theorem ns_root {a0 : Array Value} {O C : String} {j : Nat} (w1 : (Cond.noSuperclass O).before a0 Z = true) (wk : (Cond.instantiable C j).before a0 Z = true) (hn : O ≠ C) : NS Z O C := by
  obtain ⟨c, k, h1, h2, h3, -, -⟩ := Cond.noSuperclass_spec w1
  obtain ⟨t, kt, g1, -⟩ := Cond.instantiable_spec wk
  have ne := ids_ne h1 g1 hn
  refine ⟨c, t, h1, g1, fun fuel => ?_⟩
  cases fuel with
  | zero => rfl
  | succ f => simp [Vm.isSubclassAux, ne, h2, h3]
theorem ns_no {a0 : Array Value} {C S C' : String} {j : Nat} (w1 : (Cond.superclass C S).before a0 Z = true) (wk : (Cond.instantiable C' j).before a0 Z = true) (n : NS Z C C') (hn : C ≠ C') : ∃ c t, Z.vm.findClass C = some c ∧ Z.vm.findClass C' = some t ∧ Z.vm.assignable c t = false := by
  obtain ⟨c, t, h0, g0, n3⟩ := n
  obtain ⟨p, k, kp, h1, h2, h3, h4, h5, -, h7⟩ := Cond.superclass_spec h0 w1
  obtain ⟨q, k', g1, g2, g3, g4, -⟩ := Cond.instantiable_spec wk
  cases g0.symm.trans g1
  have ne := ids_ne h0 g0 hn
  refine ⟨c, _, h0, g0, ?_⟩
  show Z.vm.assignableAux (255 + 1) c _ = false
  simp [Vm.assignableAux, ne, h2, g2, h5, g3, (Bool.or_eq_false_iff.mp g4).1, Vm.isSubclass, n3]
theorem VA.arv {a : Addr} {ty : FieldType} {vs : List Value} (A : VA Z h a ty vs) (dv : Value) (hf : ∀ v ∈ vs, fits ty v = true) : ∃ cid, Arv Z h a cid ty (Nat.toInt32 vs.length) vs dv := by
  obtain ⟨c, A, r1, r2⟩ := A
  have hs : c.slots.size = vs.length := by rw [← r1]; simp
  have hn : (Nat.toInt32 vs.length).toNatClampNeg = vs.length := by simp only [Int32.toNatClampNeg, len_toInt r2]; rfl
  refine ⟨c.cls, c, A, rfl, by rw [hn, hs], ?_, fun i hi => ?_, fun i hi => ?_⟩
  · rw [Int32.lt_iff_toInt_lt, len_toInt r2]; show ¬ ((vs.length : Int) < 0); omega
  · rw [hs] at hi
    rw [← Array.getElem?_toList, r1, List.getD_eq_getElem?_getD, List.getElem?_eq_getElem hi]; rfl
  · rw [hs] at hi
    rw [List.getD_eq_getElem?_getD, List.getElem?_eq_getElem hi]; exact hf _ (List.getElem_mem hi)
theorem VA.of_arr {a : Addr} {ty : FieldType} {c : Cell} {vs : List Value} (A : Arr Z h a c ty) (hs : c.slots.size = vs.length) (hl : vs.length < 2 ^ 31) (he : ∀ i, i < vs.length → c.slots[i]? = vs[i]?) : VA Z h a ty vs := by
  refine ⟨c, A, List.ext_getElem? fun i => ?_, hl⟩
  rw [Array.getElem?_toList]
  by_cases q : i < vs.length
  · exact he i q
  · rw [List.getElem?_eq_none (by omega), Array.getElem?_eq_none (by omega)]
theorem VA.of_arv {a : Addr} {ty : FieldType} {cid : ClassId} {z : Int32} {vs : List Value} {dv : Value} (A : Arv Z h a cid ty z vs dv) (hl : vs.length = z.toNatClampNeg) (hz : vs.length < 2 ^ 31) : VA Z h a ty vs := by
  obtain ⟨c, A, -, hs, -, H, -⟩ := A
  refine VA.of_arr A (by rw [hs, hl]) hz fun i hi => ?_
  rw [H i (by rw [hs, ← hl]; exact hi), List.getD_eq_getElem?_getD, List.getElem?_eq_getElem hi]; rfl
theorem go_copyI {a0 : Array Value} {idx : Nat} {a b : Addr} {xs ys : List Int32} {sp dp nn : Int32} (i j l : Nat) (K : Cx w R Z n0 own bytes mx rt nm) (H : At1 w T h k n) (d : Dc bytes pc (.invokestatic idx) 3 pc') (w1 : (Cond.methodLink own idx Jvm.Stand.acN).before a0 Z = true) (w2 : (Cond.native Jvm.Stand.acN).before a0 Z = true) (w3 : (Cond.static Jvm.Stand.acN).before a0 Z = true) (w4 : (Cond.initialized "java/lang/System").before a0 Z = true)
    (A : IA Z h a xs) (B : IA Z h b ys) (e1 : sp.toInt = (i : Int)) (e2 : dp.toInt = (j : Int)) (e3 : nn.toInt = (l : Int)) (b1 : i + l ≤ xs.length) (b2 : j + l ≤ ys.length) (ge : n0 ≤ b) (hL : L.size = mx) (hf : 1 ≤ R.frames) {W : Nat} (hW : (st.map fun v => v.category).sum = W) (hl : W + (nativeFrameWords "java/lang/System" "arraycopy" 5 + 11) ≤ R.locals)
    (G : ∀ T' h', At1 w T' h' k n → Keep h h' [b] → IA Z h' b (ys.take j ++ (xs.drop i).take l ++ ys.drop (j + l)) → Go w Q T' pc' L st) : Go w Q T pc L (.int nn :: .int dp :: .ref b :: .int sp :: .ref a :: st) := by
  obtain ⟨p, l', e, R', s, m, args, below, meth, c, Z', k0⟩ := w
  obtain ⟨hx, hby, hml, hown, hZ, hret, hnm, hlk, rfl, rfl, rfl, h00⟩ := K
  obtain ⟨locs, X, eT, N⟩ := H
  obtain ⟨d1, rfl⟩ := d
  have ft : ∀ (zs : List Int32), ∀ v ∈ zs.map Value.int, fits .int v = true := fun zs v hv => by obtain ⟨y, -, rfl⟩ := List.mem_map.mp hv; rfl
  have la := A.len
  have lb := B.len
  obtain ⟨ca, VA1⟩ := VA.arv A (.int 0) (ft xs)
  obtain ⟨cb, VB1⟩ := VA.arv B (.int 0) (ft ys)
  have la' : (Nat.toInt32 (xs.map Value.int).length).toNatClampNeg = xs.length := by simp only [List.length_map, Int32.toNatClampNeg, len_toInt la]; rfl
  have lb' : (Nat.toInt32 (ys.map Value.int).length).toNatClampNeg = ys.length := by simp only [List.length_map, Int32.toNatClampNeg, len_toInt lb]; rfl
  have hus : ((xs.drop i).take l).map Value.int = (List.range nn.toNatClampNeg).map fun q => (xs.map Value.int).getD (sp.toNatClampNeg + q) (.int 0) := by
    rw [(idx_nat e3).2, (idx_nat e1).2]
    apply List.ext_getElem?
    intro q
    rw [List.getElem?_map, List.getElem?_map]
    by_cases hq : q < l
    · rw [List.getElem?_take_of_lt hq, List.getElem?_drop, List.getElem?_range hq, List.getElem?_eq_getElem (show i + q < xs.length by omega)]
      simp [List.getD_eq_getElem?_getD, List.getElem?_eq_getElem (show i + q < xs.length by omega)]
    · rw [List.getElem?_eq_none (by simp; omega), List.getElem?_eq_none (by simp; omega)]; rfl
  obtain ⟨T', h', L2, X', e', N', K', B', stp⟩ := cpA X hx hZ hown w1 w2 w3 w4 eT VA1 VB1 (Or.inl ⟨rfl, rfl⟩) (idx_nat e1).1 (idx_nat e2).1 (idx_nat e3).1 (by rw [(idx_nat e1).2, (idx_nat e3).2, la']; exact b1) (by rw [(idx_nat e2).2, (idx_nat e3).2, lb']; exact b2) hus (by rw [(idx_nat e2).2, (idx_nat e3).2, List.length_map]; exact b2) N ge (g := mkF m pc L (.int nn :: .int dp :: .ref b :: .int sp :: .ref a :: st)) rfl (hL.trans hml.symm) rfl (by rw [hby]; exact d1) hf (W := W) (by show 2 * 0 + _ ≤ _; rw [hW]; omega) hl
  rw [(idx_nat e2).2, (idx_nat e3).2] at B'
  have B2 : IA Z' h' b (ys.take j ++ (xs.drop i).take l ++ ys.drop (j + l)) := by
    have q := VA.of_arv B' (by rw [lb']; simp; omega) (by simp; omega)
    rw [← List.map_take, ← List.map_drop, ← List.map_append, ← List.map_append] at q
    exact q
  obtain ⟨s₂, o, g1, g2⟩ := G T' h' ⟨_, X', e', N'⟩ K' B2
  exact ⟨s₂, o, stp _ g1, g2⟩
theorem f_iadd {v x y : Int32} (e : v = x + y) : (v.toInt - (x.toInt + y.toInt)) % 4294967296 = 0 := e ▸ c_iadd x y
theorem f_isub {v x y : Int32} (e : v = x - y) : (v.toInt - (x.toInt - y.toInt)) % 4294967296 = 0 := e ▸ c_isub x y
theorem f_imul {v x y : Int32} (e : v = x * y) : (v.toInt - (x.toInt * y.toInt)) % 4294967296 = 0 := e ▸ c_imul x y
theorem f_ineg {v x : Int32} (e : v = -x) : (v.toInt - (-x.toInt)) % 4294967296 = 0 := e ▸ c_ineg x
theorem f_ladd {v x y : Int64} (e : v = x + y) : (v.toInt - (x.toInt + y.toInt)) % 18446744073709551616 = 0 := e ▸ c_ladd x y
theorem f_lsub {v x y : Int64} (e : v = x - y) : (v.toInt - (x.toInt - y.toInt)) % 18446744073709551616 = 0 := e ▸ c_lsub x y
theorem f_lmul {v x y : Int64} (e : v = x * y) : (v.toInt - (x.toInt * y.toInt)) % 18446744073709551616 = 0 := e ▸ c_lmul x y
theorem f_lneg {v x : Int64} (e : v = -x) : (v.toInt - (-x.toInt)) % 18446744073709551616 = 0 := e ▸ c_lneg x
theorem f_l2i {v : Int32} {x : Int64} (e : v = x.toInt32) : (v.toInt - x.toInt) % 4294967296 = 0 := e ▸ c_l2i x
theorem f_i2l {v : Int64} {x : Int32} (e : v = x.toInt64) : v.toInt = x.toInt := e ▸ c_i2l x
theorem f_i2b {v x : Int32} (e : v = x.toInt8.toInt32) : (v.toInt - x.toInt) % 256 = 0 ∧ -128 ≤ v.toInt ∧ v.toInt < 128 := e ▸ c_i2b x
theorem f_i2s {v x : Int32} (e : v = x.toInt16.toInt32) : (v.toInt - x.toInt) % 65536 = 0 ∧ -32768 ≤ v.toInt ∧ v.toInt < 32768 := e ▸ c_i2s x
theorem f_i2c {v x : Int32} (e : v = x.toUInt32.toUInt16.toUInt32.toInt32) : (v.toInt - x.toInt) % 65536 = 0 ∧ 0 ≤ v.toInt ∧ v.toInt < 65536 := e ▸ c_i2c x
theorem f_mask {v x m : Int32} (M : Nat) (k : Nat) (e : v = x &&& m) (hk : k ≤ 31) (hm : m.toBitVec.toNat = 2 ^ k - 1) (hM : 2 ^ k = M) : v.toInt = x.toInt % (M : Nat) := by rw [e, ← hM]; exact c_mask x m k hk hm
theorem f_maskL {v x m : Int64} (M : Nat) (k : Nat) (e : v = x &&& m) (hk : k ≤ 63) (hm : m.toBitVec.toNat = 2 ^ k - 1) (hM : 2 ^ k = M) : v.toInt = x.toInt % (M : Nat) := by rw [e, ← hM]; exact c_maskL x m k hk hm
theorem f_ishr {v x q : Int32} (M : Nat) (k : Nat) (e : v = x >>> (q &&& 31)) (hk : q.toBitVec.toNat % 32 = k) (hM : 2 ^ k = M) : v.toInt = x.toInt / (M : Nat) := by rw [e, ← hM]; exact c_ishr x q k hk
theorem f_ishl {v x q : Int32} (M : Nat) (k : Nat) (e : v = x <<< (q &&& 31)) (hk : q.toBitVec.toNat % 32 = k) (hM : 2 ^ k = M) : (v.toInt - x.toInt * (M : Nat)) % 4294967296 = 0 := by rw [e, ← hM]; exact c_ishl x q k hk
theorem f_iushr {v x q : Int32} (M : Nat) (k : Nat) (e : v = iU x q) (hk : q.toBitVec.toNat % 32 = k) (h0 : 0 < k) (hM : 2 ^ k = M) : v.toInt = (x.toInt % 4294967296) / (M : Nat) := by rw [e, ← hM]; exact c_iushr x q k hk h0
theorem f_lshr {v x : Int64} {q : Int32} (M : Nat) (k : Nat) (e : v = x >>> (q &&& 0x3f).toInt64) (hk : q.toBitVec.toNat % 64 = k) (hM : 2 ^ k = M) : v.toInt = x.toInt / (M : Nat) := by rw [e, ← hM]; exact c_lshr x q k hk
theorem f_lshl {v x : Int64} {q : Int32} (M : Nat) (k : Nat) (e : v = x <<< (q &&& 0x3f).toInt64) (hk : q.toBitVec.toNat % 64 = k) (hM : 2 ^ k = M) : (v.toInt - x.toInt * (M : Nat)) % 18446744073709551616 = 0 := by rw [e, ← hM]; exact c_lshl x q k hk
theorem f_lushr {v x : Int64} {q : Int32} (M : Nat) (k : Nat) (e : v = lU x q) (hk : q.toBitVec.toNat % 64 = k) (h0 : 0 < k) (hM : 2 ^ k = M) : v.toInt = (x.toInt % 18446744073709551616) / (M : Nat) := by rw [e, ← hM]; exact c_lushr x q k hk h0
theorem f_idiv {v x y : Int32} (d : Int) (e : v = x / y) (hy : y.toInt = d) (hd : y ≠ -1) : (0 ≤ x.toInt → v.toInt = x.toInt / d) ∧ (x.toInt < 0 → v.toInt = -((-x.toInt) / d)) := e ▸ c_idiv x y d hy hd
theorem f_irem {v x y : Int32} (d : Int) (e : v = x % y) (hy : y.toInt = d) : (0 ≤ x.toInt → v.toInt = x.toInt % d) ∧ (x.toInt < 0 → v.toInt = -((-x.toInt) % d)) := e ▸ c_irem x y d hy
theorem f_ldiv {v x y : Int64} (d : Int) (e : v = x / y) (hy : y.toInt = d) (hd : y ≠ -1) : (0 ≤ x.toInt → v.toInt = x.toInt / d) ∧ (x.toInt < 0 → v.toInt = -((-x.toInt) / d)) := e ▸ c_ldiv x y d hy hd
theorem f_lrem {v x y : Int64} (d : Int) (e : v = x - (x / y) * y) (hy : y.toInt = d) : (0 ≤ x.toInt → v.toInt = x.toInt % d) ∧ (x.toInt < 0 → v.toInt = -((-x.toInt) % d)) := e ▸ c_lrem x y d hy
theorem f_lcmp {v : Int32} {x y : Int64} (e : v = lcmpW x y) : (x.toInt < y.toInt → v.toInt = -1) ∧ (x.toInt = y.toInt → v.toInt = 0) ∧ (y.toInt < x.toInt → v.toInt = 1) := e ▸ c_lcmp x y
def bI (p : Prop) [Decidable p] : Int32 := if p then 1 else 0
theorem bI_t {p : Prop} [Decidable p] (h : p) : bI p = 1 := if_pos h
theorem bI_f {p : Prop} [Decidable p] (h : ¬ p) : bI p = 0 := if_neg h
theorem bI_nar {p : Prop} [Decidable p] : nar .boolean (bI p) = bI p := by unfold bI; split <;> decide
theorem bI_iff {p q : Prop} [Decidable p] [Decidable q] (h : p ↔ q) : bI p = bI q := by simp [bI, h]
theorem bI_eq0 {p : Prop} [Decidable p] : bI p = 0 ↔ ¬ p := by unfold bI; split <;> simp_all
theorem bI_eq1 {p : Prop} [Decidable p] : bI p = 1 ↔ p := by unfold bI; split <;> simp_all
theorem cat_ref {v : Value} (h : v.isRef = true) : v.category = 1 := by cases v <;> first | rfl | cases h
theorem bI_inj {p q : Prop} [Decidable p] [Decidable q] : bI p = bI q ↔ (p ↔ q) := by unfold bI; split <;> split <;> simp_all
theorem bI_ne0 {p : Prop} [Decidable p] : ¬ bI p = 0 ↔ p := by unfold bI; split <;> simp_all
theorem go_lookup (K : Cx w R Z n0 own bytes mx rt nm) (H : At1 w T h k n) {x : Int32} {df off : Int} {ps : Array (Int × Int)} {q yes no : Nat} (d : Dc bytes pc (.lookupswitch df ps) q pc') (hs : (ps.toList.zip (ps.toList.drop 1)).all (fun (a, next) => a.1 < next.1) = true) (hall : ∀ p ∈ ps.toList, p.2 = off) (hy0 : 0 ≤ (pc : Int) + off) (hy : ((pc : Int) + off).toNat = yes) (hn0 : 0 ≤ (pc : Int) + df) (hn : ((pc : Int) + df).toNat = no)
    (G1 : x.toInt ∈ ps.toList.map (·.1) → Go w Q T yes L st) (G2 : x.toInt ∉ ps.toList.map (·.1) → Go w Q T no L st) : Go w Q T pc L (.int x :: st) := by
  obtain ⟨p, l, e, R', s, m, args, below, meth, c, Z', k0⟩ := w
  obtain ⟨hx, hby, -⟩ := K
  obtain ⟨locs, X, -⟩ := H
  subst hy hn
  cases hf : ps.find? (·.1 == x.toInt) with
  | none =>
    have : x.toInt ∉ ps.toList.map (·.1) := by
      intro hm
      obtain ⟨a, ha, e⟩ := List.mem_map.mp hm
      have := Array.find?_eq_none.mp hf a (Array.mem_toList_iff.mp ha)
      simp [e] at this
    obtain ⟨s₂, o, g1, g2⟩ := G2 this
    exact ⟨s₂, o, X.lookupswitchMiss hx (g := mkF m pc L (.int x :: st)) rfl rfl (by rw [hby]; exact d.1) hs hf hn0 _ g1, g2⟩
  | some a =>
    obtain ⟨b, off'⟩ := a
    have hm := Array.mem_toList_iff.mpr (Array.mem_of_find?_eq_some hf)
    have hb : b = x.toInt := by simpa using Array.find?_some hf
    obtain rfl : off' = off := hall _ hm
    obtain ⟨s₂, o, g1, g2⟩ := G1 (List.mem_map.mpr ⟨_, hm, hb⟩)
    exact ⟨s₂, o, X.lookupswitchHit hx (g := mkF m pc L (.int x :: st)) rfl rfl (by rw [hby]; exact d.1) hs hf hy0 _ g1, g2⟩
theorem con_back {l : Launch} {p : Program} {e : Env} {s : State} {args : Array Value} {below : List Frame} {a0 : Array Value} {y : MethodName} {yb : ByteArray} {ym : Nat} {yr : Option FieldType} {rm : Room} {as' : Array Value} {P : Option Value → Heap → Prop} {len W : Nat}
    (C : Con l Z y yb ym yr rm as' h n0 P) (hZ : Z.Warmed39 s.vm) (wc : (Cond.code y yb ym yr).before a0 Z = true) (wz : (Cond.initialized y.cls).before a0 Z = true) (hf : rm.frames + 1 ≤ R.frames) (hl : W + (ym + 11) + rm.locals ≤ R.locals) :
    Back l R p e below s args y len W (fun A a => a = as' ∧ A.U.heap = h ∧ A.cells + rm.cells ≤ R.cells ∧ A.slots + rm.slots ≤ R.slots)
      (fun A _ v B => ∃ Lc, (P v B.U.heap ∧ Fr n0 Lc) ∧ B.locs = A.locs ++ Lc ∧ B.cells = A.cells + rm.cells ∧ B.slots = A.slots + rm.slots) :=
  backOf (Q := fun v hh Lc => P v hh ∧ Fr n0 Lc) (C []) hZ wc wz hf hl
theorem at_size (K : Cx w R Z n0 own bytes mx rt nm) (H : At1 w T h k n) : n0 ≤ h.size := by
  obtain ⟨p, l, e, R', s, m, args, below, meth, c, Z', k0⟩ := w
  obtain ⟨hx, hby, hml, hown, hZ, hret, hnm, hlk, rfl, rfl, rfl, h00⟩ := K
  obtain ⟨locs, X, eT, N⟩ := H
  rw [← eT]; exact Nat.le_trans h00 X.same.2.1
theorem go_callS {a0 : Array Value} {idx : Nat} {y : MethodName} {yb : ByteArray} {ym : Nat} {yr : Option FieldType} {rm : Room} {P : Option Value → Heap → Prop} {ps : List FieldType} {rr : Option FieldType} (argsL : List Value)
    (K : Cx w R Z n0 own bytes mx rt nm) (H : At1 w T h k n) (d : Dc bytes pc (.invokestatic idx) 3 pc') (w1 : (Cond.methodLink own idx y).before a0 Z = true) (w2 : (Cond.static y).before a0 Z = true) (w3 : (Cond.initialized y.cls).before a0 Z = true) (w4 : (Cond.code y yb ym yr).before a0 Z = true)
    (hy : y.cls ≠ "java/lang/invoke/MethodHandle" ∧ y.cls ≠ "java/lang/invoke/VarHandle") (C : ∀ l, Con l Z y yb ym yr rm argsL.toArray h n0 P) (hd : parseMethodDescriptor y.desc = some ⟨ps, rr⟩) (hlen : argsL.length = ps.length) (hs : st = argsL.reverse ++ st')
    (hL : L.size = mx) (hf : rm.frames + 1 ≤ R.frames) {W : Nat} (hW : (st'.map fun v => v.category).sum = W) (hl : W + (ym + 11) + rm.locals ≤ R.locals) (hk : k + rm.cells ≤ R.cells) (hn : n + rm.slots ≤ R.slots)
    (G : ∀ T' h' v, At1 w T' h' (k + rm.cells) (n + rm.slots) → P v h' → Go w Q T' pc' L (v.toList ++ st')) : Go w Q T pc L st := by
  obtain ⟨p, l, e, R', s, m, args, below, meth, c, Z', k0⟩ := w
  obtain ⟨hx, hby, hml, hown, hZ, hret, hnm, hlk, rfl, rfl, rfl, h00⟩ := K
  obtain ⟨locs, X, eT, N⟩ := H
  obtain ⟨d1, rfl⟩ := d
  obtain ⟨v, vm₁, ⟨T', L1, k1, n1⟩, -, X', ⟨Lc, ⟨hQ, N'⟩, l1, y1, z1⟩, stp⟩ := Jvm.LawKit.callS X hx (y := y) hown (mvT hZ w1) (mvT hZ w2) (mvT hZ w3) (mvT hZ w4) hy (con_back (W := W) (C l) hZ w4 w3 hf hl) (g := mkF m pc L st) rfl (hL.trans hml.symm) (argsL := argsL) (rest := st') (lenOf hd hlen) hs (by show 2 * 0 + _ ≤ _; rw [hW]; omega) (by rw [hby]; exact d1) (fun _ _ => ⟨rfl, eT, hk, hn⟩)
  dsimp only [Pt.U, Pt.locs, Pt.cells, Pt.slots] at X' l1 y1 z1 stp hQ
  subst l1 y1 z1
  obtain ⟨s₂, o, g1, g2⟩ := G T' T'.heap v ⟨_, X', rfl, Fr.app N N'⟩ hQ
  exact ⟨s₂, o, stp _ g1, g2⟩
theorem go_callI {a0 : Array Value} {idx : Nat} {y : MethodName} {yb : ByteArray} {ym : Nat} {rm : Room} {P : Option Value → Heap → Prop} {ps : List FieldType} {rr : Option FieldType} {a : Addr} (argsL : List Value)
    (K : Cx w R Z n0 own bytes mx rt nm) (H : At1 w T h k n) (d : Dc bytes pc (.invokespecial idx) 3 pc') (hy1 : y.name = "<init>") (w1 : (Cond.methodLink own idx y).before a0 Z = true) (w2 : (Cond.instanceMethod y).before a0 Z = true) (w3 : (Cond.initialized y.cls).before a0 Z = true) (w4 : (Cond.code y yb ym none).before a0 Z = true)
    (hy : y.cls ≠ "java/lang/invoke/MethodHandle" ∧ y.cls ≠ "java/lang/invoke/VarHandle") (C : ∀ l, Con l Z y yb ym none rm (.ref a :: argsL).toArray h n0 P) (hd : parseMethodDescriptor y.desc = some ⟨ps, rr⟩) (hlen : argsL.length = ps.length) (hs : st = argsL.reverse ++ .ref a :: st')
    (hL : L.size = mx) (hf : rm.frames + 1 ≤ R.frames) {W : Nat} (hW : (st'.map fun v => v.category).sum = W) (hl : W + (ym + 11) + rm.locals ≤ R.locals) (hk : k + rm.cells ≤ R.cells) (hn : n + rm.slots ≤ R.slots)
    (G : ∀ T' h' v, At1 w T' h' (k + rm.cells) (n + rm.slots) → P v h' → Go w Q T' pc' L (v.toList ++ st')) : Go w Q T pc L st := by
  obtain ⟨p, l, e, R', s, m, args, below, meth, c, Z', k0⟩ := w
  obtain ⟨hx, hby, hml, hown, hZ, hret, hnm, hlk, rfl, rfl, rfl, h00⟩ := K
  obtain ⟨locs, X, eT, N⟩ := H
  obtain ⟨d1, rfl⟩ := d
  obtain ⟨v, vm₁, ⟨T', L1, k1, n1⟩, -, X', ⟨Lc, ⟨hQ, N'⟩, l1, y1, z1⟩, stp⟩ := X.specialBack hx (y := y) hy1 hown (mvT hZ w1) (mvT hZ w2) (mvT hZ w4) hy (con_back (W := W) (C l) hZ w4 w3 hf hl) (g := mkF m pc L st) rfl (hL.trans hml.symm) (Steps.refl _) (a := a) (argsL := argsL) (rest := st') (lenOf hd hlen) hs (by show 2 * 0 + _ ≤ _; rw [hW]; omega) (by rw [hby]; exact d1) (fun _ _ => ⟨rfl, eT, hk, hn⟩)
  dsimp only [Pt.U, Pt.locs, Pt.cells, Pt.slots] at X' l1 y1 z1 stp hQ
  subst l1 y1 z1
  obtain ⟨s₂, o, g1, g2⟩ := G T' T'.heap v ⟨_, X', rfl, Fr.app N N'⟩ hQ
  exact ⟨s₂, o, stp.trans g1, g2⟩
theorem go_callV {a0 : Array Value} {idx : Nat} {y z : MethodName} {yb : ByteArray} {ym : Nat} {yr : Option FieldType} {rm : Room} {P : Option Value → Heap → Prop} {ps : List FieldType} {rr : Option FieldType} {a : Addr} {CC : String} (argsL : List Value)
    (K : Cx w R Z n0 own bytes mx rt nm) (H : At1 w T h k n) (d : Dc bytes pc (.invokevirtual idx) 3 pc') (E : Exa Z h a CC) (w1 : (Cond.methodLink own idx y).before a0 Z = true) (wd : (Cond.declares y).before a0 Z = true) (hnf : ∀ s : State, Z.Warmed39 s.vm → NotFace s y) (ws : (Cond.selects CC y z).before a0 Z = true) (w2 : (Cond.instanceMethod z).before a0 Z = true) (w3 : (Cond.initialized z.cls).before a0 Z = true) (w4 : (Cond.code z yb ym yr).before a0 Z = true)
    (hy : y.cls ≠ "java/lang/invoke/MethodHandle" ∧ y.cls ≠ "java/lang/invoke/VarHandle") (C : ∀ l, Con l Z z yb ym yr rm (.ref a :: argsL).toArray h n0 P) (hd : parseMethodDescriptor y.desc = some ⟨ps, rr⟩) (hlen : argsL.length = ps.length) (hs : st = argsL.reverse ++ .ref a :: st')
    (hL : L.size = mx) (hf : rm.frames + 1 ≤ R.frames) {W : Nat} (hW : (st'.map fun v => v.category).sum = W) (hl : W + (ym + 11) + rm.locals ≤ R.locals) (hk : k + rm.cells ≤ R.cells) (hn : n + rm.slots ≤ R.slots)
    (G : ∀ T' h' v, At1 w T' h' (k + rm.cells) (n + rm.slots) → P v h' → Go w Q T' pc' L (v.toList ++ st')) : Go w Q T pc L st := by
  obtain ⟨p, l, e, R', s, m, args, below, meth, c, Z', k0⟩ := w
  obtain ⟨hx, hby, hml, hown, hZ, hret, hnm, hlk, rfl, rfl, rfl, h00⟩ := K
  obtain ⟨locs, X, eT, N⟩ := H
  obtain ⟨d1, rfl⟩ := d
  obtain ⟨cq, kq, q1, q2, q3⟩ := isOf hZ eT E
  obtain ⟨v, vm₁, ⟨T', L1, k1, n1⟩, -, X', ⟨Lc, ⟨hQ, N'⟩, l1, y1, z1⟩, stp⟩ := X.virtualBack hx (y := y) (z := z) hown (mvT hZ w1) (mvT hZ wd) (hnf s hZ) (mvT hZ ws) (mvT hZ w2) hy (con_back (W := W) (C l) hZ w4 w3 hf hl) q1 q3 (g := mkF m pc L st) rfl (hL.trans hml.symm) (Steps.refl _) (argsL := argsL) (rest := st') (lenOf hd hlen) hs (by show 2 * 0 + _ ≤ _; rw [hW]; omega) (by rw [hby]; exact d1) (fun _ _ => ⟨rfl, eT, hk, hn⟩)
  dsimp only [Pt.U, Pt.locs, Pt.cells, Pt.slots] at X' l1 y1 z1 stp hQ
  subst l1 y1 z1
  obtain ⟨s₂, o, g1, g2⟩ := G T' T'.heap v ⟨_, X', rfl, Fr.app N N'⟩ hQ
  exact ⟨s₂, o, stp.trans g1, g2⟩
theorem go_callP {a0 : Array Value} {idx : Nat} {y : MethodName} {yb : ByteArray} {ym : Nat} {yr : Option FieldType} {rm : Room} {P : Option Value → Heap → Prop} {ps : List FieldType} {rr : Option FieldType} {a : Addr} {CC : String} (argsL : List Value)
    (K : Cx w R Z n0 own bytes mx rt nm) (H : At1 w T h k n) (d : Dc bytes pc (.invokevirtual idx) 3 pc') (E : Exa Z h a CC) (w1 : (Cond.methodLink own idx y).before a0 Z = true) (w2 : (Cond.instanceMethod y).before a0 Z = true) (ws : (Cond.selects y.cls y y).before a0 Z = true) (wp : (Cond.privateMethod y).before a0 Z = true) (w3 : (Cond.initialized y.cls).before a0 Z = true) (w4 : (Cond.code y yb ym yr).before a0 Z = true)
    (hy : y.cls ≠ "java/lang/invoke/MethodHandle" ∧ y.cls ≠ "java/lang/invoke/VarHandle") (C : ∀ l, Con l Z y yb ym yr rm (.ref a :: argsL).toArray h n0 P) (hd : parseMethodDescriptor y.desc = some ⟨ps, rr⟩) (hlen : argsL.length = ps.length) (hs : st = argsL.reverse ++ .ref a :: st')
    (hL : L.size = mx) (hf : rm.frames + 1 ≤ R.frames) {W : Nat} (hW : (st'.map fun v => v.category).sum = W) (hl : W + (ym + 11) + rm.locals ≤ R.locals) (hk : k + rm.cells ≤ R.cells) (hn : n + rm.slots ≤ R.slots)
    (G : ∀ T' h' v, At1 w T' h' (k + rm.cells) (n + rm.slots) → P v h' → Go w Q T' pc' L (v.toList ++ st')) : Go w Q T pc L st := by
  obtain ⟨p, l, e, R', s, m, args, below, meth, c, Z', k0⟩ := w
  obtain ⟨hx, hby, hml, hown, hZ, hret, hnm, hlk, rfl, rfl, rfl, h00⟩ := K
  obtain ⟨locs, X, eT, N⟩ := H
  obtain ⟨d1, rfl⟩ := d
  obtain ⟨cq, q1, q2⟩ := E.cell
  obtain ⟨v, vm₁, ⟨T', L1, k1, n1⟩, -, X', ⟨Lc, ⟨hQ, N'⟩, l1, y1, z1⟩, stp⟩ := X.privateBack hx (y := y) hown (mvT hZ w1) (mvT hZ w2) (mvT hZ ws) (Cond.privateMethod_at (mvP hZ wp (args := #[]))) (mvT hZ w4) hy (con_back (W := W) (C l) hZ w4 w3 hf hl) (g := mkF m pc L st) rfl (hL.trans hml.symm) (Steps.refl _) (a := a) (by rw [eT]; exact q1) q2 (argsL := argsL) (rest := st') (lenOf hd hlen) hs (by show 2 * 0 + _ ≤ _; rw [hW]; omega) (by rw [hby]; exact d1) (fun _ _ => ⟨rfl, eT, hk, hn⟩)
  dsimp only [Pt.U, Pt.locs, Pt.cells, Pt.slots] at X' l1 y1 z1 stp hQ
  subst l1 y1 z1
  obtain ⟨s₂, o, g1, g2⟩ := G T' T'.heap v ⟨_, X', rfl, Fr.app N N'⟩ hQ
  exact ⟨s₂, o, stp.trans g1, g2⟩
theorem go_callF {a0 : Array Value} {idx cnt : Nat} {y z : MethodName} {yb : ByteArray} {ym : Nat} {yr : Option FieldType} {rm : Room} {P : Option Value → Heap → Prop} {ps : List FieldType} {rr : Option FieldType} {a : Addr} {CC : String} (argsL : List Value)
    (K : Cx w R Z n0 own bytes mx rt nm) (H : At1 w T h k n) (d : Dc bytes pc (.invokeinterface idx cnt) 5 pc') (E : Exa Z h a CC) (w1 : (Cond.methodLink own idx y).before a0 Z = true) (wd : (Cond.declares y).before a0 Z = true) (wf : (Cond.interfaceMethod y.cls y.cls y.name y.desc).before a0 Z = true) (ws : (Cond.selects CC y z).before a0 Z = true) (w2 : (Cond.instanceMethod z).before a0 Z = true) (wp : (Cond.publicMethod z).before a0 Z = true) (wu : (Cond.unhidden CC y.name y.desc).before a0 Z = true) (wc : (Cond.castable CC y.cls).before a0 Z = true) (w3 : (Cond.initialized z.cls).before a0 Z = true) (w4 : (Cond.code z yb ym yr).before a0 Z = true)
    (hy : y.cls ≠ "java/lang/invoke/MethodHandle" ∧ y.cls ≠ "java/lang/invoke/VarHandle") (C : ∀ l, Con l Z z yb ym yr rm (.ref a :: argsL).toArray h n0 P) (hd : parseMethodDescriptor y.desc = some ⟨ps, rr⟩) (hlen : argsL.length = ps.length) (hs : st = argsL.reverse ++ .ref a :: st')
    (hL : L.size = mx) (hf : rm.frames + 1 ≤ R.frames) {W : Nat} (hW : (st'.map fun v => v.category).sum = W) (hl : W + (ym + 11) + rm.locals ≤ R.locals) (hk : k + rm.cells ≤ R.cells) (hn : n + rm.slots ≤ R.slots)
    (G : ∀ T' h' v, At1 w T' h' (k + rm.cells) (n + rm.slots) → P v h' → Go w Q T' pc' L (v.toList ++ st')) : Go w Q T pc L st := by
  obtain ⟨p, l, e, R', s, m, args, below, meth, c, Z', k0⟩ := w
  obtain ⟨hx, hby, hml, hown, hZ, hret, hnm, hlk, rfl, rfl, rfl, h00⟩ := K
  obtain ⟨locs, X, eT, N⟩ := H
  obtain ⟨d1, rfl⟩ := d
  obtain ⟨cq, kq, q1, q2, q3⟩ := isOf hZ eT E
  obtain ⟨v, vm₁, ⟨T', L1, k1, n1⟩, -, X', ⟨Lc, ⟨hQ, N'⟩, l1, y1, z1⟩, stp⟩ := X.interfaceBack hx (xi := y) (y := z) hown (mvT hZ w1) (mvT hZ wd) (mvT hZ wf (by simp [Cond.onTables, Cond.keepsFace, Cond.keeps, Cond.steady, Cond.faceAtom, hy.1, hy.2])) (mvT hZ ws) (mvT hZ w2) (mvT hZ wp) (mvT hZ wu) (mvT hZ wc) hy (con_back (W := W) (C l) hZ w4 w3 hf hl) q1 q2 q3 (g := mkF m pc L st) rfl (hL.trans hml.symm) (Steps.refl _) (argsL := argsL) (rest := st') (lenOf hd hlen) hs (by show 2 * 0 + _ ≤ _; rw [hW]; omega) (by rw [hby]; exact d1) (fun _ _ => ⟨rfl, eT, hk, hn⟩)
  dsimp only [Pt.U, Pt.locs, Pt.cells, Pt.slots] at X' l1 y1 z1 stp hQ
  subst l1 y1 z1
  obtain ⟨s₂, o, g1, g2⟩ := G T' T'.heap v ⟨_, X', rfl, Fr.app N N'⟩ hQ
  exact ⟨s₂, o, stp.trans g1, g2⟩
theorem ref_at {a0 a1 : Array Value} {U : State} {idx : Nat} {y : MethodName} (hU : Z.Warmed39 U.vm) (hy : y.cls ≠ "java/lang/invoke/MethodHandle" ∧ y.cls ≠ "java/lang/invoke/VarHandle") (w2 : (Cond.instanceMethod y).before a0 Z = true) (w1 : (Cond.methodRef own idx y).before a0 Z = true) : (Cond.methodRef own idx y).before a1 U = true := by
  obtain ⟨mk, _, hn, -⟩ := Cond.instanceMethod_spec w2
  have q := Cond.methodRef_warmed39 hU hn hy w1
  simp only [Cond.before, Cond.holds, Cond.value] at q ⊢
  exact q
theorem go_callIR {a0 : Array Value} {idx : Nat} {y : MethodName} {yb : ByteArray} {ym : Nat} {rm : Room} {P : Option Value → Heap → Prop} {ps : List FieldType} {rr : Option FieldType} {a : Addr} (argsL : List Value)
    (K : Cx w R Z n0 own bytes mx rt nm) (H : At1 w T h k n) (d : Dc bytes pc (.invokespecial idx) 3 pc') (hy1 : y.name = "<init>") (w1 : (Cond.methodRef own idx y).before a0 Z = true) (w2 : (Cond.instanceMethod y).before a0 Z = true) (w3 : (Cond.initialized y.cls).before a0 Z = true) (w4 : (Cond.code y yb ym none).before a0 Z = true)
    (hy : y.cls ≠ "java/lang/invoke/MethodHandle" ∧ y.cls ≠ "java/lang/invoke/VarHandle") (C : ∀ l, Con l Z y yb ym none rm (.ref a :: argsL).toArray h n0 P) (hd : parseMethodDescriptor y.desc = some ⟨ps, rr⟩) (hlen : argsL.length = ps.length) (hs : st = argsL.reverse ++ .ref a :: st')
    (hL : L.size = mx) (hf : rm.frames + 1 ≤ R.frames) {W : Nat} (hW : (st'.map fun v => v.category).sum = W) (hl : W + (ym + 11) + rm.locals ≤ R.locals) (hk : k + rm.cells ≤ R.cells) (hn : n + rm.slots ≤ R.slots)
    (G : ∀ T' h' v, At1 w T' h' (k + rm.cells) (n + rm.slots) → P v h' → Go w Q T' pc' L (v.toList ++ st')) : Go w Q T pc L st := by
  obtain ⟨p, l, e, R', s, m, args, below, meth, c, Z', k0⟩ := w
  obtain ⟨hx, hby, hml, hown, hZ, hret, hnm, hlk, rfl, rfl, rfl, h00⟩ := K
  obtain ⟨locs, X, eT, N⟩ := H
  obtain ⟨d1, rfl⟩ := d
  have S : SCall p l e R' s m args below meth c idx y := SCall.of_ready hx hy1 (mvT hZ w2) (mvT hZ w4) (fun U r hU hnr => by
    have hA := hU.alike
    have hUZ : Z'.Warmed39 U.vm := wtrans hZ hU
    have hnU : U.methodNamed? y = some r := by
      have q : (s.setVm U.vm).methodNamed? y = some r := by rw [State.methodNamed?_setVm hA]; exact hnr
      exact q
    have hoU : U.vm.findClass own = some m.cls := by rw [hA.findClass]; exact hown
    obtain ⟨m', c', e1, e2, e3, e4⟩ := Cond.methodRef_named (first := U) (o := none) (idx := []) (args := args) e hoU (ref_at hUZ hy w2 w1)
    have e5 : U.methodFound? y.cls y.name y.desc = some r := State.methodFound?_of_named hnU hy
    cases e1.symm.trans e5
    cases e3.symm.trans (findClass_of_methodNamed hnU)
    exact ⟨e4, e2⟩)
  obtain ⟨v, vm₁, ⟨T', L1, k1, n1⟩, -, X', ⟨Lc, ⟨hQ, N'⟩, l1, y1, z1⟩, stp⟩ := S X (con_back (W := W) (C l) hZ w4 w3 hf hl) (g := mkF m pc L st) rfl (hL.trans hml.symm) (Steps.refl _) (a := a) (argsL := argsL) (rest := st') (lenOf hd hlen) hs (by show 2 * 0 + _ ≤ _; rw [hW]; omega) (by rw [hby]; exact d1) (fun _ _ => ⟨rfl, eT, hk, hn⟩)
  dsimp only [Pt.U, Pt.locs, Pt.cells, Pt.slots] at X' l1 y1 z1 stp hQ
  subst l1 y1 z1
  obtain ⟨s₂, o, g1, g2⟩ := G T' T'.heap v ⟨_, X', rfl, Fr.app N N'⟩ hQ
  exact ⟨s₂, o, stp.trans g1, g2⟩
theorem sel_priv {a0 : Array Value} {y : MethodName} {j : Nat} (wi : (Cond.instantiable y.cls j).before a0 Z = true) (wp : (Cond.privateMethod y).before a0 Z = true) (w2 : (Cond.instanceMethod y).before a0 Z = true) (hy : y.cls ≠ "java/lang/invoke/MethodHandle" ∧ y.cls ≠ "java/lang/invoke/VarHandle") : (Cond.selects y.cls y y).before a0 Z = true := by
  obtain ⟨c, k, h1, h2, h3, h4, -⟩ := Cond.instantiable_spec wi
  exact selects_self_of_private h1 h2 (Bool.or_eq_false_iff.mp h4).1 (Cond.privateMethod_at wp) w2 hy
theorem nf_sel {a0 : Array Value} {CC : String} {y : MethodName} (ws : (Cond.selects CC y y).before a0 Z = true) : ∀ s : State, Z.Warmed39 s.vm → NotFace s y := fun s hZ => notFace_of_selects (args := #[]) (mvT hZ ws)
theorem own_comes {Post : Tables → Env → Array Value → State → Outcome → State → Prop} {ck sk : Nat} (hpost : ∀ tb e args s v u, (limb_1_1.after args s (.returned v) u = true ∧ limb_1_2.after args s (.returned v) u = true) → FrameEnd s (.returned v) u (Jvm.fieldLocs frame_1_writes args s ++ Jvm.arrayLocs frame_1_arrays args s ++ Jvm.staticLocs frame_1_statics s) ck sk → Post tb e args s (.returned v) u) (h1 : room_1.cells ≤ ck) (h2 : room_1.slots ≤ sk)
    (hl : ∀ (l : Launch) (tb : Tables) (e : Env) (s : State) (args : Array Value), heapFits s = true → rest_1 tb e args s → (Jvm.Cond.and given_1 narrow_1).value args s none s [] = some true → (∀ d ∈ tables_1, d.before args s = true) → Con l s x code maxLocals ret room_1 args s.heap s.heap.size (RI fun z _ => z = 1)) :
    ArmFor flags0 classFile x code maxLocals ret World_1 tables_1 room_1 Calls_1 rest_1 Pre_1 Post := by
  intro l hfl _ _ p e ha hc hk s m args below hf hA hF happ hP
  obtain ⟨hcalls, hrest, hpre⟩ := hP
  obtain ⟨-, -, -, hnamed, -, -, -, hat⟩ := (Spec.applies_iff hf).mp happ
  have hg := Cond.before_iff.mp (show (Jvm.Cond.and given_1 narrow_1).before args s = true from hpre)
  have hw := fun d (hd : d ∈ tables_1) => atoms_spec (ws := Jvm.Cond.code x code maxLocals ret :: tables_1) hat d (List.mem_cons_of_mem _ hd)
  obtain ⟨n, o, g1, g2, g3, v, L, rfl, ⟨⟨z, rfl, rfl⟩, N⟩, hq⟩ := hl l _ _ s args hF hrest hg hw tables_1 p e ha hc hk s m _ below hf ((Spec.applies_iff_loose hf).mp happ).1 ⟨rfl, State.Warmed39.refl s, rfl⟩ trivial
  exact ⟨n, _, g1, g2, g3, hpost _ _ _ _ _ _ ⟨Cond.after_iff.mpr rfl, Cond.after_iff.mpr (eq_i res_at (Term.int_eval (1)) rfl)⟩ ⟨hq.1, hq.2.1, (hq.2.2.sift fun y hy => Or.inr (N y hy)).mono h1 h2⟩⟩
end Own
end Jvm.Pilot.@@N@@
namespace Jvm.Pilot.@@N@@
open Jvm Jvm.ClassFile Sem Op Lib Jvm.Free Jvm.Stand Jvm.LawKit Jvm.RoadKit Bundle Jvm.Pilot.@@N@@.Jvm.D
def oN (n : Nat) : Int32 := Int32.ofNat n
theorem oN_toInt {n : Nat} (h : n < 2 ^ 31) : (oN n).toInt = (n : Int) := Int32.toInt_ofNat_of_lt h
theorem oN_inj {a b : Nat} (ha : a < 2 ^ 31) (hb : b < 2 ^ 31) : oN a = oN b ↔ a = b := by
  rw [← Int32.toInt_inj, oN_toInt ha, oN_toInt hb]; omega
theorem oN_of {v : Int32} {N : Nat} (h0 : 0 ≤ v.toInt) (h1 : v.toInt < N) (hN : N ≤ 2 ^ 31) : ∃ j, j < N ∧ v = oN j := by
  refine ⟨v.toInt.toNat, by omega, Int32.toInt_inj.mp ?_⟩
  rw [oN_toInt (by omega)]; omega
def Rk (ns : List Nat) : Nat → Nat → Nat → Prop
  | 0, i, r => i = r ∧ ns[i]? = some i
  | k + 1, i, r => ∃ j, ns[i]? = some j ∧ j ≠ i ∧ Rk ns k j r
theorem Rk.root {ns : List Nat} : ∀ {k i r : Nat}, Rk ns k i r → ns[r]? = some r
  | 0, _, _, ⟨rfl, h⟩ => h
  | _ + 1, _, _, ⟨_, _, _, h⟩ => Rk.root h
theorem Rk.other {ns : List Nat} {a b : Nat} (ha : ns[a]? = some a) : ∀ {k i r : Nat}, Rk ns k i r → r ≠ a → Rk (ns.set a b) k i r
  | 0, i, r, ⟨e, h⟩, hr => ⟨e, by rw [List.getElem?_set_ne (by omega)]; exact h⟩
  | k + 1, i, r, ⟨j, h1, h2, h3⟩, hr => by
    refine ⟨j, ?_, h2, Rk.other ha h3 hr⟩
    by_cases q : a = i
    · subst q; rw [ha] at h1; cases h1; exact absurd rfl h2
    · rw [List.getElem?_set_ne q]; exact h1
theorem Rk.move {ns : List Nat} {a b : Nat} (hab : a ≠ b) (ha : ns[a]? = some a) (hb : ns[b]? = some b) : ∀ {k i : Nat}, Rk ns k i a → Rk (ns.set a b) (k + 1) i b
  | 0, i, ⟨e, h⟩ => by
    subst e
    refine ⟨b, ?_, fun q => hab q.symm, rfl, ?_⟩
    · rw [List.getElem?_set_self (List.getElem?_eq_some_iff.mp ha).1]
    · rw [List.getElem?_set_ne hab]; exact hb
  | k + 1, i, ⟨j, h1, h2, h3⟩ => by
    refine ⟨j, ?_, h2, Rk.move hab ha hb h3⟩
    by_cases q : a = i
    · subst q; rw [ha] at h1; cases h1; exact absurd rfl h2
    · rw [List.getElem?_set_ne q]; exact h1
def UF (N : Nat) (ns cs : List Nat) : Prop := ns.length = N ∧ cs.length = N ∧ ∀ i c, cs[i]? = some c → c < N ∧ ∃ k, Rk ns k i c
def rlb (a b x : Nat) : Nat := if x = a then b else x
theorem UF.step {N : Nat} {ns cs : List Nat} {i j ra rb : Nat} (I : UF N ns cs) (hi : cs[i]? = some ra) (hj : cs[j]? = some rb) : UF N (ns.set ra rb) (cs.map (rlb ra rb)) := by
  obtain ⟨l1, l2, F⟩ := I
  obtain ⟨-, k1, R1⟩ := F i ra hi
  obtain ⟨hb, k2, R2⟩ := F j rb hj
  have ha0 := R1.root
  have hb0 := R2.root
  by_cases e : ra = rb
  · subst e
    have e1 : ns.set ra ra = ns := by
      apply List.ext_getElem?
      intro m
      by_cases q : ra = m
      · subst q; rw [List.getElem?_set_self (List.getElem?_eq_some_iff.mp ha0).1, ha0]
      · rw [List.getElem?_set_ne q]
    have e2 : cs.map (rlb ra ra) = cs := by
      conv => rhs; rw [← List.map_id cs]
      apply List.map_congr_left
      intro x _
      unfold rlb; split <;> simp_all
    rw [e1, e2]; exact ⟨l1, l2, F⟩
  · refine ⟨by simpa using l1, by simpa using l2, fun m c hc => ?_⟩
    rw [List.getElem?_map] at hc
    cases hm : cs[m]? with
    | none => rw [hm] at hc; cases hc
    | some c0 =>
      rw [hm] at hc
      obtain ⟨hc0, k0, R0⟩ := F m c0 hm
      have hc' : rlb ra rb c0 = c := by simpa using hc
      subst hc'
      unfold rlb
      by_cases q : c0 = ra
      · subst q; rw [if_pos rfl]; exact ⟨hb, k0 + 1, Rk.move e ha0 hb0 R0⟩
      · rw [if_neg q]; exact ⟨hc0, k0, Rk.other ha0 R0 q⟩
theorem UF.start (N : Nat) : UF N (List.range N) (List.range N) := by
  refine ⟨by simp, by simp, fun i c h => ?_⟩
  have h1 : i < N ∧ i = c := by simpa [List.getElem?_range, List.getElem?_eq_some_iff] using h
  obtain ⟨h1, rfl⟩ := h1
  exact ⟨h1, 0, rfl, by simp [List.getElem?_range, h1]⟩
theorem UF.at {N : Nat} {ns cs : List Nat} (I : UF N ns cs) {i : Nat} (hi : i < N) : ∃ c k, cs[i]? = some c ∧ c < N ∧ Rk ns k i c := by
  obtain ⟨l1, l2, F⟩ := I
  have := List.getElem?_eq_getElem (l := cs) (i := i) (by omega)
  obtain ⟨h1, k, h2⟩ := F _ _ this
  exact ⟨_, k, this, h1, h2⟩
theorem map_rlb {cs : List Nat} {ra rb N : Nat} (hc : ∀ c ∈ cs, c < N) (ha : ra < N) (hN : N < 2 ^ 31) : (cs.map (rlb ra rb)).map oN = (cs.map oN).map (fun x => if x = oN ra then oN rb else x) := by
  rw [List.map_map, List.map_map]
  apply List.map_congr_left
  intro c h
  have := hc c h
  simp only [Function.comp, rlb]
  by_cases q : c = ra
  · rw [if_pos q, if_pos (by rw [q])]
  · rw [if_neg q, if_neg (fun z => q ((oN_inj (by omega) (by omega)).mp z))]
theorem UF.lt {N : Nat} {ns cs : List Nat} (I : UF N ns cs) : ∀ c ∈ cs, c < N := fun c h => by
  obtain ⟨i, hi⟩ := List.mem_iff_getElem?.mp h
  exact (I.2.2 i c hi).1
theorem Rk.lt {ns : List Nat} : ∀ {k i r : Nat}, Rk ns k i r → i < ns.length
  | 0, _, _, ⟨_, h⟩ => (List.getElem?_eq_some_iff.mp h).1
  | _ + 1, _, _, ⟨_, h, _⟩ => (List.getElem?_eq_some_iff.mp h).1
theorem Rk.uniq {ns : List Nat} : ∀ {k k' i r r' : Nat}, Rk ns k i r → Rk ns k' i r' → k = k' ∧ r = r'
  | 0, 0, _, _, _, ⟨rfl, _⟩, ⟨rfl, _⟩ => ⟨rfl, rfl⟩
  | 0, _ + 1, _, _, _, ⟨_, h⟩, ⟨j, h1, h2, _⟩ => by rw [h] at h1; cases h1; exact absurd rfl h2
  | _ + 1, 0, _, _, _, ⟨j, h1, h2, _⟩, ⟨_, h⟩ => by rw [h] at h1; cases h1; exact absurd rfl h2
  | k + 1, k' + 1, _, _, _, ⟨j, h1, _, h3⟩, ⟨j', g1, _, g3⟩ => by
    rw [h1] at g1; cases g1
    obtain ⟨e1, e2⟩ := Rk.uniq h3 g3
    exact ⟨by omega, e2⟩
/-- the step of path halving keeps every root -/
theorem Rk.halve {ns : List Nat} {i j g m ri : Nat} (h1 : ns[i]? = some j) (h2 : j ≠ i) (h3 : ns[j]? = some g) (hj : Rk ns m j ri) : ∀ (k x r : Nat), Rk ns k x r → ∃ k', k' ≤ k ∧ Rk (ns.set i g) k' x r := by
  have hi : Rk ns (m + 1) i ri := ⟨j, h1, h2, hj⟩
  have il := hi.lt
  have hg : ∃ mg, mg ≤ m ∧ Rk ns mg g ri := by
    cases m with
    | zero => obtain ⟨e, q⟩ := hj; subst e; rw [q] at h3; cases h3; exact ⟨0, Nat.le_refl _, rfl, q⟩
    | succ m => obtain ⟨g', q1, q2, q3⟩ := hj; rw [q1] at h3; cases h3; exact ⟨m, Nat.le_succ _, q3⟩
  obtain ⟨mg, hmg, hg⟩ := hg
  have gi : g ≠ i := fun e => by subst e; have := (Rk.uniq hg hi).1; omega
  intro k
  induction k using Nat.strongRecOn with
  | ind k ih =>
    intro x r hx
    by_cases e : i = x
    · subst e
      obtain ⟨e1, e2⟩ := Rk.uniq hx hi
      subst e1 e2
      obtain ⟨k', hk', R'⟩ := ih mg (by omega) g r hg
      exact ⟨k' + 1, by omega, g, by rw [List.getElem?_set_self il], gi, R'⟩
    · cases k with
      | zero => obtain ⟨q1, q2⟩ := hx; exact ⟨0, Nat.le_refl _, q1, by rw [List.getElem?_set_ne e]; exact q2⟩
      | succ k =>
        obtain ⟨y, q1, q2, q3⟩ := hx
        obtain ⟨k', hk', R'⟩ := ih k (by omega) y r q3
        exact ⟨k' + 1, by omega, y, by rw [List.getElem?_set_ne e]; exact q1, q2, R'⟩
theorem Rk.append {ns : List Nat} (ms : List Nat) : ∀ {k i r : Nat}, Rk ns k i r → Rk (ns ++ ms) k i r
  | 0, i, r, ⟨e, h⟩ => ⟨e, by rw [List.getElem?_append_left (List.getElem?_eq_some_iff.mp h).1]; exact h⟩
  | k + 1, i, r, ⟨j, h1, h2, h3⟩ => ⟨j, by rw [List.getElem?_append_left (List.getElem?_eq_some_iff.mp h1).1]; exact h1, h2, Rk.append ms h3⟩
/-- the store and the four reference labels with their counts -/
def EI (ps : List Nat) (ss : List Int32) (rs : List Nat) (rep : List Nat) (cnt : List Int32) : Prop :=
  ss.length = ps.length ∧ rs.length = ps.length ∧ ps.length ≤ 6 ∧ rep.length = 4 ∧ cnt.length = 4 ∧ (∀ x ∈ rs, x < ps.length) ∧
  (∀ x c, rep[x]? = some c → c < 4 ∧ (x < ps.length → ∃ k, Rk ps k x c) ∧ (ps.length ≤ x → c = x)) ∧
  (∀ x, 4 ≤ x → x < ps.length → ps[x]? = some x) ∧
  (∀ x, x < 4 → rep[x]? = some x → (∀ v, ss[x]? = some v → cnt[x]? = some v) ∧ (ps.length ≤ x → cnt[x]? = some 1))
theorem EI.start : EI [] [] [] [0, 1, 2, 3] [1, 1, 1, 1] := by
  refine ⟨rfl, rfl, by decide, rfl, rfl, by simp, ?_, by simp, ?_⟩
  · intro x c h
    have : x < 4 := (List.getElem?_eq_some_iff.mp h).1
    have hx : x = 0 ∨ x = 1 ∨ x = 2 ∨ x = 3 := by omega
    rcases hx with rfl | rfl | rfl | rfl <;> (simp at h; subst h; simp)
  · intro x hx h
    have hx : x = 0 ∨ x = 1 ∨ x = 2 ∨ x = 3 := by omega
    rcases hx with rfl | rfl | rfl | rfl <;> simp
/-- a change of the parents that keeps the roots -/
theorem EI.halve {ps ps' : List Nat} {ss : List Int32} {rs rep : List Nat} {cnt : List Int32} (I : EI ps ss rs rep cnt) (hl : ps'.length = ps.length) (hk : ∀ k x r, Rk ps k x r → ∃ k', Rk ps' k' x r) (h4 : ∀ x, 4 ≤ x → x < ps.length → ps'[x]? = some x) : EI ps' ss rs rep cnt := by
  obtain ⟨a1, a2, a3, a4, a5, a6, a7, a8, a9⟩ := I
  refine ⟨by omega, by omega, by omega, a4, a5, fun x hx => by rw [hl]; exact a6 x hx, fun x c h => ?_, fun x h1 h2 => h4 x h1 (by omega), fun x h1 h2 => ?_⟩
  · obtain ⟨b1, b2, b3⟩ := a7 x c h
    refine ⟨b1, fun q => ?_, fun q => b3 (by omega)⟩
    obtain ⟨k, R⟩ := b2 (by omega)
    exact hk k x c R
  · obtain ⟨b1, b2⟩ := a9 x h1 h2
    exact ⟨b1, fun q => b2 (by omega)⟩
/-- growth: the new places are their own roots, their sizes 1 -/
theorem EI.grow {ps : List Nat} {ss : List Int32} {rs rep : List Nat} {cnt : List Int32} {m : Nat} (I : EI ps ss rs rep cnt) (hm : ps.length + m ≤ 6) :
    EI (ps ++ (List.range m).map (ps.length + ·)) (ss ++ List.replicate m 1) (rs ++ (List.range m).map (ps.length + ·)) rep cnt := by
  obtain ⟨a1, a2, a3, a4, a5, a6, a7, a8, a9⟩ := I
  have hn : ∀ x, ps.length ≤ x → x < ps.length + m → (ps ++ (List.range m).map (ps.length + ·))[x]? = some x := by
    intro x h1 h2
    rw [List.getElem?_append_right h1, List.getElem?_map, List.getElem?_range (by omega)]
    simp; omega
  refine ⟨by simp [a1], by simp [a2], by simpa using hm, a4, a5, ?_, ?_, ?_, ?_⟩
  · intro x hx
    simp only [List.mem_append, List.mem_map, List.mem_range] at hx
    simp only [List.length_append, List.length_map, List.length_range]
    rcases hx with hx | ⟨y, hy, rfl⟩
    · have := a6 x hx; omega
    · omega
  · intro x c h
    obtain ⟨b1, b2, b3⟩ := a7 x c h
    refine ⟨b1, fun q => ?_, fun q => b3 (by simp at q; omega)⟩
    by_cases e : x < ps.length
    · obtain ⟨k, R⟩ := b2 e; exact ⟨k, R.append _⟩
    · have := b3 (by omega); subst this
      simp at q
      exact ⟨0, rfl, hn _ (by omega) q⟩
  · intro x h1 h2
    simp at h2
    by_cases e : x < ps.length
    · rw [List.getElem?_append_left e]; exact a8 x h1 e
    · exact hn x (by omega) h2
  · intro x h1 h2
    obtain ⟨b1, b2⟩ := a9 x h1 h2
    refine ⟨fun v hv => ?_, fun q => b2 (by simp at q; omega)⟩
    by_cases e : x < ss.length
    · rw [List.getElem?_append_left e] at hv; exact b1 v hv
    · rw [List.getElem?_append_right (by omega), List.getElem?_replicate] at hv
      split at hv
      · cases hv; exact b2 (by omega)
      · cases hv
/-- two roots joined -/
theorem EI.join {ps : List Nat} {ss : List Int32} {rs rep : List Nat} {cnt : List Int32} {a b kept gone : Nat} {vk vg : Int32} {rs' : List Nat} (I : EI ps ss rs rep cnt) (ha : rep[a]? = some kept) (hb : rep[b]? = some gone) (hne : kept ≠ gone) (hk : kept < ps.length) (hg : gone < ps.length) (e1 : ss[kept]? = some vk) (e2 : ss[gone]? = some vg) (r1 : rs'.length = rs.length) (r2 : ∀ x ∈ rs', x < ps.length) :
    EI (ps.set gone kept) (ss.set kept (vk + vg)) rs' (rep.map (rlb gone kept)) (cnt.set kept (vk + vg)) := by
  obtain ⟨a1, a2, a3, a4, a5, a6, a7, a8, a9⟩ := I
  have root : ∀ {x c : Nat}, rep[x]? = some c → c < ps.length → ps[c]? = some c ∧ rep[c]? = some c := by
    intro x c h hc
    obtain ⟨b1, b2, b3⟩ := a7 x c h
    have hx : x < ps.length := by
      by_cases q : x < ps.length
      · exact q
      · have := b3 (by omega); omega
    obtain ⟨k, R⟩ := b2 hx
    have hr := R.root
    refine ⟨hr, ?_⟩
    have hc4 : c < rep.length := by omega
    have h2 := List.getElem?_eq_getElem hc4
    obtain ⟨c1, c2, c3⟩ := a7 c _ h2
    obtain ⟨k', R'⟩ := c2 hc
    have := (Rk.uniq R' (show Rk ps 0 c c from ⟨rfl, hr⟩)).2
    rw [h2, this]
  obtain ⟨pk, rk⟩ := root ha hk
  obtain ⟨pg, rg⟩ := root hb hg
  have k4 := (a7 a kept ha).1
  have g4 := (a7 b gone hb).1
  refine ⟨by simpa using a1, by simpa [r1] using a2, by simpa using a3, by simpa using a4, by simpa using a5, by simpa using r2, ?_, ?_, ?_⟩
  · intro x c h
    rw [List.getElem?_map] at h
    cases hx : rep[x]? with
    | none => rw [hx] at h; cases h
    | some c0 =>
      rw [hx] at h
      have hc : rlb gone kept c0 = c := by simpa using h
      subst hc
      obtain ⟨b1, b2, b3⟩ := a7 x c0 hx
      unfold rlb
      simp only [List.length_set]
      by_cases q : c0 = gone
      · subst q
        rw [if_pos rfl]
        have hxl : x < ps.length := by
          by_cases z : x < ps.length
          · exact z
          · have := b3 (by omega); omega
        refine ⟨k4, fun _ => ?_, fun z => by omega⟩
        obtain ⟨k, R⟩ := b2 hxl
        exact ⟨k + 1, Rk.move (Ne.symm hne) pg pk R⟩
      · rw [if_neg q]
        refine ⟨b1, fun z => ?_, b3⟩
        obtain ⟨k, R⟩ := b2 z
        exact ⟨k, Rk.other pg R q⟩
  · intro x h1 h2
    rw [List.getElem?_set_ne (by omega)]
    exact a8 x h1 (by simpa using h2)
  · intro x h1 h2
    rw [List.getElem?_map] at h2
    cases hx : rep[x]? with
    | none => rw [hx] at h2; cases h2
    | some c0 =>
      rw [hx] at h2
      have hc : rlb gone kept c0 = x := by simpa using h2
      have hxc : c0 = x ∧ x ≠ gone := by
        unfold rlb at hc
        by_cases q : c0 = gone
        · rw [if_pos q] at hc; subst hc; rw [hx] at rk; exact ⟨by injection rk, hne⟩
        · rw [if_neg q] at hc; exact ⟨hc, fun z => q (hc.trans z)⟩
      obtain ⟨rfl, xg⟩ := hxc
      obtain ⟨b1, b2⟩ := a9 c0 h1 hx
      simp only [List.length_set]
      by_cases q : kept = c0
      · subst q
        refine ⟨fun v hv => ?_, fun z => by omega⟩
        rw [List.getElem?_set_self (by omega)] at hv
        rw [List.getElem?_set_self (by omega)]; exact hv
      · refine ⟨fun v hv => ?_, fun z => ?_⟩
        · rw [List.getElem?_set_ne q] at hv ⊢; exact b1 v hv
        · rw [List.getElem?_set_ne q]; exact b2 z
theorem Rk.next {ns : List Nat} {j g m ri : Nat} (h3 : ns[j]? = some g) (hj : Rk ns m j ri) : ∃ mg, mg ≤ m ∧ Rk ns mg g ri := by
  cases m with
  | zero => obtain ⟨e, q⟩ := hj; subst e; rw [q] at h3; cases h3; exact ⟨0, Nat.le_refl _, rfl, q⟩
  | succ m => obtain ⟨g', q1, q2, q3⟩ := hj; rw [q1] at h3; cases h3; exact ⟨m, Nat.le_succ _, q3⟩
theorem at_map2 {ns : List Nat} {i j : Nat} (h : ns[i]? = some j) : ((ns.map oN).map Value.int)[i]? = some (.int (oN j)) := by rw [List.getElem?_map, List.getElem?_map, h]; rfl
theorem at_map1 {xs : List Int32} {i : Nat} {x : Int32} (h : xs[i]? = some x) : (xs.map Value.int)[i]? = some (.int x) := by rw [List.getElem?_map, h]; rfl
def RP (ps ps' : List Nat) : Prop := ps'.length = ps.length ∧ (∀ k x r, Rk ps k x r → ∃ k', Rk ps' k' x r) ∧ ∀ x : Nat, ps[x]? = some x → ps'[x]? = some x
theorem RP.refl (ps : List Nat) : RP ps ps := ⟨rfl, fun k x r h => ⟨k, h⟩, fun _ h => h⟩
theorem RP.trans {a b c : List Nat} (h : RP a b) (g : RP b c) : RP a c := ⟨g.1.trans h.1, fun k x r q => by obtain ⟨k', q'⟩ := h.2.1 k x r q; exact g.2.1 k' x r q', fun x q => g.2.2 x (h.2.2 x q)⟩
theorem RP.halve {ns : List Nat} {i j g m ri : Nat} (h1 : ns[i]? = some j) (h2 : j ≠ i) (h3 : ns[j]? = some g) (hj : Rk ns m j ri) : RP ns (ns.set i g) :=
  ⟨by simp, fun k x r q => by obtain ⟨k', -, q'⟩ := Rk.halve h1 h2 h3 hj k x r q; exact ⟨k', q'⟩, fun x q => by
    by_cases e : i = x
    · subst e; rw [h1] at q; cases q; exact absurd rfl h2
    · rw [List.getElem?_set_ne e]; exact q⟩
theorem EI.rp {ps ps' : List Nat} {ss : List Int32} {rs rep : List Nat} {cnt : List Int32} (I : EI ps ss rs rep cnt) (h : RP ps ps') : EI ps' ss rs rep cnt := I.halve h.1 h.2.1 fun x h1 h2 => h.2.2 x (I.2.2.2.2.2.2.2.1 x h1 h2)
theorem EI.case {ps : List Nat} {ss : List Int32} {rs rep : List Nat} {cnt : List Int32} (I : EI ps ss rs rep cnt) {i c : Nat} (h : rep[i]? = some c) : (i < ps.length ∧ ∃ k, Rk ps k i c) ∨ (ps.length ≤ i ∧ c = i) := by
  obtain ⟨b1, b2, b3⟩ := I.2.2.2.2.2.2.1 i c h
  by_cases q : i < ps.length
  · exact Or.inl ⟨q, b2 q⟩
  · exact Or.inr ⟨by omega, b3 (by omega)⟩
theorem EI.at {ps : List Nat} {ss : List Int32} {rs rep : List Nat} {cnt : List Int32} (I : EI ps ss rs rep cnt) {i : Nat} (h : i < 4) : ∃ c, c < 4 ∧ rep[i]? = some c := by
  have h4 : rep.length = 4 := I.2.2.2.1
  have := List.getElem?_eq_getElem (l := rep) (i := i) (by omega)
  exact ⟨_, (I.2.2.2.2.2.2.1 _ _ this).1, this⟩
theorem EI.self {ps : List Nat} {ss : List Int32} {rs rep : List Nat} {cnt : List Int32} (I : EI ps ss rs rep cnt) {a c : Nat} (h : rep[a]? = some c) : rep[c]? = some c := by
  obtain ⟨b1, b2, b3⟩ := I.2.2.2.2.2.2.1 a c h
  by_cases q : a < ps.length
  · obtain ⟨k, R⟩ := b2 q
    have hr := R.root
    obtain ⟨c', h4, hc'⟩ := I.at b1
    obtain ⟨c1, c2, c3⟩ := I.2.2.2.2.2.2.1 c c' hc'
    obtain ⟨k', R'⟩ := c2 (lt_of_at hr)
    have := (Rk.uniq R' (show Rk ps 0 c c from ⟨rfl, hr⟩)).2
    rw [hc', this]
  · have := b3 (by omega); subst this; exact h
def mgB (cf cs : Int32) (f s : Nat) : Prop := cs < cf ∨ (cf = cs ∧ f < s)
instance (cf cs : Int32) (f s : Nat) : Decidable (mgB cf cs f s) := by unfold mgB; infer_instance
def mgR (rep : List Nat) (f s : Nat) (cf cs : Int32) : List Nat := if f = s then rep else if mgB cf cs f s then rep.map (rlb s f) else rep.map (rlb f s)
def mgC (cnt : List Int32) (f s : Nat) (cf cs : Int32) : List Int32 := if f = s then cnt else if mgB cf cs f s then cnt.set f (cf + cs) else cnt.set s (cs + cf)
theorem grow_set {α : Type} (xs : List α) (f : Nat → α) (d v : α) (j m : Nat) (hj : j < m) (hv : v = f j) : (xs ++ (List.range j).map f ++ List.replicate (m - j) d).set (xs.length + j) v = xs ++ (List.range (j + 1)).map f ++ List.replicate (m - (j + 1)) d := by
  have e : m - j = (m - (j + 1)) + 1 := by omega
  rw [List.set_append_right _ _ (by simp), e, List.replicate_succ, List.range_succ]
  simp [hv]

def ET (Z : State) (h : Heap) (a p s r : Addr) (ps : List Nat) (ss : List Int32) (rs : List Nat) : Prop := Exa Z h a "com/example/entailor/entailor/store/EqualTerms" ∧ Fld Z h a "com/example/entailor/entailor/store/EqualTerms" "parent" "[I" (.ref p) ∧ Fld Z h a "com/example/entailor/entailor/store/EqualTerms" "size" "[I" (.ref s) ∧ Fld Z h a "com/example/entailor/entailor/store/EqualTerms" "ring" "[I" (.ref r) ∧ IA Z h p (ps.map oN) ∧ IA Z h s ss ∧ IA Z h r (rs.map oN) ∧ a ≠ p ∧ a ≠ s ∧ a ≠ r ∧ p ≠ s ∧ p ≠ r ∧ s ≠ r
theorem ET.keep {Z : State} {h h' : Heap} {a p s r : Addr} {ps : List Nat} {ss : List Int32} {rs : List Nat} {ws : List Addr} (O : ET Z h a p s r ps ss rs) (K : Keep h h' ws) (q1 : a ∉ ws) (q2 : p ∉ ws) (q3 : s ∉ ws) (q4 : r ∉ ws) : ET Z h' a p s r ps ss rs := by
  obtain ⟨a1, a2, a3, a4, a5, a6, a7, b⟩ := O
  exact ⟨a1.keep K, a2.keep K q1, a3.keep K q1, a4.keep K q1, a5.keep K q2, a6.keep K q3, a7.keep K q4, b⟩
theorem ET.len {Z : State} {h : Heap} {a p s r : Addr} {ps : List Nat} {ss : List Int32} {rs : List Nat} (O : ET Z h a p s r ps ss rs) : ps.length < 2 ^ 31 := by simpa using O.2.2.2.2.1.len
theorem d0_0 : Dc jdk_29_method_65_code 0 (.iload_n 0) 1 1 := ⟨by decide +kernel, rfl⟩
theorem d0_1 : Dc jdk_29_method_65_code 1 (.iload_n 1) 1 2 := ⟨by decide +kernel, rfl⟩
theorem d0_2 : Jp jdk_29_method_65_code 2 (.if_icmp .lt) 9 5 := ⟨7, by decide +kernel, by decide, by decide, rfl⟩
theorem d0_5 : Dc jdk_29_method_65_code 5 (.iload_n 0) 1 6 := ⟨by decide +kernel, rfl⟩
theorem d0_6 : Jp jdk_29_method_65_code 6 .goto 10 9 := ⟨4, by decide +kernel, by decide, by decide, rfl⟩
theorem d0_9 : Dc jdk_29_method_65_code 9 (.iload_n 1) 1 10 := ⟨by decide +kernel, rfl⟩
theorem d0_10 : Dc jdk_29_method_65_code 10 .ireturn 1 11 := ⟨by decide +kernel, rfl⟩
theorem d1_0 : Dc jdk_29_method_69_code 0 (.iload_n 0) 1 1 := ⟨by decide +kernel, rfl⟩
theorem d1_1 : Dc jdk_29_method_69_code 1 (.iload_n 1) 1 2 := ⟨by decide +kernel, rfl⟩
theorem d1_2 : Jp jdk_29_method_69_code 2 (.if_icmp .gt) 9 5 := ⟨7, by decide +kernel, by decide, by decide, rfl⟩
theorem d1_5 : Dc jdk_29_method_69_code 5 (.iload_n 0) 1 6 := ⟨by decide +kernel, rfl⟩
theorem d1_6 : Jp jdk_29_method_69_code 6 .goto 10 9 := ⟨4, by decide +kernel, by decide, by decide, rfl⟩
theorem d1_9 : Dc jdk_29_method_69_code 9 (.iload_n 1) 1 10 := ⟨by decide +kernel, rfl⟩
theorem d1_10 : Dc jdk_29_method_69_code 10 .ireturn 1 11 := ⟨by decide +kernel, rfl⟩
theorem d2_0 : Dc jdk_65_method_123_code 0 (.iload_n 1) 1 1 := ⟨by decide +kernel, rfl⟩
theorem d2_1 : Dc jdk_65_method_123_code 1 (.aload_n 0) 1 2 := ⟨by decide +kernel, rfl⟩
theorem d2_2 : Dc jdk_65_method_123_code 2 .arraylength 1 3 := ⟨by decide +kernel, rfl⟩
theorem d2_3 : Jp jdk_65_method_123_code 3 (.if_icmp .ne) 14 6 := ⟨11, by decide +kernel, by decide, by decide, rfl⟩
theorem d2_14 : Dc jdk_65_method_123_code 14 (.iload_n 1) 1 15 := ⟨by decide +kernel, rfl⟩
theorem d2_15 : Dc jdk_65_method_123_code 15 (.newarray .int) 2 17 := ⟨by decide +kernel, rfl⟩
theorem d2_17 : Dc jdk_65_method_123_code 17 (.astore_n 2) 1 18 := ⟨by decide +kernel, rfl⟩
theorem d2_18 : Dc jdk_65_method_123_code 18 (.aload_n 0) 1 19 := ⟨by decide +kernel, rfl⟩
theorem d2_19 : Dc jdk_65_method_123_code 19 (.iconst 0) 1 20 := ⟨by decide +kernel, rfl⟩
theorem d2_20 : Dc jdk_65_method_123_code 20 (.aload_n 2) 1 21 := ⟨by decide +kernel, rfl⟩
theorem d2_21 : Dc jdk_65_method_123_code 21 (.iconst 0) 1 22 := ⟨by decide +kernel, rfl⟩
theorem d2_22 : Dc jdk_65_method_123_code 22 (.aload_n 0) 1 23 := ⟨by decide +kernel, rfl⟩
theorem d2_23 : Dc jdk_65_method_123_code 23 .arraylength 1 24 := ⟨by decide +kernel, rfl⟩
theorem d2_24 : Dc jdk_65_method_123_code 24 (.iload_n 1) 1 25 := ⟨by decide +kernel, rfl⟩
theorem d2_25 : Dc jdk_65_method_123_code 25 (.invokestatic 304) 3 28 := ⟨by decide +kernel, rfl⟩
theorem d2_28 : Dc jdk_65_method_123_code 28 (.invokestatic 150) 3 31 := ⟨by decide +kernel, rfl⟩
theorem d2_31 : Dc jdk_65_method_123_code 31 (.aload_n 2) 1 32 := ⟨by decide +kernel, rfl⟩
theorem d2_32 : Dc jdk_65_method_123_code 32 .areturn 1 33 := ⟨by decide +kernel, rfl⟩
theorem d3_0 : Dc prog_122_method_1_code 0 (.aload_n 0) 1 1 := ⟨by decide +kernel, rfl⟩
theorem d3_1 : Dc prog_122_method_1_code 1 (.invokespecial 1) 3 4 := ⟨by decide +kernel, rfl⟩
theorem d3_4 : Dc prog_122_method_1_code 4 (.aload_n 0) 1 5 := ⟨by decide +kernel, rfl⟩
theorem d3_5 : Dc prog_122_method_1_code 5 (.iconst 0) 1 6 := ⟨by decide +kernel, rfl⟩
theorem d3_6 : Dc prog_122_method_1_code 6 (.newarray .int) 2 8 := ⟨by decide +kernel, rfl⟩
theorem d3_8 : Dc prog_122_method_1_code 8 (.putfield 7) 3 11 := ⟨by decide +kernel, rfl⟩
theorem d3_11 : Dc prog_122_method_1_code 11 (.aload_n 0) 1 12 := ⟨by decide +kernel, rfl⟩
theorem d3_12 : Dc prog_122_method_1_code 12 (.iconst 0) 1 13 := ⟨by decide +kernel, rfl⟩
theorem d3_13 : Dc prog_122_method_1_code 13 (.newarray .int) 2 15 := ⟨by decide +kernel, rfl⟩
theorem d3_15 : Dc prog_122_method_1_code 15 (.putfield 13) 3 18 := ⟨by decide +kernel, rfl⟩
theorem d3_18 : Dc prog_122_method_1_code 18 (.aload_n 0) 1 19 := ⟨by decide +kernel, rfl⟩
theorem d3_19 : Dc prog_122_method_1_code 19 (.iconst 0) 1 20 := ⟨by decide +kernel, rfl⟩
theorem d3_20 : Dc prog_122_method_1_code 20 (.newarray .int) 2 22 := ⟨by decide +kernel, rfl⟩
theorem d3_22 : Dc prog_122_method_1_code 22 (.putfield 16) 3 25 := ⟨by decide +kernel, rfl⟩
theorem d3_25 : Dc prog_122_method_1_code 25 .return_ 1 26 := ⟨by decide +kernel, rfl⟩
theorem d4_0 : Dc prog_122_method_2_code 0 (.iload_n 1) 1 1 := ⟨by decide +kernel, rfl⟩
theorem d4_1 : Dc prog_122_method_2_code 1 (.aload_n 0) 1 2 := ⟨by decide +kernel, rfl⟩
theorem d4_2 : Dc prog_122_method_2_code 2 (.getfield 7) 3 5 := ⟨by decide +kernel, rfl⟩
theorem d4_5 : Dc prog_122_method_2_code 5 .arraylength 1 6 := ⟨by decide +kernel, rfl⟩
theorem d4_6 : Jp prog_122_method_2_code 6 (.if_icmp .lt) 11 9 := ⟨5, by decide +kernel, by decide, by decide, rfl⟩
theorem d4_9 : Dc prog_122_method_2_code 9 (.iload_n 1) 1 10 := ⟨by decide +kernel, rfl⟩
theorem d4_10 : Dc prog_122_method_2_code 10 .ireturn 1 11 := ⟨by decide +kernel, rfl⟩
theorem d4_11 : Dc prog_122_method_2_code 11 (.iload_n 1) 1 12 := ⟨by decide +kernel, rfl⟩
theorem d4_12 : Dc prog_122_method_2_code 12 (.istore_n 2) 1 13 := ⟨by decide +kernel, rfl⟩
theorem d4_13 : Dc prog_122_method_2_code 13 (.aload_n 0) 1 14 := ⟨by decide +kernel, rfl⟩
theorem d4_14 : Dc prog_122_method_2_code 14 (.getfield 7) 3 17 := ⟨by decide +kernel, rfl⟩
theorem d4_17 : Dc prog_122_method_2_code 17 (.iload_n 2) 1 18 := ⟨by decide +kernel, rfl⟩
theorem d4_18 : Dc prog_122_method_2_code 18 .iaload 1 19 := ⟨by decide +kernel, rfl⟩
theorem d4_19 : Dc prog_122_method_2_code 19 (.iload_n 2) 1 20 := ⟨by decide +kernel, rfl⟩
theorem d4_20 : Jp prog_122_method_2_code 20 (.if_icmp .eq) 50 23 := ⟨30, by decide +kernel, by decide, by decide, rfl⟩
theorem d4_23 : Dc prog_122_method_2_code 23 (.aload_n 0) 1 24 := ⟨by decide +kernel, rfl⟩
theorem d4_24 : Dc prog_122_method_2_code 24 (.getfield 7) 3 27 := ⟨by decide +kernel, rfl⟩
theorem d4_27 : Dc prog_122_method_2_code 27 (.iload_n 2) 1 28 := ⟨by decide +kernel, rfl⟩
theorem d4_28 : Dc prog_122_method_2_code 28 (.aload_n 0) 1 29 := ⟨by decide +kernel, rfl⟩
theorem d4_29 : Dc prog_122_method_2_code 29 (.getfield 7) 3 32 := ⟨by decide +kernel, rfl⟩
theorem d4_32 : Dc prog_122_method_2_code 32 (.aload_n 0) 1 33 := ⟨by decide +kernel, rfl⟩
theorem d4_33 : Dc prog_122_method_2_code 33 (.getfield 7) 3 36 := ⟨by decide +kernel, rfl⟩
theorem d4_36 : Dc prog_122_method_2_code 36 (.iload_n 2) 1 37 := ⟨by decide +kernel, rfl⟩
theorem d4_37 : Dc prog_122_method_2_code 37 .iaload 1 38 := ⟨by decide +kernel, rfl⟩
theorem d4_38 : Dc prog_122_method_2_code 38 .iaload 1 39 := ⟨by decide +kernel, rfl⟩
theorem d4_39 : Dc prog_122_method_2_code 39 .iastore 1 40 := ⟨by decide +kernel, rfl⟩
theorem d4_40 : Dc prog_122_method_2_code 40 (.aload_n 0) 1 41 := ⟨by decide +kernel, rfl⟩
theorem d4_41 : Dc prog_122_method_2_code 41 (.getfield 7) 3 44 := ⟨by decide +kernel, rfl⟩
theorem d4_44 : Dc prog_122_method_2_code 44 (.iload_n 2) 1 45 := ⟨by decide +kernel, rfl⟩
theorem d4_45 : Dc prog_122_method_2_code 45 .iaload 1 46 := ⟨by decide +kernel, rfl⟩
theorem d4_46 : Dc prog_122_method_2_code 46 (.istore_n 2) 1 47 := ⟨by decide +kernel, rfl⟩
theorem d4_47 : Jp prog_122_method_2_code 47 .goto 13 50 := ⟨-34, by decide +kernel, by decide, by decide, rfl⟩
theorem d4_50 : Dc prog_122_method_2_code 50 (.iload_n 2) 1 51 := ⟨by decide +kernel, rfl⟩
theorem d4_51 : Dc prog_122_method_2_code 51 .ireturn 1 52 := ⟨by decide +kernel, rfl⟩
theorem d5_0 : Dc prog_122_method_7_code 0 (.aload_n 0) 1 1 := ⟨by decide +kernel, rfl⟩
theorem d5_1 : Dc prog_122_method_7_code 1 (.getfield 7) 3 4 := ⟨by decide +kernel, rfl⟩
theorem d5_4 : Dc prog_122_method_7_code 4 .arraylength 1 5 := ⟨by decide +kernel, rfl⟩
theorem d5_5 : Dc prog_122_method_7_code 5 (.istore_n 2) 1 6 := ⟨by decide +kernel, rfl⟩
theorem d5_6 : Dc prog_122_method_7_code 6 (.iload_n 1) 1 7 := ⟨by decide +kernel, rfl⟩
theorem d5_7 : Dc prog_122_method_7_code 7 (.iload_n 2) 1 8 := ⟨by decide +kernel, rfl⟩
theorem d5_8 : Jp prog_122_method_7_code 8 (.if_icmp .ge) 12 11 := ⟨4, by decide +kernel, by decide, by decide, rfl⟩
theorem d5_11 : Dc prog_122_method_7_code 11 .return_ 1 12 := ⟨by decide +kernel, rfl⟩
theorem d5_12 : Dc prog_122_method_7_code 12 (.iload_n 1) 1 13 := ⟨by decide +kernel, rfl⟩
theorem d5_13 : Dc prog_122_method_7_code 13 (.iconst 1) 1 14 := ⟨by decide +kernel, rfl⟩
theorem d5_14 : Dc prog_122_method_7_code 14 .iadd 1 15 := ⟨by decide +kernel, rfl⟩
theorem d5_15 : Dc prog_122_method_7_code 15 (.iload_n 2) 1 16 := ⟨by decide +kernel, rfl⟩
theorem d5_16 : Dc prog_122_method_7_code 16 (.iconst 2) 1 17 := ⟨by decide +kernel, rfl⟩
theorem d5_17 : Dc prog_122_method_7_code 17 .imul 1 18 := ⟨by decide +kernel, rfl⟩
theorem d5_18 : Dc prog_122_method_7_code 18 (.invokestatic 23) 3 21 := ⟨by decide +kernel, rfl⟩
theorem d5_21 : Dc prog_122_method_7_code 21 (.istore_n 3) 1 22 := ⟨by decide +kernel, rfl⟩
theorem d5_22 : Dc prog_122_method_7_code 22 (.aload_n 0) 1 23 := ⟨by decide +kernel, rfl⟩
theorem d5_23 : Dc prog_122_method_7_code 23 (.aload_n 0) 1 24 := ⟨by decide +kernel, rfl⟩
theorem d5_24 : Dc prog_122_method_7_code 24 (.getfield 7) 3 27 := ⟨by decide +kernel, rfl⟩
theorem d5_27 : Dc prog_122_method_7_code 27 (.iload_n 3) 1 28 := ⟨by decide +kernel, rfl⟩
theorem d5_28 : Dc prog_122_method_7_code 28 (.invokestatic 33) 3 31 := ⟨by decide +kernel, rfl⟩
theorem d5_31 : Dc prog_122_method_7_code 31 (.putfield 7) 3 34 := ⟨by decide +kernel, rfl⟩
theorem d5_34 : Dc prog_122_method_7_code 34 (.aload_n 0) 1 35 := ⟨by decide +kernel, rfl⟩
theorem d5_35 : Dc prog_122_method_7_code 35 (.aload_n 0) 1 36 := ⟨by decide +kernel, rfl⟩
theorem d5_36 : Dc prog_122_method_7_code 36 (.getfield 13) 3 39 := ⟨by decide +kernel, rfl⟩
theorem d5_39 : Dc prog_122_method_7_code 39 (.iload_n 3) 1 40 := ⟨by decide +kernel, rfl⟩
theorem d5_40 : Dc prog_122_method_7_code 40 (.invokestatic 33) 3 43 := ⟨by decide +kernel, rfl⟩
theorem d5_43 : Dc prog_122_method_7_code 43 (.putfield 13) 3 46 := ⟨by decide +kernel, rfl⟩
theorem d5_46 : Dc prog_122_method_7_code 46 (.aload_n 0) 1 47 := ⟨by decide +kernel, rfl⟩
theorem d5_47 : Dc prog_122_method_7_code 47 (.aload_n 0) 1 48 := ⟨by decide +kernel, rfl⟩
theorem d5_48 : Dc prog_122_method_7_code 48 (.getfield 16) 3 51 := ⟨by decide +kernel, rfl⟩
theorem d5_51 : Dc prog_122_method_7_code 51 (.iload_n 3) 1 52 := ⟨by decide +kernel, rfl⟩
theorem d5_52 : Dc prog_122_method_7_code 52 (.invokestatic 33) 3 55 := ⟨by decide +kernel, rfl⟩
theorem d5_55 : Dc prog_122_method_7_code 55 (.putfield 16) 3 58 := ⟨by decide +kernel, rfl⟩
theorem d5_58 : Dc prog_122_method_7_code 58 (.iload_n 2) 1 59 := ⟨by decide +kernel, rfl⟩
theorem d5_59 : Dc prog_122_method_7_code 59 (.istore 4) 2 61 := ⟨by decide +kernel, rfl⟩
theorem d5_61 : Dc prog_122_method_7_code 61 (.iload 4) 2 63 := ⟨by decide +kernel, rfl⟩
theorem d5_63 : Dc prog_122_method_7_code 63 (.iload_n 3) 1 64 := ⟨by decide +kernel, rfl⟩
theorem d5_64 : Jp prog_122_method_7_code 64 (.if_icmp .ge) 99 67 := ⟨35, by decide +kernel, by decide, by decide, rfl⟩
theorem d5_67 : Dc prog_122_method_7_code 67 (.aload_n 0) 1 68 := ⟨by decide +kernel, rfl⟩
theorem d5_68 : Dc prog_122_method_7_code 68 (.getfield 7) 3 71 := ⟨by decide +kernel, rfl⟩
theorem d5_71 : Dc prog_122_method_7_code 71 (.iload 4) 2 73 := ⟨by decide +kernel, rfl⟩
theorem d5_73 : Dc prog_122_method_7_code 73 (.iload 4) 2 75 := ⟨by decide +kernel, rfl⟩
theorem d5_75 : Dc prog_122_method_7_code 75 .iastore 1 76 := ⟨by decide +kernel, rfl⟩
theorem d5_76 : Dc prog_122_method_7_code 76 (.aload_n 0) 1 77 := ⟨by decide +kernel, rfl⟩
theorem d5_77 : Dc prog_122_method_7_code 77 (.getfield 13) 3 80 := ⟨by decide +kernel, rfl⟩
theorem d5_80 : Dc prog_122_method_7_code 80 (.iload 4) 2 82 := ⟨by decide +kernel, rfl⟩
theorem d5_82 : Dc prog_122_method_7_code 82 (.iconst 1) 1 83 := ⟨by decide +kernel, rfl⟩
theorem d5_83 : Dc prog_122_method_7_code 83 .iastore 1 84 := ⟨by decide +kernel, rfl⟩
theorem d5_84 : Dc prog_122_method_7_code 84 (.aload_n 0) 1 85 := ⟨by decide +kernel, rfl⟩
theorem d5_85 : Dc prog_122_method_7_code 85 (.getfield 16) 3 88 := ⟨by decide +kernel, rfl⟩
theorem d5_88 : Dc prog_122_method_7_code 88 (.iload 4) 2 90 := ⟨by decide +kernel, rfl⟩
theorem d5_90 : Dc prog_122_method_7_code 90 (.iload 4) 2 92 := ⟨by decide +kernel, rfl⟩
theorem d5_92 : Dc prog_122_method_7_code 92 .iastore 1 93 := ⟨by decide +kernel, rfl⟩
theorem d5_93 : Dc prog_122_method_7_code 93 (.iinc 4 1) 3 96 := ⟨by decide +kernel, rfl⟩
theorem d5_96 : Jp prog_122_method_7_code 96 .goto 61 99 := ⟨-35, by decide +kernel, by decide, by decide, rfl⟩
theorem d5_99 : Dc prog_122_method_7_code 99 .return_ 1 100 := ⟨by decide +kernel, rfl⟩
theorem d6_0 : Dc prog_122_method_5_code 0 (.aload_n 0) 1 1 := ⟨by decide +kernel, rfl⟩
theorem d6_1 : Dc prog_122_method_5_code 1 (.iload_n 1) 1 2 := ⟨by decide +kernel, rfl⟩
theorem d6_2 : Dc prog_122_method_5_code 2 (.invokevirtual 19) 3 5 := ⟨by decide +kernel, rfl⟩
theorem d6_5 : Dc prog_122_method_5_code 5 (.istore_n 3) 1 6 := ⟨by decide +kernel, rfl⟩
theorem d6_6 : Dc prog_122_method_5_code 6 (.aload_n 0) 1 7 := ⟨by decide +kernel, rfl⟩
theorem d6_7 : Dc prog_122_method_5_code 7 (.iload_n 2) 1 8 := ⟨by decide +kernel, rfl⟩
theorem d6_8 : Dc prog_122_method_5_code 8 (.invokevirtual 19) 3 11 := ⟨by decide +kernel, rfl⟩
theorem d6_11 : Dc prog_122_method_5_code 11 (.istore 4) 2 13 := ⟨by decide +kernel, rfl⟩
theorem d6_13 : Dc prog_122_method_5_code 13 (.iload_n 3) 1 14 := ⟨by decide +kernel, rfl⟩
theorem d6_14 : Dc prog_122_method_5_code 14 (.iload 4) 2 16 := ⟨by decide +kernel, rfl⟩
theorem d6_16 : Jp prog_122_method_5_code 16 (.if_icmp .ne) 21 19 := ⟨5, by decide +kernel, by decide, by decide, rfl⟩
theorem d6_19 : Dc prog_122_method_5_code 19 (.iconst (-1)) 1 20 := ⟨by decide +kernel, rfl⟩
theorem d6_20 : Dc prog_122_method_5_code 20 .ireturn 1 21 := ⟨by decide +kernel, rfl⟩
theorem d6_21 : Dc prog_122_method_5_code 21 (.aload_n 0) 1 22 := ⟨by decide +kernel, rfl⟩
theorem d6_22 : Dc prog_122_method_5_code 22 (.iload_n 3) 1 23 := ⟨by decide +kernel, rfl⟩
theorem d6_23 : Dc prog_122_method_5_code 23 (.iload 4) 2 25 := ⟨by decide +kernel, rfl⟩
theorem d6_25 : Dc prog_122_method_5_code 25 (.invokestatic 23) 3 28 := ⟨by decide +kernel, rfl⟩
theorem d6_28 : Dc prog_122_method_5_code 28 (.invokevirtual 29) 3 31 := ⟨by decide +kernel, rfl⟩
theorem d6_31 : Dc prog_122_method_5_code 31 (.aload_n 0) 1 32 := ⟨by decide +kernel, rfl⟩
theorem d6_32 : Dc prog_122_method_5_code 32 (.getfield 13) 3 35 := ⟨by decide +kernel, rfl⟩
theorem d6_35 : Dc prog_122_method_5_code 35 (.iload_n 3) 1 36 := ⟨by decide +kernel, rfl⟩
theorem d6_36 : Dc prog_122_method_5_code 36 .iaload 1 37 := ⟨by decide +kernel, rfl⟩
theorem d6_37 : Dc prog_122_method_5_code 37 (.aload_n 0) 1 38 := ⟨by decide +kernel, rfl⟩
theorem d6_38 : Dc prog_122_method_5_code 38 (.getfield 13) 3 41 := ⟨by decide +kernel, rfl⟩
theorem d6_41 : Dc prog_122_method_5_code 41 (.iload 4) 2 43 := ⟨by decide +kernel, rfl⟩
theorem d6_43 : Dc prog_122_method_5_code 43 .iaload 1 44 := ⟨by decide +kernel, rfl⟩
theorem d6_44 : Jp prog_122_method_5_code 44 (.if_icmp .gt) 69 47 := ⟨25, by decide +kernel, by decide, by decide, rfl⟩
theorem d6_47 : Dc prog_122_method_5_code 47 (.aload_n 0) 1 48 := ⟨by decide +kernel, rfl⟩
theorem d6_48 : Dc prog_122_method_5_code 48 (.getfield 13) 3 51 := ⟨by decide +kernel, rfl⟩
theorem d6_51 : Dc prog_122_method_5_code 51 (.iload_n 3) 1 52 := ⟨by decide +kernel, rfl⟩
theorem d6_52 : Dc prog_122_method_5_code 52 .iaload 1 53 := ⟨by decide +kernel, rfl⟩
theorem d6_53 : Dc prog_122_method_5_code 53 (.aload_n 0) 1 54 := ⟨by decide +kernel, rfl⟩
theorem d6_54 : Dc prog_122_method_5_code 54 (.getfield 13) 3 57 := ⟨by decide +kernel, rfl⟩
theorem d6_57 : Dc prog_122_method_5_code 57 (.iload 4) 2 59 := ⟨by decide +kernel, rfl⟩
theorem d6_59 : Dc prog_122_method_5_code 59 .iaload 1 60 := ⟨by decide +kernel, rfl⟩
theorem d6_60 : Jp prog_122_method_5_code 60 (.if_icmp .ne) 73 63 := ⟨13, by decide +kernel, by decide, by decide, rfl⟩
theorem d6_63 : Dc prog_122_method_5_code 63 (.iload_n 3) 1 64 := ⟨by decide +kernel, rfl⟩
theorem d6_64 : Dc prog_122_method_5_code 64 (.iload 4) 2 66 := ⟨by decide +kernel, rfl⟩
theorem d6_66 : Jp prog_122_method_5_code 66 (.if_icmp .ge) 73 69 := ⟨7, by decide +kernel, by decide, by decide, rfl⟩
theorem d6_69 : Dc prog_122_method_5_code 69 (.iconst 1) 1 70 := ⟨by decide +kernel, rfl⟩
theorem d6_70 : Jp prog_122_method_5_code 70 .goto 74 73 := ⟨4, by decide +kernel, by decide, by decide, rfl⟩
theorem d6_73 : Dc prog_122_method_5_code 73 (.iconst 0) 1 74 := ⟨by decide +kernel, rfl⟩
theorem d6_74 : Dc prog_122_method_5_code 74 (.istore 5) 2 76 := ⟨by decide +kernel, rfl⟩
theorem d6_76 : Dc prog_122_method_5_code 76 (.iload 5) 2 78 := ⟨by decide +kernel, rfl⟩
theorem d6_78 : Jp prog_122_method_5_code 78 (.ifCond .eq) 85 81 := ⟨7, by decide +kernel, by decide, by decide, rfl⟩
theorem d6_81 : Dc prog_122_method_5_code 81 (.iload_n 3) 1 82 := ⟨by decide +kernel, rfl⟩
theorem d6_82 : Jp prog_122_method_5_code 82 .goto 87 85 := ⟨5, by decide +kernel, by decide, by decide, rfl⟩
theorem d6_85 : Dc prog_122_method_5_code 85 (.iload 4) 2 87 := ⟨by decide +kernel, rfl⟩
theorem d6_87 : Dc prog_122_method_5_code 87 (.istore 6) 2 89 := ⟨by decide +kernel, rfl⟩
theorem d6_89 : Dc prog_122_method_5_code 89 (.iload 5) 2 91 := ⟨by decide +kernel, rfl⟩
theorem d6_91 : Jp prog_122_method_5_code 91 (.ifCond .eq) 99 94 := ⟨8, by decide +kernel, by decide, by decide, rfl⟩
theorem d6_94 : Dc prog_122_method_5_code 94 (.iload 4) 2 96 := ⟨by decide +kernel, rfl⟩
theorem d6_96 : Jp prog_122_method_5_code 96 .goto 100 99 := ⟨4, by decide +kernel, by decide, by decide, rfl⟩
theorem d6_99 : Dc prog_122_method_5_code 99 (.iload_n 3) 1 100 := ⟨by decide +kernel, rfl⟩
theorem d6_100 : Dc prog_122_method_5_code 100 (.istore 7) 2 102 := ⟨by decide +kernel, rfl⟩
theorem d6_102 : Dc prog_122_method_5_code 102 (.aload_n 0) 1 103 := ⟨by decide +kernel, rfl⟩
theorem d6_103 : Dc prog_122_method_5_code 103 (.getfield 7) 3 106 := ⟨by decide +kernel, rfl⟩
theorem d6_106 : Dc prog_122_method_5_code 106 (.iload 7) 2 108 := ⟨by decide +kernel, rfl⟩
theorem d6_108 : Dc prog_122_method_5_code 108 (.iload 6) 2 110 := ⟨by decide +kernel, rfl⟩
theorem d6_110 : Dc prog_122_method_5_code 110 .iastore 1 111 := ⟨by decide +kernel, rfl⟩
theorem d6_111 : Dc prog_122_method_5_code 111 (.aload_n 0) 1 112 := ⟨by decide +kernel, rfl⟩
theorem d6_112 : Dc prog_122_method_5_code 112 (.getfield 13) 3 115 := ⟨by decide +kernel, rfl⟩
theorem d6_115 : Dc prog_122_method_5_code 115 (.iload 6) 2 117 := ⟨by decide +kernel, rfl⟩
theorem d6_117 : Dc prog_122_method_5_code 117 .dup2 1 118 := ⟨by decide +kernel, rfl⟩
theorem d6_118 : Dc prog_122_method_5_code 118 .iaload 1 119 := ⟨by decide +kernel, rfl⟩
theorem d6_119 : Dc prog_122_method_5_code 119 (.aload_n 0) 1 120 := ⟨by decide +kernel, rfl⟩
theorem d6_120 : Dc prog_122_method_5_code 120 (.getfield 13) 3 123 := ⟨by decide +kernel, rfl⟩
theorem d6_123 : Dc prog_122_method_5_code 123 (.iload 7) 2 125 := ⟨by decide +kernel, rfl⟩
theorem d6_125 : Dc prog_122_method_5_code 125 .iaload 1 126 := ⟨by decide +kernel, rfl⟩
theorem d6_126 : Dc prog_122_method_5_code 126 .iadd 1 127 := ⟨by decide +kernel, rfl⟩
theorem d6_127 : Dc prog_122_method_5_code 127 .iastore 1 128 := ⟨by decide +kernel, rfl⟩
theorem d6_128 : Dc prog_122_method_5_code 128 (.aload_n 0) 1 129 := ⟨by decide +kernel, rfl⟩
theorem d6_129 : Dc prog_122_method_5_code 129 (.getfield 16) 3 132 := ⟨by decide +kernel, rfl⟩
theorem d6_132 : Dc prog_122_method_5_code 132 (.iload 6) 2 134 := ⟨by decide +kernel, rfl⟩
theorem d6_134 : Dc prog_122_method_5_code 134 .iaload 1 135 := ⟨by decide +kernel, rfl⟩
theorem d6_135 : Dc prog_122_method_5_code 135 (.istore 8) 2 137 := ⟨by decide +kernel, rfl⟩
theorem d6_137 : Dc prog_122_method_5_code 137 (.aload_n 0) 1 138 := ⟨by decide +kernel, rfl⟩
theorem d6_138 : Dc prog_122_method_5_code 138 (.getfield 16) 3 141 := ⟨by decide +kernel, rfl⟩
theorem d6_141 : Dc prog_122_method_5_code 141 (.iload 6) 2 143 := ⟨by decide +kernel, rfl⟩
theorem d6_143 : Dc prog_122_method_5_code 143 (.aload_n 0) 1 144 := ⟨by decide +kernel, rfl⟩
theorem d6_144 : Dc prog_122_method_5_code 144 (.getfield 16) 3 147 := ⟨by decide +kernel, rfl⟩
theorem d6_147 : Dc prog_122_method_5_code 147 (.iload 7) 2 149 := ⟨by decide +kernel, rfl⟩
theorem d6_149 : Dc prog_122_method_5_code 149 .iaload 1 150 := ⟨by decide +kernel, rfl⟩
theorem d6_150 : Dc prog_122_method_5_code 150 .iastore 1 151 := ⟨by decide +kernel, rfl⟩
theorem d6_151 : Dc prog_122_method_5_code 151 (.aload_n 0) 1 152 := ⟨by decide +kernel, rfl⟩
theorem d6_152 : Dc prog_122_method_5_code 152 (.getfield 16) 3 155 := ⟨by decide +kernel, rfl⟩
theorem d6_155 : Dc prog_122_method_5_code 155 (.iload 7) 2 157 := ⟨by decide +kernel, rfl⟩
theorem d6_157 : Dc prog_122_method_5_code 157 (.iload 8) 2 159 := ⟨by decide +kernel, rfl⟩
theorem d6_159 : Dc prog_122_method_5_code 159 .iastore 1 160 := ⟨by decide +kernel, rfl⟩
theorem d6_160 : Dc prog_122_method_5_code 160 (.iload 7) 2 162 := ⟨by decide +kernel, rfl⟩
theorem d6_162 : Dc prog_122_method_5_code 162 .ireturn 1 163 := ⟨by decide +kernel, rfl⟩
theorem d7_0 : Dc method_3_code 0 (.aload_n 0) 1 1 := ⟨by decide +kernel, rfl⟩
theorem d7_1 : Dc method_3_code 1 (.iload_n 2) 1 2 := ⟨by decide +kernel, rfl⟩
theorem d7_2 : Dc method_3_code 2 .iaload 1 3 := ⟨by decide +kernel, rfl⟩
theorem d7_3 : Dc method_3_code 3 (.istore 4) 2 5 := ⟨by decide +kernel, rfl⟩
theorem d7_5 : Dc method_3_code 5 (.aload_n 0) 1 6 := ⟨by decide +kernel, rfl⟩
theorem d7_6 : Dc method_3_code 6 (.iload_n 3) 1 7 := ⟨by decide +kernel, rfl⟩
theorem d7_7 : Dc method_3_code 7 .iaload 1 8 := ⟨by decide +kernel, rfl⟩
theorem d7_8 : Dc method_3_code 8 (.istore 5) 2 10 := ⟨by decide +kernel, rfl⟩
theorem d7_10 : Dc method_3_code 10 (.iload 4) 2 12 := ⟨by decide +kernel, rfl⟩
theorem d7_12 : Dc method_3_code 12 (.iload 5) 2 14 := ⟨by decide +kernel, rfl⟩
theorem d7_14 : Jp method_3_code 14 (.if_icmp .ne) 18 17 := ⟨4, by decide +kernel, by decide, by decide, rfl⟩
theorem d7_17 : Dc method_3_code 17 .return_ 1 18 := ⟨by decide +kernel, rfl⟩
theorem d7_18 : Dc method_3_code 18 (.aload_n 1) 1 19 := ⟨by decide +kernel, rfl⟩
theorem d7_19 : Dc method_3_code 19 (.iload 4) 2 21 := ⟨by decide +kernel, rfl⟩
theorem d7_21 : Dc method_3_code 21 .iaload 1 22 := ⟨by decide +kernel, rfl⟩
theorem d7_22 : Dc method_3_code 22 (.aload_n 1) 1 23 := ⟨by decide +kernel, rfl⟩
theorem d7_23 : Dc method_3_code 23 (.iload 5) 2 25 := ⟨by decide +kernel, rfl⟩
theorem d7_25 : Dc method_3_code 25 .iaload 1 26 := ⟨by decide +kernel, rfl⟩
theorem d7_26 : Jp method_3_code 26 (.if_icmp .gt) 47 29 := ⟨21, by decide +kernel, by decide, by decide, rfl⟩
theorem d7_29 : Dc method_3_code 29 (.aload_n 1) 1 30 := ⟨by decide +kernel, rfl⟩
theorem d7_30 : Dc method_3_code 30 (.iload 4) 2 32 := ⟨by decide +kernel, rfl⟩
theorem d7_32 : Dc method_3_code 32 .iaload 1 33 := ⟨by decide +kernel, rfl⟩
theorem d7_33 : Dc method_3_code 33 (.aload_n 1) 1 34 := ⟨by decide +kernel, rfl⟩
theorem d7_34 : Dc method_3_code 34 (.iload 5) 2 36 := ⟨by decide +kernel, rfl⟩
theorem d7_36 : Dc method_3_code 36 .iaload 1 37 := ⟨by decide +kernel, rfl⟩
theorem d7_37 : Jp method_3_code 37 (.if_icmp .ne) 51 40 := ⟨14, by decide +kernel, by decide, by decide, rfl⟩
theorem d7_40 : Dc method_3_code 40 (.iload 4) 2 42 := ⟨by decide +kernel, rfl⟩
theorem d7_42 : Dc method_3_code 42 (.iload 5) 2 44 := ⟨by decide +kernel, rfl⟩
theorem d7_44 : Jp method_3_code 44 (.if_icmp .ge) 51 47 := ⟨7, by decide +kernel, by decide, by decide, rfl⟩
theorem d7_47 : Dc method_3_code 47 (.iconst 1) 1 48 := ⟨by decide +kernel, rfl⟩
theorem d7_48 : Jp method_3_code 48 .goto 52 51 := ⟨4, by decide +kernel, by decide, by decide, rfl⟩
theorem d7_51 : Dc method_3_code 51 (.iconst 0) 1 52 := ⟨by decide +kernel, rfl⟩
theorem d7_52 : Dc method_3_code 52 (.istore 6) 2 54 := ⟨by decide +kernel, rfl⟩
theorem d7_54 : Dc method_3_code 54 (.iload 6) 2 56 := ⟨by decide +kernel, rfl⟩
theorem d7_56 : Jp method_3_code 56 (.ifCond .eq) 64 59 := ⟨8, by decide +kernel, by decide, by decide, rfl⟩
theorem d7_59 : Dc method_3_code 59 (.iload 4) 2 61 := ⟨by decide +kernel, rfl⟩
theorem d7_61 : Jp method_3_code 61 .goto 66 64 := ⟨5, by decide +kernel, by decide, by decide, rfl⟩
theorem d7_64 : Dc method_3_code 64 (.iload 5) 2 66 := ⟨by decide +kernel, rfl⟩
theorem d7_66 : Dc method_3_code 66 (.istore 7) 2 68 := ⟨by decide +kernel, rfl⟩
theorem d7_68 : Dc method_3_code 68 (.iload 6) 2 70 := ⟨by decide +kernel, rfl⟩
theorem d7_70 : Jp method_3_code 70 (.ifCond .eq) 78 73 := ⟨8, by decide +kernel, by decide, by decide, rfl⟩
theorem d7_73 : Dc method_3_code 73 (.iload 5) 2 75 := ⟨by decide +kernel, rfl⟩
theorem d7_75 : Jp method_3_code 75 .goto 80 78 := ⟨5, by decide +kernel, by decide, by decide, rfl⟩
theorem d7_78 : Dc method_3_code 78 (.iload 4) 2 80 := ⟨by decide +kernel, rfl⟩
theorem d7_80 : Dc method_3_code 80 (.istore 8) 2 82 := ⟨by decide +kernel, rfl⟩
theorem d7_82 : Dc method_3_code 82 (.aload_n 0) 1 83 := ⟨by decide +kernel, rfl⟩
theorem d7_83 : Dc method_3_code 83 (.iconst 0) 1 84 := ⟨by decide +kernel, rfl⟩
theorem d7_84 : Dc method_3_code 84 .iaload 1 85 := ⟨by decide +kernel, rfl⟩
theorem d7_85 : Dc method_3_code 85 (.iload 8) 2 87 := ⟨by decide +kernel, rfl⟩
theorem d7_87 : Jp method_3_code 87 (.if_icmp .ne) 95 90 := ⟨8, by decide +kernel, by decide, by decide, rfl⟩
theorem d7_90 : Dc method_3_code 90 (.aload_n 0) 1 91 := ⟨by decide +kernel, rfl⟩
theorem d7_91 : Dc method_3_code 91 (.iconst 0) 1 92 := ⟨by decide +kernel, rfl⟩
theorem d7_92 : Dc method_3_code 92 (.iload 7) 2 94 := ⟨by decide +kernel, rfl⟩
theorem d7_94 : Dc method_3_code 94 .iastore 1 95 := ⟨by decide +kernel, rfl⟩
theorem d7_95 : Dc method_3_code 95 (.aload_n 0) 1 96 := ⟨by decide +kernel, rfl⟩
theorem d7_96 : Dc method_3_code 96 (.iconst 1) 1 97 := ⟨by decide +kernel, rfl⟩
theorem d7_97 : Dc method_3_code 97 .iaload 1 98 := ⟨by decide +kernel, rfl⟩
theorem d7_98 : Dc method_3_code 98 (.iload 8) 2 100 := ⟨by decide +kernel, rfl⟩
theorem d7_100 : Jp method_3_code 100 (.if_icmp .ne) 108 103 := ⟨8, by decide +kernel, by decide, by decide, rfl⟩
theorem d7_103 : Dc method_3_code 103 (.aload_n 0) 1 104 := ⟨by decide +kernel, rfl⟩
theorem d7_104 : Dc method_3_code 104 (.iconst 1) 1 105 := ⟨by decide +kernel, rfl⟩
theorem d7_105 : Dc method_3_code 105 (.iload 7) 2 107 := ⟨by decide +kernel, rfl⟩
theorem d7_107 : Dc method_3_code 107 .iastore 1 108 := ⟨by decide +kernel, rfl⟩
theorem d7_108 : Dc method_3_code 108 (.aload_n 0) 1 109 := ⟨by decide +kernel, rfl⟩
theorem d7_109 : Dc method_3_code 109 (.iconst 2) 1 110 := ⟨by decide +kernel, rfl⟩
theorem d7_110 : Dc method_3_code 110 .iaload 1 111 := ⟨by decide +kernel, rfl⟩
theorem d7_111 : Dc method_3_code 111 (.iload 8) 2 113 := ⟨by decide +kernel, rfl⟩
theorem d7_113 : Jp method_3_code 113 (.if_icmp .ne) 121 116 := ⟨8, by decide +kernel, by decide, by decide, rfl⟩
theorem d7_116 : Dc method_3_code 116 (.aload_n 0) 1 117 := ⟨by decide +kernel, rfl⟩
theorem d7_117 : Dc method_3_code 117 (.iconst 2) 1 118 := ⟨by decide +kernel, rfl⟩
theorem d7_118 : Dc method_3_code 118 (.iload 7) 2 120 := ⟨by decide +kernel, rfl⟩
theorem d7_120 : Dc method_3_code 120 .iastore 1 121 := ⟨by decide +kernel, rfl⟩
theorem d7_121 : Dc method_3_code 121 (.aload_n 0) 1 122 := ⟨by decide +kernel, rfl⟩
theorem d7_122 : Dc method_3_code 122 (.iconst 3) 1 123 := ⟨by decide +kernel, rfl⟩
theorem d7_123 : Dc method_3_code 123 .iaload 1 124 := ⟨by decide +kernel, rfl⟩
theorem d7_124 : Dc method_3_code 124 (.iload 8) 2 126 := ⟨by decide +kernel, rfl⟩
theorem d7_126 : Jp method_3_code 126 (.if_icmp .ne) 134 129 := ⟨8, by decide +kernel, by decide, by decide, rfl⟩
theorem d7_129 : Dc method_3_code 129 (.aload_n 0) 1 130 := ⟨by decide +kernel, rfl⟩
theorem d7_130 : Dc method_3_code 130 (.iconst 3) 1 131 := ⟨by decide +kernel, rfl⟩
theorem d7_131 : Dc method_3_code 131 (.iload 7) 2 133 := ⟨by decide +kernel, rfl⟩
theorem d7_133 : Dc method_3_code 133 .iastore 1 134 := ⟨by decide +kernel, rfl⟩
theorem d7_134 : Dc method_3_code 134 (.aload_n 1) 1 135 := ⟨by decide +kernel, rfl⟩
theorem d7_135 : Dc method_3_code 135 (.iload 7) 2 137 := ⟨by decide +kernel, rfl⟩
theorem d7_137 : Dc method_3_code 137 (.aload_n 1) 1 138 := ⟨by decide +kernel, rfl⟩
theorem d7_138 : Dc method_3_code 138 (.iload 7) 2 140 := ⟨by decide +kernel, rfl⟩
theorem d7_140 : Dc method_3_code 140 .iaload 1 141 := ⟨by decide +kernel, rfl⟩
theorem d7_141 : Dc method_3_code 141 (.aload_n 1) 1 142 := ⟨by decide +kernel, rfl⟩
theorem d7_142 : Dc method_3_code 142 (.iload 8) 2 144 := ⟨by decide +kernel, rfl⟩
theorem d7_144 : Dc method_3_code 144 .iaload 1 145 := ⟨by decide +kernel, rfl⟩
theorem d7_145 : Dc method_3_code 145 .iadd 1 146 := ⟨by decide +kernel, rfl⟩
theorem d7_146 : Dc method_3_code 146 .iastore 1 147 := ⟨by decide +kernel, rfl⟩
theorem d7_147 : Dc method_3_code 147 .return_ 1 148 := ⟨by decide +kernel, rfl⟩
theorem d8_0 : Dc code 0 (.iconst 4) 1 1 := ⟨by decide +kernel, rfl⟩
theorem d8_1 : Dc code 1 (.newarray .int) 2 3 := ⟨by decide +kernel, rfl⟩
theorem d8_3 : Dc code 3 .dup 1 4 := ⟨by decide +kernel, rfl⟩
theorem d8_4 : Dc code 4 (.iconst 0) 1 5 := ⟨by decide +kernel, rfl⟩
theorem d8_5 : Dc code 5 (.iconst 0) 1 6 := ⟨by decide +kernel, rfl⟩
theorem d8_6 : Dc code 6 .iastore 1 7 := ⟨by decide +kernel, rfl⟩
theorem d8_7 : Dc code 7 .dup 1 8 := ⟨by decide +kernel, rfl⟩
theorem d8_8 : Dc code 8 (.iconst 1) 1 9 := ⟨by decide +kernel, rfl⟩
theorem d8_9 : Dc code 9 (.iconst 1) 1 10 := ⟨by decide +kernel, rfl⟩
theorem d8_10 : Dc code 10 .iastore 1 11 := ⟨by decide +kernel, rfl⟩
theorem d8_11 : Dc code 11 .dup 1 12 := ⟨by decide +kernel, rfl⟩
theorem d8_12 : Dc code 12 (.iconst 2) 1 13 := ⟨by decide +kernel, rfl⟩
theorem d8_13 : Dc code 13 (.iconst 2) 1 14 := ⟨by decide +kernel, rfl⟩
theorem d8_14 : Dc code 14 .iastore 1 15 := ⟨by decide +kernel, rfl⟩
theorem d8_15 : Dc code 15 .dup 1 16 := ⟨by decide +kernel, rfl⟩
theorem d8_16 : Dc code 16 (.iconst 3) 1 17 := ⟨by decide +kernel, rfl⟩
theorem d8_17 : Dc code 17 (.iconst 3) 1 18 := ⟨by decide +kernel, rfl⟩
theorem d8_18 : Dc code 18 .iastore 1 19 := ⟨by decide +kernel, rfl⟩
theorem d8_19 : Dc code 19 (.astore 5) 2 21 := ⟨by decide +kernel, rfl⟩
theorem d8_21 : Dc code 21 (.iconst 4) 1 22 := ⟨by decide +kernel, rfl⟩
theorem d8_22 : Dc code 22 (.newarray .int) 2 24 := ⟨by decide +kernel, rfl⟩
theorem d8_24 : Dc code 24 .dup 1 25 := ⟨by decide +kernel, rfl⟩
theorem d8_25 : Dc code 25 (.iconst 0) 1 26 := ⟨by decide +kernel, rfl⟩
theorem d8_26 : Dc code 26 (.iconst 1) 1 27 := ⟨by decide +kernel, rfl⟩
theorem d8_27 : Dc code 27 .iastore 1 28 := ⟨by decide +kernel, rfl⟩
theorem d8_28 : Dc code 28 .dup 1 29 := ⟨by decide +kernel, rfl⟩
theorem d8_29 : Dc code 29 (.iconst 1) 1 30 := ⟨by decide +kernel, rfl⟩
theorem d8_30 : Dc code 30 (.iconst 1) 1 31 := ⟨by decide +kernel, rfl⟩
theorem d8_31 : Dc code 31 .iastore 1 32 := ⟨by decide +kernel, rfl⟩
theorem d8_32 : Dc code 32 .dup 1 33 := ⟨by decide +kernel, rfl⟩
theorem d8_33 : Dc code 33 (.iconst 2) 1 34 := ⟨by decide +kernel, rfl⟩
theorem d8_34 : Dc code 34 (.iconst 1) 1 35 := ⟨by decide +kernel, rfl⟩
theorem d8_35 : Dc code 35 .iastore 1 36 := ⟨by decide +kernel, rfl⟩
theorem d8_36 : Dc code 36 .dup 1 37 := ⟨by decide +kernel, rfl⟩
theorem d8_37 : Dc code 37 (.iconst 3) 1 38 := ⟨by decide +kernel, rfl⟩
theorem d8_38 : Dc code 38 (.iconst 1) 1 39 := ⟨by decide +kernel, rfl⟩
theorem d8_39 : Dc code 39 .iastore 1 40 := ⟨by decide +kernel, rfl⟩
theorem d8_40 : Dc code 40 (.astore 6) 2 42 := ⟨by decide +kernel, rfl⟩
theorem d8_42 : Dc code 42 (.new 7) 3 45 := ⟨by decide +kernel, rfl⟩
theorem d8_45 : Dc code 45 .dup 1 46 := ⟨by decide +kernel, rfl⟩
theorem d8_46 : Dc code 46 (.invokespecial 9) 3 49 := ⟨by decide +kernel, rfl⟩
theorem d8_49 : Dc code 49 (.astore 7) 2 51 := ⟨by decide +kernel, rfl⟩
theorem d8_51 : Dc code 51 (.iload_n 0) 1 52 := ⟨by decide +kernel, rfl⟩
theorem d8_52 : Dc code 52 (.iconst 3) 1 53 := ⟨by decide +kernel, rfl⟩
theorem d8_53 : Dc code 53 .iand 1 54 := ⟨by decide +kernel, rfl⟩
theorem d8_54 : Dc code 54 (.istore 8) 2 56 := ⟨by decide +kernel, rfl⟩
theorem d8_56 : Dc code 56 (.iload_n 0) 1 57 := ⟨by decide +kernel, rfl⟩
theorem d8_57 : Dc code 57 (.iconst 2) 1 58 := ⟨by decide +kernel, rfl⟩
theorem d8_58 : Dc code 58 .iushr 1 59 := ⟨by decide +kernel, rfl⟩
theorem d8_59 : Dc code 59 (.iconst 3) 1 60 := ⟨by decide +kernel, rfl⟩
theorem d8_60 : Dc code 60 .iand 1 61 := ⟨by decide +kernel, rfl⟩
theorem d8_61 : Dc code 61 (.istore 9) 2 63 := ⟨by decide +kernel, rfl⟩
theorem d8_63 : Dc code 63 (.iload_n 1) 1 64 := ⟨by decide +kernel, rfl⟩
theorem d8_64 : Dc code 64 (.iconst 3) 1 65 := ⟨by decide +kernel, rfl⟩
theorem d8_65 : Dc code 65 .iand 1 66 := ⟨by decide +kernel, rfl⟩
theorem d8_66 : Dc code 66 (.istore 10) 2 68 := ⟨by decide +kernel, rfl⟩
theorem d8_68 : Dc code 68 (.iload_n 1) 1 69 := ⟨by decide +kernel, rfl⟩
theorem d8_69 : Dc code 69 (.iconst 2) 1 70 := ⟨by decide +kernel, rfl⟩
theorem d8_70 : Dc code 70 .iushr 1 71 := ⟨by decide +kernel, rfl⟩
theorem d8_71 : Dc code 71 (.iconst 3) 1 72 := ⟨by decide +kernel, rfl⟩
theorem d8_72 : Dc code 72 .iand 1 73 := ⟨by decide +kernel, rfl⟩
theorem d8_73 : Dc code 73 (.istore 11) 2 75 := ⟨by decide +kernel, rfl⟩
theorem d8_75 : Dc code 75 (.iload_n 2) 1 76 := ⟨by decide +kernel, rfl⟩
theorem d8_76 : Dc code 76 (.iconst 3) 1 77 := ⟨by decide +kernel, rfl⟩
theorem d8_77 : Dc code 77 .iand 1 78 := ⟨by decide +kernel, rfl⟩
theorem d8_78 : Dc code 78 (.istore 12) 2 80 := ⟨by decide +kernel, rfl⟩
theorem d8_80 : Dc code 80 (.iload_n 2) 1 81 := ⟨by decide +kernel, rfl⟩
theorem d8_81 : Dc code 81 (.iconst 2) 1 82 := ⟨by decide +kernel, rfl⟩
theorem d8_82 : Dc code 82 .iushr 1 83 := ⟨by decide +kernel, rfl⟩
theorem d8_83 : Dc code 83 (.iconst 3) 1 84 := ⟨by decide +kernel, rfl⟩
theorem d8_84 : Dc code 84 .iand 1 85 := ⟨by decide +kernel, rfl⟩
theorem d8_85 : Dc code 85 (.istore 13) 2 87 := ⟨by decide +kernel, rfl⟩
theorem d8_87 : Dc code 87 (.aload 7) 2 89 := ⟨by decide +kernel, rfl⟩
theorem d8_89 : Dc code 89 (.iload 8) 2 91 := ⟨by decide +kernel, rfl⟩
theorem d8_91 : Dc code 91 (.iload 9) 2 93 := ⟨by decide +kernel, rfl⟩
theorem d8_93 : Dc code 93 (.invokevirtual 10) 3 96 := ⟨by decide +kernel, rfl⟩
theorem d8_96 : Dc code 96 .pop 1 97 := ⟨by decide +kernel, rfl⟩
theorem d8_97 : Dc code 97 (.aload 5) 2 99 := ⟨by decide +kernel, rfl⟩
theorem d8_99 : Dc code 99 (.aload 6) 2 101 := ⟨by decide +kernel, rfl⟩
theorem d8_101 : Dc code 101 (.iload 8) 2 103 := ⟨by decide +kernel, rfl⟩
theorem d8_103 : Dc code 103 (.iload 9) 2 105 := ⟨by decide +kernel, rfl⟩
theorem d8_105 : Dc code 105 (.invokestatic 14) 3 108 := ⟨by decide +kernel, rfl⟩
theorem d8_108 : Dc code 108 (.aload 7) 2 110 := ⟨by decide +kernel, rfl⟩
theorem d8_110 : Dc code 110 (.iload 10) 2 112 := ⟨by decide +kernel, rfl⟩
theorem d8_112 : Dc code 112 (.iload 11) 2 114 := ⟨by decide +kernel, rfl⟩
theorem d8_114 : Dc code 114 (.invokevirtual 10) 3 117 := ⟨by decide +kernel, rfl⟩
theorem d8_117 : Dc code 117 .pop 1 118 := ⟨by decide +kernel, rfl⟩
theorem d8_118 : Dc code 118 (.aload 5) 2 120 := ⟨by decide +kernel, rfl⟩
theorem d8_120 : Dc code 120 (.aload 6) 2 122 := ⟨by decide +kernel, rfl⟩
theorem d8_122 : Dc code 122 (.iload 10) 2 124 := ⟨by decide +kernel, rfl⟩
theorem d8_124 : Dc code 124 (.iload 11) 2 126 := ⟨by decide +kernel, rfl⟩
theorem d8_126 : Dc code 126 (.invokestatic 14) 3 129 := ⟨by decide +kernel, rfl⟩
theorem d8_129 : Dc code 129 (.aload 7) 2 131 := ⟨by decide +kernel, rfl⟩
theorem d8_131 : Dc code 131 (.iload 12) 2 133 := ⟨by decide +kernel, rfl⟩
theorem d8_133 : Dc code 133 (.iload 13) 2 135 := ⟨by decide +kernel, rfl⟩
theorem d8_135 : Dc code 135 (.invokevirtual 10) 3 138 := ⟨by decide +kernel, rfl⟩
theorem d8_138 : Dc code 138 .pop 1 139 := ⟨by decide +kernel, rfl⟩
theorem d8_139 : Dc code 139 (.aload 5) 2 141 := ⟨by decide +kernel, rfl⟩
theorem d8_141 : Dc code 141 (.aload 6) 2 143 := ⟨by decide +kernel, rfl⟩
theorem d8_143 : Dc code 143 (.iload 12) 2 145 := ⟨by decide +kernel, rfl⟩
theorem d8_145 : Dc code 145 (.iload 13) 2 147 := ⟨by decide +kernel, rfl⟩
theorem d8_147 : Dc code 147 (.invokestatic 14) 3 150 := ⟨by decide +kernel, rfl⟩
theorem d8_150 : Dc code 150 (.iload_n 3) 1 151 := ⟨by decide +kernel, rfl⟩
theorem d8_151 : Dc code 151 (.iconst 3) 1 152 := ⟨by decide +kernel, rfl⟩
theorem d8_152 : Dc code 152 .iand 1 153 := ⟨by decide +kernel, rfl⟩
theorem d8_153 : Dc code 153 (.istore 14) 2 155 := ⟨by decide +kernel, rfl⟩
theorem d8_155 : Dc code 155 (.iconst 4) 1 156 := ⟨by decide +kernel, rfl⟩
theorem d8_156 : Dc code 156 (.iload 4) 2 158 := ⟨by decide +kernel, rfl⟩
theorem d8_158 : Dc code 158 (.ldc 20) 2 160 := ⟨by decide +kernel, rfl⟩
theorem d8_160 : Dc code 160 .iand 1 161 := ⟨by decide +kernel, rfl⟩
theorem d8_161 : Dc code 161 (.invokestatic 21) 3 164 := ⟨by decide +kernel, rfl⟩
theorem d8_164 : Dc code 164 (.istore 15) 2 166 := ⟨by decide +kernel, rfl⟩
theorem d8_166 : Dc code 166 (.aload 7) 2 168 := ⟨by decide +kernel, rfl⟩
theorem d8_168 : Dc code 168 (.iload 14) 2 170 := ⟨by decide +kernel, rfl⟩
theorem d8_170 : Dc code 170 (.invokevirtual 26) 3 173 := ⟨by decide +kernel, rfl⟩
theorem d8_173 : Dc code 173 (.aload 5) 2 175 := ⟨by decide +kernel, rfl⟩
theorem d8_175 : Dc code 175 (.iload 14) 2 177 := ⟨by decide +kernel, rfl⟩
theorem d8_177 : Dc code 177 .iaload 1 178 := ⟨by decide +kernel, rfl⟩
theorem d8_178 : Jp code 178 (.if_icmp .ne) 185 181 := ⟨7, by decide +kernel, by decide, by decide, rfl⟩
theorem d8_181 : Dc code 181 (.iconst 1) 1 182 := ⟨by decide +kernel, rfl⟩
theorem d8_182 : Jp code 182 .goto 186 185 := ⟨4, by decide +kernel, by decide, by decide, rfl⟩
theorem d8_186 : Dc code 186 (.istore 16) 2 188 := ⟨by decide +kernel, rfl⟩
theorem d8_188 : Dc code 188 (.iload 16) 2 190 := ⟨by decide +kernel, rfl⟩
theorem d8_190 : Dc code 190 (.aload 7) 2 192 := ⟨by decide +kernel, rfl⟩
theorem d8_192 : Dc code 192 (.iconst 0) 1 193 := ⟨by decide +kernel, rfl⟩
theorem d8_193 : Dc code 193 (.invokevirtual 26) 3 196 := ⟨by decide +kernel, rfl⟩
theorem d8_196 : Dc code 196 (.aload 5) 2 198 := ⟨by decide +kernel, rfl⟩
theorem d8_198 : Dc code 198 (.iconst 0) 1 199 := ⟨by decide +kernel, rfl⟩
theorem d8_199 : Dc code 199 .iaload 1 200 := ⟨by decide +kernel, rfl⟩
theorem d8_200 : Jp code 200 (.if_icmp .ne) 207 203 := ⟨7, by decide +kernel, by decide, by decide, rfl⟩
theorem d8_203 : Dc code 203 (.iconst 1) 1 204 := ⟨by decide +kernel, rfl⟩
theorem d8_204 : Jp code 204 .goto 208 207 := ⟨4, by decide +kernel, by decide, by decide, rfl⟩
theorem d8_208 : Dc code 208 .iand 1 209 := ⟨by decide +kernel, rfl⟩
theorem d8_209 : Dc code 209 (.istore 16) 2 211 := ⟨by decide +kernel, rfl⟩
theorem d8_211 : Dc code 211 (.iload 16) 2 213 := ⟨by decide +kernel, rfl⟩
theorem d8_213 : Dc code 213 (.aload 7) 2 215 := ⟨by decide +kernel, rfl⟩
theorem d8_215 : Dc code 215 (.iconst 1) 1 216 := ⟨by decide +kernel, rfl⟩
theorem d8_216 : Dc code 216 (.invokevirtual 26) 3 219 := ⟨by decide +kernel, rfl⟩
theorem d8_219 : Dc code 219 (.aload 5) 2 221 := ⟨by decide +kernel, rfl⟩
theorem d8_221 : Dc code 221 (.iconst 1) 1 222 := ⟨by decide +kernel, rfl⟩
theorem d8_222 : Dc code 222 .iaload 1 223 := ⟨by decide +kernel, rfl⟩
theorem d8_223 : Jp code 223 (.if_icmp .ne) 230 226 := ⟨7, by decide +kernel, by decide, by decide, rfl⟩
theorem d8_226 : Dc code 226 (.iconst 1) 1 227 := ⟨by decide +kernel, rfl⟩
theorem d8_227 : Jp code 227 .goto 231 230 := ⟨4, by decide +kernel, by decide, by decide, rfl⟩
theorem d8_231 : Dc code 231 .iand 1 232 := ⟨by decide +kernel, rfl⟩
theorem d8_232 : Dc code 232 (.istore 16) 2 234 := ⟨by decide +kernel, rfl⟩
theorem d8_234 : Dc code 234 (.iload 16) 2 236 := ⟨by decide +kernel, rfl⟩
theorem d8_236 : Dc code 236 (.aload 7) 2 238 := ⟨by decide +kernel, rfl⟩
theorem d8_238 : Dc code 238 (.iconst 2) 1 239 := ⟨by decide +kernel, rfl⟩
theorem d8_239 : Dc code 239 (.invokevirtual 26) 3 242 := ⟨by decide +kernel, rfl⟩
theorem d8_242 : Dc code 242 (.aload 5) 2 244 := ⟨by decide +kernel, rfl⟩
theorem d8_244 : Dc code 244 (.iconst 2) 1 245 := ⟨by decide +kernel, rfl⟩
theorem d8_245 : Dc code 245 .iaload 1 246 := ⟨by decide +kernel, rfl⟩
theorem d8_246 : Jp code 246 (.if_icmp .ne) 253 249 := ⟨7, by decide +kernel, by decide, by decide, rfl⟩
theorem d8_249 : Dc code 249 (.iconst 1) 1 250 := ⟨by decide +kernel, rfl⟩
theorem d8_250 : Jp code 250 .goto 254 253 := ⟨4, by decide +kernel, by decide, by decide, rfl⟩
theorem d8_254 : Dc code 254 .iand 1 255 := ⟨by decide +kernel, rfl⟩
theorem d8_255 : Dc code 255 (.istore 16) 2 257 := ⟨by decide +kernel, rfl⟩
theorem d8_257 : Dc code 257 (.iload 16) 2 259 := ⟨by decide +kernel, rfl⟩
theorem d8_259 : Dc code 259 (.aload 7) 2 261 := ⟨by decide +kernel, rfl⟩
theorem d8_261 : Dc code 261 (.iconst 3) 1 262 := ⟨by decide +kernel, rfl⟩
theorem d8_262 : Dc code 262 (.invokevirtual 26) 3 265 := ⟨by decide +kernel, rfl⟩
theorem d8_265 : Dc code 265 (.aload 5) 2 267 := ⟨by decide +kernel, rfl⟩
theorem d8_267 : Dc code 267 (.iconst 3) 1 268 := ⟨by decide +kernel, rfl⟩
theorem d8_268 : Dc code 268 .iaload 1 269 := ⟨by decide +kernel, rfl⟩
theorem d8_269 : Jp code 269 (.if_icmp .ne) 276 272 := ⟨7, by decide +kernel, by decide, by decide, rfl⟩
theorem d8_272 : Dc code 272 (.iconst 1) 1 273 := ⟨by decide +kernel, rfl⟩
theorem d8_273 : Jp code 273 .goto 277 276 := ⟨4, by decide +kernel, by decide, by decide, rfl⟩
theorem d8_277 : Dc code 277 .iand 1 278 := ⟨by decide +kernel, rfl⟩
theorem d8_278 : Dc code 278 (.istore 16) 2 280 := ⟨by decide +kernel, rfl⟩
theorem d8_280 : Dc code 280 (.iload 16) 2 282 := ⟨by decide +kernel, rfl⟩
theorem d8_282 : Dc code 282 (.aload 7) 2 284 := ⟨by decide +kernel, rfl⟩
theorem d8_284 : Dc code 284 (.iload 15) 2 286 := ⟨by decide +kernel, rfl⟩
theorem d8_286 : Dc code 286 (.invokevirtual 26) 3 289 := ⟨by decide +kernel, rfl⟩
theorem d8_289 : Dc code 289 (.iload 15) 2 291 := ⟨by decide +kernel, rfl⟩
theorem d8_291 : Jp code 291 (.if_icmp .ne) 298 294 := ⟨7, by decide +kernel, by decide, by decide, rfl⟩
theorem d8_294 : Dc code 294 (.iconst 1) 1 295 := ⟨by decide +kernel, rfl⟩
theorem d8_295 : Jp code 295 .goto 299 298 := ⟨4, by decide +kernel, by decide, by decide, rfl⟩
theorem d8_299 : Dc code 299 .iand 1 300 := ⟨by decide +kernel, rfl⟩
theorem d8_300 : Dc code 300 (.istore 16) 2 302 := ⟨by decide +kernel, rfl⟩
theorem d8_302 : Dc code 302 (.iload 16) 2 304 := ⟨by decide +kernel, rfl⟩
theorem d8_304 : Dc code 304 .ireturn 1 305 := ⟨by decide +kernel, rfl⟩
theorem pn0 : plainFor (⟨"java/lang/Math", "max", "(II)I"⟩ : MethodName) = true := Jvm.Free.JP.mathPlain rfl (by decide +kernel)
theorem pn1 : plainFor (⟨"java/lang/Math", "min", "(II)I"⟩ : MethodName) = true := Jvm.Free.JP.mathPlain rfl (by decide +kernel)
theorem pn2 : plainFor (⟨"java/util/Arrays", "copyOf", "([II)[I"⟩ : MethodName) = true := plainFor_of_name (by first | (simp [plainName, overriddenIn]; done) | decide +kernel)
theorem pd0 : parseMethodDescriptor "(II)I" = some ⟨[.int, .int], some .int⟩ := by decide +kernel
theorem pn3 : plainFor (⟨"com/example/entailor/entailor/store/EqualTerms", "<init>", "()V"⟩ : MethodName) = true := plainFor_of_name (by first | (simp [plainName, overriddenIn]; done) | decide +kernel)
theorem pn4 : plainFor (⟨"com/example/entailor/entailor/store/EqualTerms", "representative", "(I)I"⟩ : MethodName) = true := plainFor_of_name (by first | (simp [plainName, overriddenIn]; done) | decide +kernel)
theorem pn5 : plainFor (⟨"com/example/entailor/entailor/store/EqualTerms", "ensure", "(I)V"⟩ : MethodName) = true := plainFor_of_name (by first | (simp [plainName, overriddenIn]; done) | decide +kernel)
theorem pd1 : parseMethodDescriptor "([II)[I" = some ⟨[(.array .int), .int], some (.array .int)⟩ := by decide +kernel
theorem pn6 : plainFor (⟨"com/example/entailor/entailor/store/EqualTerms", "merge", "(II)I"⟩ : MethodName) = true := plainFor_of_name (by first | (simp [plainName, overriddenIn]; done) | decide +kernel)
theorem pd2 : parseMethodDescriptor "(I)I" = some ⟨[.int], some .int⟩ := by decide +kernel
theorem pd3 : parseMethodDescriptor "(I)V" = some ⟨[.int], none⟩ := by decide +kernel
theorem pn7 : plainFor (⟨"com/example/entailor/entailor/store/EqualTermsRepresentativePinLaw", "mergeRef", "([I[III)V"⟩ : MethodName) = true := plainFor_of_name (by first | (simp [plainName, overriddenIn]; done) | decide +kernel)
theorem pn8 : plainFor x = true := plainFor_of_name (by first | (simp [plainName, overriddenIn]; done) | decide +kernel)
theorem pd4 : parseMethodDescriptor "()V" = some ⟨[], none⟩ := by decide +kernel
theorem pd5 : parseMethodDescriptor "([I[III)V" = some ⟨[(.array .int), (.array .int), .int, .int], none⟩ := by decide +kernel
set_option maxRecDepth 65536 in
set_option maxHeartbeats 40000000 in
theorem rmmax (Z : State) (a0 : Array Value) (hw : ∀ d ∈ tables_1, d.before a0 Z = true) (u0 : Int32) (u1 : Int32) (h0 : Heap) (n0 : Nat) (Z0 : n0 ≤ h0.size)  (lau : Launch) :
    Con lau Z (⟨"java/lang/Math", "max", "(II)I"⟩ : MethodName) jdk_29_method_65_code 2 (some .int) ({ frames := 0, cells := 0, slots := 0, locals := 0 } : Room) #[(.int u0), (.int u1)] h0 n0 (RI fun z h => (u0.toInt ≤ z.toInt ∧ u1.toInt ≤ z.toInt ∧ (z = u0 ∨ z = u1)) ∧ h0 = h) := by
  refine con_intro pn0 (L := #[.val (.int u0), .val (.int u1)]) (fun m => by first | (simp [entryFrame, mkF, argsToLocals, Value.category, maxLocals]; done) | rfl) Z0 (fun w T K H => ?_)
  refine go_iloadN K H d0_0 rfl ?_
  refine go_iloadN K H d0_1 rfl ?_
  refine go_icmp_lt K H d0_2 (fun c2 => ?_) (fun c2 => ?_)
  · refine go_iloadN K H d0_9 rfl ?_
    exact go_iret K H d0_10 rfl (by decide) (by decide) (⟨by (try simp only [or_true, true_or, and_true, true_and, not_true_eq_false, not_false_eq_true, Int32.lt_iff_toInt_lt, Int32.le_iff_toInt_le, ← Int32.toInt_inj, Int64.lt_iff_toInt_lt, Int64.le_iff_toInt_le, ← Int64.toInt_inj, Int32.reduceToInt, Int64.reduceToInt, ne_eq] at *) <;> omega, rfl⟩)
  · refine go_iloadN K H d0_5 rfl ?_
    refine go_goto K H d0_6 ?_
    exact go_iret K H d0_10 rfl (by decide) (by decide) (⟨by (try simp only [or_true, true_or, and_true, true_and, not_true_eq_false, not_false_eq_true, Int32.lt_iff_toInt_lt, Int32.le_iff_toInt_le, ← Int32.toInt_inj, Int64.lt_iff_toInt_lt, Int64.le_iff_toInt_le, ← Int64.toInt_inj, Int32.reduceToInt, Int64.reduceToInt, ne_eq] at *) <;> omega, rfl⟩)
set_option maxRecDepth 65536 in
set_option maxHeartbeats 40000000 in
theorem rmmin (Z : State) (a0 : Array Value) (hw : ∀ d ∈ tables_1, d.before a0 Z = true) (u0 : Int32) (u1 : Int32) (h0 : Heap) (n0 : Nat) (Z0 : n0 ≤ h0.size)  (lau : Launch) :
    Con lau Z (⟨"java/lang/Math", "min", "(II)I"⟩ : MethodName) jdk_29_method_69_code 2 (some .int) ({ frames := 0, cells := 0, slots := 0, locals := 0 } : Room) #[(.int u0), (.int u1)] h0 n0 (RI fun z h => (u0.toInt ≥ z.toInt ∧ u1.toInt ≥ z.toInt ∧ (z = u0 ∨ z = u1)) ∧ h0 = h) := by
  refine con_intro pn1 (L := #[.val (.int u0), .val (.int u1)]) (fun m => by first | (simp [entryFrame, mkF, argsToLocals, Value.category, maxLocals]; done) | rfl) Z0 (fun w T K H => ?_)
  refine go_iloadN K H d1_0 rfl ?_
  refine go_iloadN K H d1_1 rfl ?_
  refine go_icmp_gt K H d1_2 (fun c2 => ?_) (fun c2 => ?_)
  · refine go_iloadN K H d1_9 rfl ?_
    exact go_iret K H d1_10 rfl (by decide) (by decide) (⟨by (try simp only [or_true, true_or, and_true, true_and, not_true_eq_false, not_false_eq_true, Int32.lt_iff_toInt_lt, Int32.le_iff_toInt_le, ← Int32.toInt_inj, Int64.lt_iff_toInt_lt, Int64.le_iff_toInt_le, ← Int64.toInt_inj, Int32.reduceToInt, Int64.reduceToInt, ne_eq] at *) <;> omega, rfl⟩)
  · refine go_iloadN K H d1_5 rfl ?_
    refine go_goto K H d1_6 ?_
    exact go_iret K H d1_10 rfl (by decide) (by decide) (⟨by (try simp only [or_true, true_or, and_true, true_and, not_true_eq_false, not_false_eq_true, Int32.lt_iff_toInt_lt, Int32.le_iff_toInt_le, ← Int32.toInt_inj, Int64.lt_iff_toInt_lt, Int64.le_iff_toInt_le, ← Int64.toInt_inj, Int32.reduceToInt, Int64.reduceToInt, ne_eq] at *) <;> omega, rfl⟩)
set_option maxRecDepth 65536 in
set_option maxHeartbeats 40000000 in
theorem rmCp (Z : State) (a0 : Array Value) (hw : ∀ d ∈ tables_1, d.before a0 Z = true) (a : Addr) (h0 : Heap) (n0 : Nat) (Z0 : n0 ≤ h0.size) (M : Nat) (xs : List Int32) (A : IA Z h0 a xs) (hx : xs.length < M) (hM6 : M ≤ 6) (lau : Launch) :
    Con lau Z (⟨"java/util/Arrays", "copyOf", "([II)[I"⟩ : MethodName) jdk_65_method_123_code 3 (some (.array .int)) ({ frames := 1, cells := 1, slots := 6, locals := 60 } : Room) #[(.ref a), (.int (oN M))] h0 n0 (RR fun z h => ∃ b, z = .ref b ∧ n0 ≤ b ∧ h0.size ≤ b ∧ IA Z h b (xs ++ List.replicate (M - xs.length) 0) ∧ Ext h0 h) := by
  refine con_intro pn2 (L := #[.val (.ref a), .val (.int (oN M)), .unset]) (fun m => by first | (simp [entryFrame, mkF, argsToLocals, Value.category, maxLocals]; done) | rfl) Z0 (fun w T K H => ?_)
  have lx := A.len; have hM : (oN M).toInt = (M : Int) := oN_toInt (by omega)
  refine go_iloadN K H d2_0 rfl ?_
  refine go_aloadN K H d2_1 rfl rfl ?_
  refine go_arraylength K H d2_2 (A) fun v1 ev1 => ?_
  rw [List.length_map] at ev1
  refine go_icmp_ne K H d2_3 (fun cc => ?_) (fun cc => False.elim (by rw [← cc, hM] at ev1; omega))
  refine go_iloadN K H d2_14 rfl ?_
  refine go_newarray 6 K H d2_15 (hw _ (List.mem_of_getElem? (i := 0) rfl)) (by rw [Int32.lt_iff_toInt_lt, hM]; show ¬ ((M : Int) < 0); omega) (by simp only [Int32.toNatClampNeg, hM]; omega) (by decide) (by decide) (by decide) fun T2 h2 b H2 g2 l2 E2 A2 => ?_
  have nab : a ≠ b := Nat.ne_of_lt (g2 ▸ A.lt)
  have hMn : (oN M).toNatClampNeg = M := by simp only [Int32.toNatClampNeg, hM]; omega
  have B : IA Z h2 b (List.replicate M 0) := by rw [hMn] at A2; show VA Z h2 b .int ((List.replicate M 0).map Value.int); rw [List.map_replicate]; exact A2
  have A2 := A.ext E2
  refine go_astoreN K H2 d2_17 rfl (L' := #[.val (.ref a), .val (.int (oN M)), .val (.ref b)]) rfl ?_
  refine go_aloadN K H2 d2_18 rfl rfl ?_
  refine go_iconst (0) K H2 d2_19 (by decide) ?_
  refine go_aloadN K H2 d2_20 rfl rfl ?_
  refine go_iconst (0) K H2 d2_21 (by decide) ?_
  refine go_aloadN K H2 d2_22 rfl rfl ?_
  refine go_arraylength K H2 d2_23 (A2) fun v3 ev3 => ?_
  rw [List.length_map] at ev3
  refine go_iloadN K H2 d2_24 rfl ?_
  refine go_callS [(.int v3), (.int (oN M))] K H2 d2_25 (hw _ (List.mem_of_getElem? (i := 42) rfl)) (hw _ (List.mem_of_getElem? (i := 43) rfl)) (hw _ (List.mem_of_getElem? (i := 32) rfl)) (hw _ (List.mem_of_getElem? (i := 44) rfl)) (st' := [(.int 0), (.ref b), (.int 0), (.ref a)]) (by decide) (rmmin Z a0 hw _ _ _ n0 (at_size K H2)) pd0 rfl rfl rfl (by decide) (W := 4) rfl (by decide) (by decide) (by decide) fun T4 h4 v4 H4 q4 => ?_
  obtain ⟨z4, rfl, ⟨q1, q2, q3⟩, rfl⟩ := q4
  show Go w _ _ 28 #[.val (.ref a), .val (.int (oN M)), .val (.ref b)] [(.int z4), (.int 0), (.ref b), (.int 0), (.ref a)]
  have hz : z4.toInt = (xs.length : Int) := by rcases q3 with q | q; rw [q]; exact ev3; rw [q] at q1; rw [q]; omega
  refine go_copyI (0) (0) (xs.length) K H4 d2_28 (hw _ (List.mem_of_getElem? (i := 45) rfl)) (hw _ (List.mem_of_getElem? (i := 48) rfl)) (hw _ (List.mem_of_getElem? (i := 46) rfl)) (hw _ (List.mem_of_getElem? (i := 47) rfl)) (A2) (B) (rfl) (rfl) (hz) (by omega) (by first | omega | (simp; omega)) (l2) rfl (by decide) (W := 0) rfl (by decide) fun T5 h5 H5 K5 B5 => ?_
  have hB : IA Z h5 b (xs ++ List.replicate (M - xs.length) 0) := by have q := B5; simp only [List.take_zero, List.nil_append, List.drop_zero, List.take_length, Nat.zero_add, List.drop_replicate] at q; exact q
  refine go_aloadN K H5 d2_31 rfl rfl ?_
  exact go_aret K H5 d2_32 rfl rfl rfl (by decide) (by decide) (⟨b, rfl, l2, Nat.le_of_eq g2.symm, hB, ((E2.keep []).trans K5 (fun x q => by cases List.mem_singleton.mp q; exact Or.inr (Nat.le_of_eq g2.symm))).toExt⟩)
set_option maxRecDepth 65536 in
set_option maxHeartbeats 40000000 in
theorem rmI (Z : State) (a0 : Array Value) (hw : ∀ d ∈ tables_1, d.before a0 Z = true) (a : Addr) (h0 : Heap) (n0 : Nat) (Z0 : n0 ≤ h0.size) (v0 v1 v2 : Value) (F0 : Fld Z h0 a "com/example/entailor/entailor/store/EqualTerms" "parent" "[I" v0) (F1 : Fld Z h0 a "com/example/entailor/entailor/store/EqualTerms" "size" "[I" v1) (F2 : Fld Z h0 a "com/example/entailor/entailor/store/EqualTerms" "ring" "[I" v2) (E0 : Exa Z h0 a "com/example/entailor/entailor/store/EqualTerms") (g0 : n0 ≤ a) (lau : Launch) :
    Con lau Z (⟨"com/example/entailor/entailor/store/EqualTerms", "<init>", "()V"⟩ : MethodName) prog_122_method_1_code 1 none ({ frames := 1, cells := 3, slots := 0, locals := 12 } : Room) #[(.ref a)] h0 n0 (RV fun h => ∃ p s r, n0 ≤ p ∧ n0 ≤ s ∧ n0 ≤ r ∧ h0.size ≤ p ∧ h0.size ≤ s ∧ h0.size ≤ r ∧ ET Z h a p s r [] [] [] ∧ Keep h0 h [a]) := by
  refine con_intro pn3 (L := #[.val (.ref a)]) (fun m => by first | (simp [entryFrame, mkF, argsToLocals, Value.category, maxLocals]; done) | rfl) Z0 (fun w T K H => ?_)
  have EE := E0; have KK : Keep h0 h0 [a] := Keep.refl _ _
  refine go_aloadN K H d3_0 rfl rfl ?_
  refine go_initO K H d3_1 (hw _ (List.mem_of_getElem? (i := 7) rfl)) (hw _ (List.mem_of_getElem? (i := 8) rfl)) (hw _ (List.mem_of_getElem? (i := 9) rfl)) rfl (by decide) (W := 0) rfl (by decide) fun T1 HT1 => ?_
  refine go_aloadN K HT1 d3_4 rfl rfl ?_
  refine go_iconst (0) K HT1 d3_5 (by decide) ?_
  have hhp : h0.size ≤ h0.size := KK.1
  refine go_newarray 0 K HT1 d3_6 (hw _ (List.mem_of_getElem? (i := 0) rfl)) (by decide) (by decide) (by decide) (by decide) (by decide) fun T2 h2 p H2 g2 l2 E2 A2 => ?_
  have nep : a ≠ p := Nat.ne_of_lt (g2 ▸ Nat.lt_of_lt_of_le E0.lt hhp)
  replace F0 := F0.ext E2
  replace F1 := F1.ext E2
  replace F2 := F2.ext E2
  replace EE := EE.ext E2; replace KK := KK.ext E2; have Bp : IA Z h2 p [] := A2; have hsp : h0.size ≤ p := g2 ▸ hhp; have lp := l2
  refine go_putfield K H2 d3_8 (host := "") (Or.inl (hw _ (List.mem_of_getElem? (i := 10) rfl))) Via.refl (F0) (EE) (Or.inl (hw _ (List.mem_of_getElem? (i := 11) rfl))) (hw _ (List.mem_of_getElem? (i := 2) rfl)) (ty := (.array .int)) (by decide) rfl rfl (g0) fun T3 h3 H3 W3 => ?_
  replace F0 := F0.same W3
  replace F1 := F1.other W3 (Or.inr (slot_ne (Z := Z) (a0 := a0) (Or.inl (hw _ (List.mem_of_getElem? (i := 13) rfl))) (Or.inl (hw _ (List.mem_of_getElem? (i := 11) rfl))) (by decide) (t := (.array .int)) (by decide) (t' := (.array .int)) (by decide)))
  replace F2 := F2.other W3 (Or.inr (slot_ne (Z := Z) (a0 := a0) (Or.inl (hw _ (List.mem_of_getElem? (i := 15) rfl))) (Or.inl (hw _ (List.mem_of_getElem? (i := 11) rfl))) (by decide) (t := (.array .int)) (by decide) (t' := (.array .int)) (by decide)))
  replace Bp := Bp.other W3 nep.symm
  replace EE := EE.wr W3; replace KK : Keep h0 h3 [a] := KK.wr W3 (Or.inl (List.mem_singleton.mpr rfl))
  refine go_aloadN K H3 d3_11 rfl rfl ?_
  refine go_iconst (0) K H3 d3_12 (by decide) ?_
  have hhs : h0.size ≤ h3.size := KK.1
  refine go_newarray 0 K H3 d3_13 (hw _ (List.mem_of_getElem? (i := 0) rfl)) (by decide) (by decide) (by decide) (by decide) (by decide) fun T4 h4 s H4 g4 l4 E4 A4 => ?_
  have nes : a ≠ s := Nat.ne_of_lt (g4 ▸ Nat.lt_of_lt_of_le E0.lt hhs)
  have nps : p ≠ s := Nat.ne_of_lt (g4 ▸ Bp.lt); replace Bp := Bp.ext E4
  replace F0 := F0.ext E4
  replace F1 := F1.ext E4
  replace F2 := F2.ext E4
  replace EE := EE.ext E4; replace KK := KK.ext E4; have Bs : IA Z h4 s [] := A4; have hss : h0.size ≤ s := g4 ▸ hhs; have ls := l4
  refine go_putfield K H4 d3_15 (host := "") (Or.inl (hw _ (List.mem_of_getElem? (i := 12) rfl))) Via.refl (F1) (EE) (Or.inl (hw _ (List.mem_of_getElem? (i := 13) rfl))) (hw _ (List.mem_of_getElem? (i := 2) rfl)) (ty := (.array .int)) (by decide) rfl rfl (g0) fun T5 h5 H5 W5 => ?_
  replace F0 := F0.other W5 (Or.inr (slot_ne (Z := Z) (a0 := a0) (Or.inl (hw _ (List.mem_of_getElem? (i := 11) rfl))) (Or.inl (hw _ (List.mem_of_getElem? (i := 13) rfl))) (by decide) (t := (.array .int)) (by decide) (t' := (.array .int)) (by decide)))
  replace F1 := F1.same W5
  replace F2 := F2.other W5 (Or.inr (slot_ne (Z := Z) (a0 := a0) (Or.inl (hw _ (List.mem_of_getElem? (i := 15) rfl))) (Or.inl (hw _ (List.mem_of_getElem? (i := 13) rfl))) (by decide) (t := (.array .int)) (by decide) (t' := (.array .int)) (by decide)))
  replace Bp := Bp.other W5 nep.symm
  replace Bs := Bs.other W5 nes.symm
  replace EE := EE.wr W5; replace KK : Keep h0 h5 [a] := KK.wr W5 (Or.inl (List.mem_singleton.mpr rfl))
  refine go_aloadN K H5 d3_18 rfl rfl ?_
  refine go_iconst (0) K H5 d3_19 (by decide) ?_
  have hhr : h0.size ≤ h5.size := KK.1
  refine go_newarray 0 K H5 d3_20 (hw _ (List.mem_of_getElem? (i := 0) rfl)) (by decide) (by decide) (by decide) (by decide) (by decide) fun T6 h6 r H6 g6 l6 E6 A6 => ?_
  have ner : a ≠ r := Nat.ne_of_lt (g6 ▸ Nat.lt_of_lt_of_le E0.lt hhr)
  have npr : p ≠ r := Nat.ne_of_lt (g6 ▸ Bp.lt); replace Bp := Bp.ext E6
  have nsr : s ≠ r := Nat.ne_of_lt (g6 ▸ Bs.lt); replace Bs := Bs.ext E6
  replace F0 := F0.ext E6
  replace F1 := F1.ext E6
  replace F2 := F2.ext E6
  replace EE := EE.ext E6; replace KK := KK.ext E6; have Br : IA Z h6 r [] := A6; have hsr : h0.size ≤ r := g6 ▸ hhr; have lr := l6
  refine go_putfield K H6 d3_22 (host := "") (Or.inl (hw _ (List.mem_of_getElem? (i := 14) rfl))) Via.refl (F2) (EE) (Or.inl (hw _ (List.mem_of_getElem? (i := 15) rfl))) (hw _ (List.mem_of_getElem? (i := 2) rfl)) (ty := (.array .int)) (by decide) rfl rfl (g0) fun T7 h7 H7 W7 => ?_
  replace F0 := F0.other W7 (Or.inr (slot_ne (Z := Z) (a0 := a0) (Or.inl (hw _ (List.mem_of_getElem? (i := 11) rfl))) (Or.inl (hw _ (List.mem_of_getElem? (i := 15) rfl))) (by decide) (t := (.array .int)) (by decide) (t' := (.array .int)) (by decide)))
  replace F1 := F1.other W7 (Or.inr (slot_ne (Z := Z) (a0 := a0) (Or.inl (hw _ (List.mem_of_getElem? (i := 13) rfl))) (Or.inl (hw _ (List.mem_of_getElem? (i := 15) rfl))) (by decide) (t := (.array .int)) (by decide) (t' := (.array .int)) (by decide)))
  replace F2 := F2.same W7
  replace Bp := Bp.other W7 nep.symm
  replace Bs := Bs.other W7 nes.symm
  replace Br := Br.other W7 ner.symm
  replace EE := EE.wr W7; replace KK : Keep h0 h7 [a] := KK.wr W7 (Or.inl (List.mem_singleton.mpr rfl))
  exact go_ret K H7 d3_25 rfl (by decide) (by decide) (⟨p, s, r, lp, ls, lr, hsp, hss, hsr, ⟨EE, F0, F1, F2, Bp, Bs, Br, nep, nes, ner, nps, npr, nsr⟩, KK⟩)
set_option maxRecDepth 65536 in
set_option maxHeartbeats 40000000 in
theorem rmRep (Z : State) (a0 : Array Value) (hw : ∀ d ∈ tables_1, d.before a0 Z = true) (a : Addr) (h0 : Heap) (n0 : Nat) (Z0 : n0 ≤ h0.size) (p s r : Addr) (ps : List Nat) (ss : List Int32) (rs : List Nat) (O : ET Z h0 a p s r ps ss rs) (gp : n0 ≤ p) (i0 c0 : Nat) (hi31 : i0 < 2 ^ 31) (hc : (i0 < ps.length ∧ ∃ k, Rk ps k i0 c0) ∨ (ps.length ≤ i0 ∧ c0 = i0)) (lau : Launch) :
    Con lau Z (⟨"com/example/entailor/entailor/store/EqualTerms", "representative", "(I)I"⟩ : MethodName) prog_122_method_2_code 3 (some .int) ({ frames := 0, cells := 0, slots := 0, locals := 0 } : Room) #[(.ref a), (.int (oN i0))] h0 n0 (RI fun z h => z = oN c0 ∧ ∃ ps', RP ps ps' ∧ ET Z h a p s r ps' ss rs ∧ Keep h0 h [p]) := by
  refine con_intro pn4 (L := #[.val (.ref a), .val (.int (oN i0)), .unset]) (fun m => by first | (simp [entryFrame, mkF, argsToLocals, Value.category, maxLocals]; done) | rfl) Z0 (fun w T K H => ?_)
  have hi0 : (oN i0).toInt = (i0 : Int) := oN_toInt hi31
  refine go_iloadN K H d4_0 rfl ?_
  refine go_aloadN K H d4_1 rfl rfl ?_
  refine go_getfield K H d4_2 (host := "") (Or.inl (hw _ (List.mem_of_getElem? (i := 10) rfl))) Via.refl (O.2.1) fun T1 HT1 => ?_
  refine go_arraylength K HT1 d4_5 (O.2.2.2.2.1) fun v2 ev2 => ?_
  rw [List.length_map, List.length_map] at ev2
  refine go_icmp_lt K HT1 d4_6 (fun cc => ?_) (fun cc => ?_)
  · have hc' : i0 < ps.length ∧ ∃ k, Rk ps k i0 c0 := by rcases hc with q | q; exact q; exact absurd q.1 (by (try simp only [or_true, true_or, and_true, true_and, not_true_eq_false, not_false_eq_true, Int32.lt_iff_toInt_lt, Int32.le_iff_toInt_le, ← Int32.toInt_inj, Int64.lt_iff_toInt_lt, Int64.le_iff_toInt_le, ← Int64.toInt_inj, Int32.reduceToInt, Int64.reduceToInt, ne_eq] at *) <;> omega)
    obtain ⟨-, k0, R0⟩ := hc'
    refine go_iloadN K HT1 d4_11 rfl ?_
    refine go_istoreN K HT1 d4_12 (L' := #[.val (.ref a), .val (.int (oN i0)), .val (.int (oN i0))]) rfl ?_
    have loop : ∀ (k x : Nat) (qs : List Nat), Rk qs k x c0 → RP ps qs → ∀ T h, At1 w T h 0 0 → ET Z h a p s r qs ss rs → Keep h0 h [p] → Go w (RI fun z h => z = oN c0 ∧ ∃ ps', RP ps ps' ∧ ET Z h a p s r ps' ss rs ∧ Keep h0 h [p]) T 13 #[.val (.ref a), .val (.int (oN i0)), .val (.int (oN x))] [] := by
      intro k
      induction k using Nat.strongRecOn with
      | ind k ih =>
        intro x qs R P T h H O KK
        have xl := Nat.lt_trans R.lt O.len
        cases k with
        | zero =>
          obtain ⟨e, hx⟩ := R
          subst e
          refine go_aloadN K H d4_13 rfl rfl ?_
          refine go_getfield K H d4_14 (host := "") (Or.inl (hw _ (List.mem_of_getElem? (i := 10) rfl))) Via.refl (O.2.1) fun T3 HT3 => ?_
          refine go_iloadN K HT3 d4_17 rfl ?_
          refine go_iaload (x) K HT3 d4_18 (O.2.2.2.2.1) (oN_toInt xl) (at_map2 hx) ?_
          refine go_iloadN K HT3 d4_19 rfl ?_
          refine go_icmp_eq K HT3 d4_20 (fun cc => ?_) (fun cc => False.elim (by exact cc rfl))
          refine go_iloadN K HT3 d4_50 rfl ?_
          exact go_iret K HT3 d4_51 rfl (by decide) (by decide) (⟨rfl, qs, P, O, KK⟩)
        | succ m =>
          obtain ⟨j, h1, h2, h3⟩ := R
          have jl := Nat.lt_trans h3.lt O.len
          obtain ⟨g, hg⟩ : ∃ g, qs[j]? = some g := ⟨_, List.getElem?_eq_getElem h3.lt⟩
          refine go_aloadN K H d4_13 rfl rfl ?_
          refine go_getfield K H d4_14 (host := "") (Or.inl (hw _ (List.mem_of_getElem? (i := 10) rfl))) Via.refl (O.2.1) fun T4 HT4 => ?_
          refine go_iloadN K HT4 d4_17 rfl ?_
          refine go_iaload (x) K HT4 d4_18 (O.2.2.2.2.1) (oN_toInt xl) (at_map2 h1) ?_
          refine go_iloadN K HT4 d4_19 rfl ?_
          refine go_icmp_eq K HT4 d4_20 (fun cc => False.elim (by exact h2 ((oN_inj jl xl).mp cc))) (fun cc => ?_)
          refine go_aloadN K HT4 d4_23 rfl rfl ?_
          refine go_getfield K HT4 d4_24 (host := "") (Or.inl (hw _ (List.mem_of_getElem? (i := 10) rfl))) Via.refl (O.2.1) fun T5 HT5 => ?_
          refine go_iloadN K HT5 d4_27 rfl ?_
          refine go_aloadN K HT5 d4_28 rfl rfl ?_
          refine go_getfield K HT5 d4_29 (host := "") (Or.inl (hw _ (List.mem_of_getElem? (i := 10) rfl))) Via.refl (O.2.1) fun T6 HT6 => ?_
          refine go_aloadN K HT6 d4_32 rfl rfl ?_
          refine go_getfield K HT6 d4_33 (host := "") (Or.inl (hw _ (List.mem_of_getElem? (i := 10) rfl))) Via.refl (O.2.1) fun T7 HT7 => ?_
          refine go_iloadN K HT7 d4_36 rfl ?_
          refine go_iaload (x) K HT7 d4_37 (O.2.2.2.2.1) (oN_toInt xl) (at_map2 h1) ?_
          refine go_iaload (j) K HT7 d4_38 (O.2.2.2.2.1) (oN_toInt jl) (at_map2 hg) ?_
          refine go_iastore (x) K HT7 d4_39 (O.2.2.2.2.1) (oN_toInt xl) (by simpa using lt_of_at h1) (gp) fun T8 h8 H8 W8 => ?_
          have xlt := lt_of_at h1
          obtain ⟨a1, a2, a3, a4, a5, a6, a7, b1, b2, b3, b4, b5, b6⟩ := O
          have O : ET Z h8 a p s r (qs.set x g) ss rs := ⟨a1.wr W8, a2.other W8 (Or.inl b1), a3.other W8 (Or.inl b1), a4.other W8 (Or.inl b1), (by have q := IA.set a5 W8; rw [← List.map_set] at q; exact q), a6.other W8 b4.symm, a7.other W8 b5.symm, b1, b2, b3, b4, b5, b6⟩
          have KK2 : Keep h0 h8 [p] := KK.wr W8 (Or.inl (List.mem_singleton.mpr rfl))
          have PP := P.trans (RP.halve h1 h2 hg h3)
          obtain ⟨mg, hmg, Rg⟩ := Rk.next hg h3
          obtain ⟨k', hk', Rg'⟩ := Rk.halve h1 h2 hg h3 mg g c0 Rg
          refine go_aloadN K H8 d4_40 rfl rfl ?_
          refine go_getfield K H8 d4_41 (host := "") (Or.inl (hw _ (List.mem_of_getElem? (i := 10) rfl))) Via.refl (O.2.1) fun T9 HT9 => ?_
          refine go_iloadN K HT9 d4_44 rfl ?_
          refine go_iaload (x) K HT9 d4_45 (O.2.2.2.2.1) (oN_toInt xl) (at_map2 (by rw [List.getElem?_set_self xlt])) ?_
          refine go_istoreN K HT9 d4_46 (L' := #[.val (.ref a), .val (.int (oN i0)), .val (.int (oN g))]) rfl ?_
          refine go_goto K HT9 d4_47 ?_
          exact ih k' (by omega) g _ Rg' PP _ _ HT9 O KK2
    exact loop k0 i0 ps R0 (RP.refl _) _ _ HT1 O (Keep.refl _ _)
  · have hc' : ps.length ≤ i0 ∧ c0 = i0 := by rcases hc with q | q; exact absurd q.1 (by (try simp only [or_true, true_or, and_true, true_and, not_true_eq_false, not_false_eq_true, Int32.lt_iff_toInt_lt, Int32.le_iff_toInt_le, ← Int32.toInt_inj, Int64.lt_iff_toInt_lt, Int64.le_iff_toInt_le, ← Int64.toInt_inj, Int32.reduceToInt, Int64.reduceToInt, ne_eq] at *) <;> omega); exact q
    refine go_iloadN K HT1 d4_9 rfl ?_
    exact go_iret K HT1 d4_10 rfl (by decide) (by decide) (⟨by rw [hc'.2], ps, RP.refl _, O, Keep.refl _ _⟩)
set_option maxRecDepth 65536 in
set_option maxHeartbeats 40000000 in
theorem rmE (Z : State) (a0 : Array Value) (hw : ∀ d ∈ tables_1, d.before a0 Z = true) (a : Addr) (h0 : Heap) (n0 : Nat) (Z0 : n0 ≤ h0.size) (p s r : Addr) (ps : List Nat) (ss : List Int32) (rs : List Nat) (O : ET Z h0 a p s r ps ss rs) (g0 : n0 ≤ a) (gp : n0 ≤ p) (gs : n0 ≤ s) (gr : n0 ≤ r) (t : Nat) (ht : t ≤ 3) (hl1 : ss.length = ps.length) (hl2 : rs.length = ps.length) (hl6 : ps.length ≤ 6) (lau : Launch) :
    Con lau Z (⟨"com/example/entailor/entailor/store/EqualTerms", "ensure", "(I)V"⟩ : MethodName) prog_122_method_7_code 5 none ({ frames := 2, cells := 3, slots := 18, locals := 110 } : Room) #[(.ref a), (.int (oN t))] h0 n0 (RV fun h => ∃ p' s' r' m, n0 ≤ p' ∧ n0 ≤ s' ∧ n0 ≤ r' ∧ (p' = p ∨ h0.size ≤ p') ∧ (s' = s ∨ h0.size ≤ s') ∧ (r' = r ∨ h0.size ≤ r') ∧ t < ps.length + m ∧ ps.length + m ≤ 6 ∧ ET Z h a p' s' r' (ps ++ (List.range m).map (ps.length + ·)) (ss ++ List.replicate m 1) (rs ++ (List.range m).map (ps.length + ·)) ∧ Keep h0 h [a]) := by
  refine con_intro pn5 (L := #[.val (.ref a), .val (.int (oN t)), .unset, .unset, .unset]) (fun m => by first | (simp [entryFrame, mkF, argsToLocals, Value.category, maxLocals]; done) | rfl) Z0 (fun w T K H => ?_)
  have ht0 : (oN t).toInt = (t : Int) := oN_toInt (by omega)
  refine go_aloadN K H d5_0 rfl rfl ?_
  refine go_getfield K H d5_1 (host := "") (Or.inl (hw _ (List.mem_of_getElem? (i := 10) rfl))) Via.refl (O.2.1) fun T1 HT1 => ?_
  refine go_arraylength K HT1 d5_4 (O.2.2.2.2.1) fun v2 ev2 => ?_
  rw [List.length_map, List.length_map] at ev2
  obtain ⟨N, hN⟩ : ∃ N, N = ps.length := ⟨_, rfl⟩
  rw [← hN] at ev2
  obtain rfl : v2 = oN N := Int32.toInt_inj.mp (ev2.trans (oN_toInt (by omega)).symm)
  show Go w _ _ 5 #[.val (.ref a), .val (.int (oN t)), .unset, .unset, .unset] [(.int (oN N))]
  refine go_istoreN K HT1 d5_5 (L' := #[.val (.ref a), .val (.int (oN t)), .val (.int (oN N)), .unset, .unset]) rfl ?_
  refine go_iloadN K HT1 d5_6 rfl ?_
  refine go_iloadN K HT1 d5_7 rfl ?_
  have hoN : (oN N).toInt = (N : Int) := oN_toInt (by omega)
  refine go_icmp_ge K HT1 d5_8 (fun cc => ?_) (fun cc => ?_)
  · refine go_iloadN K HT1 d5_12 rfl ?_
    refine go_iconst (1) K HT1 d5_13 (by decide) ?_
    refine go_iadd K HT1 d5_14 fun v3 ev3 => ?_
    have fv3 := f_iadd ev3
    have rv3 := rng32 v3
    refine go_iloadN K HT1 d5_15 rfl ?_
    refine go_iconst (2) K HT1 d5_16 (by decide) ?_
    refine go_imul K HT1 d5_17 fun v4 ev4 => ?_
    have fv4 := f_imul ev4
    have rv4 := rng32 v4
    refine go_callS [(.int v3), (.int v4)] K HT1 d5_18 (hw _ (List.mem_of_getElem? (i := 30) rfl)) (hw _ (List.mem_of_getElem? (i := 31) rfl)) (hw _ (List.mem_of_getElem? (i := 32) rfl)) (hw _ (List.mem_of_getElem? (i := 33) rfl)) (st' := []) (by decide) (rmmax Z a0 hw _ _ _ n0 (at_size K HT1)) pd0 rfl rfl rfl (by decide) (W := 0) rfl (by decide) (by decide) (by decide) fun T5 h5 v5 H5 q5 => ?_
    obtain ⟨z5, rfl, ⟨q1, q2, q3⟩, rfl⟩ := q5
    show Go w _ _ 21 #[.val (.ref a), .val (.int (oN t)), .val (.int (oN N)), .unset, .unset] [(.int z5)]
    have hz : (t : Int) + 1 ≤ z5.toInt ∧ z5.toInt ≤ 6 ∧ (N : Int) ≤ z5.toInt := by clear O; rcases q3 with q | q <;> (subst q; (try simp only [or_true, true_or, and_true, true_and, not_true_eq_false, not_false_eq_true, Int32.lt_iff_toInt_lt, Int32.le_iff_toInt_le, ← Int32.toInt_inj, Int64.lt_iff_toInt_lt, Int64.le_iff_toInt_le, ← Int64.toInt_inj, Int32.reduceToInt, Int64.reduceToInt, ne_eq] at *) <;> omega)
    obtain ⟨M, hM6, eM⟩ := oN_of (v := z5) (N := 7) (by omega) (by omega) (by decide)
    rw [eM, oN_toInt (by omega)] at hz
    clear q1 q2 q3
    subst eM
    show Go w _ _ 21 #[.val (.ref a), .val (.int (oN t)), .val (.int (oN N)), .unset, .unset] [(.int (oN M))]
    have htM : t < M := by omega
    have hNM : N < M := by (try simp only [or_true, true_or, and_true, true_and, not_true_eq_false, not_false_eq_true, Int32.lt_iff_toInt_lt, Int32.le_iff_toInt_le, ← Int32.toInt_inj, Int64.lt_iff_toInt_lt, Int64.le_iff_toInt_le, ← Int64.toInt_inj, Int32.reduceToInt, Int64.reduceToInt, ne_eq] at *) <;> omega
    have hoM : (oN M).toInt = (M : Int) := oN_toInt (by omega)
    obtain ⟨a1, a2, a3, a4, a5, a6, a7, b1, b2, b3, b4, b5, b6⟩ := O
    have KK : Keep h0 h0 [a] := Keep.refl _ _
    refine go_istoreN K H5 d5_21 (L' := #[.val (.ref a), .val (.int (oN t)), .val (.int (oN N)), .val (.int (oN M)), .unset]) rfl ?_
    refine go_aloadN K H5 d5_22 rfl rfl ?_
    refine go_aloadN K H5 d5_23 rfl rfl ?_
    refine go_getfield K H5 d5_24 (host := "") (Or.inl (hw _ (List.mem_of_getElem? (i := 10) rfl))) Via.refl (a2) fun T6 HT6 => ?_
    refine go_iloadN K HT6 d5_27 rfl ?_
    have hhP : h0.size ≤ h0.size := KK.1
    refine go_callS [(.ref p), (.int (oN M))] K HT6 d5_28 (hw _ (List.mem_of_getElem? (i := 38) rfl)) (hw _ (List.mem_of_getElem? (i := 39) rfl)) (hw _ (List.mem_of_getElem? (i := 40) rfl)) (hw _ (List.mem_of_getElem? (i := 41) rfl)) (st' := [(.ref a)]) (by decide) (rmCp Z a0 hw _ _ n0 (at_size K HT6) M _ a5 (by first | omega | (simp; omega)) (by omega)) pd1 rfl rfl rfl (by decide) (W := 1) rfl (by decide) (by decide) (by decide) fun T7 h7 v7 H7 q7 => ?_
    obtain ⟨z7, rfl, hz7, P, rfl, lP, sP, BP, XP⟩ := q7
    show Go w _ _ 31 #[.val (.ref a), .val (.int (oN t)), .val (.int (oN N)), .val (.int (oN M)), .unset] [(.ref P), (.ref a)]
    have neP : a ≠ P := Nat.ne_of_lt (Nat.lt_of_lt_of_le a1.lt sP)
    replace a1 := a1.ext XP
    replace a2 := a2.ext XP
    replace a3 := a3.ext XP
    replace a4 := a4.ext XP
    replace a5 := a5.ext XP
    replace a6 := a6.ext XP
    replace a7 := a7.ext XP
    replace KK := KK.ext XP; have tP : h0.size ≤ P := Nat.le_trans hhP sP
    refine go_putfield K H7 d5_31 (host := "") (Or.inl (hw _ (List.mem_of_getElem? (i := 10) rfl))) Via.refl (a2) (a1) (Or.inl (hw _ (List.mem_of_getElem? (i := 11) rfl))) (hw _ (List.mem_of_getElem? (i := 2) rfl)) (ty := (.array .int)) (by decide) rfl rfl (g0) fun T8 h8 H8 W8 => ?_
    replace a2 := a2.same W8
    replace a3 := a3.other W8 (Or.inr (slot_ne (Z := Z) (a0 := a0) (Or.inl (hw _ (List.mem_of_getElem? (i := 13) rfl))) (Or.inl (hw _ (List.mem_of_getElem? (i := 11) rfl))) (by decide) (t := (.array .int)) (by decide) (t' := (.array .int)) (by decide)))
    replace a4 := a4.other W8 (Or.inr (slot_ne (Z := Z) (a0 := a0) (Or.inl (hw _ (List.mem_of_getElem? (i := 15) rfl))) (Or.inl (hw _ (List.mem_of_getElem? (i := 11) rfl))) (by decide) (t := (.array .int)) (by decide) (t' := (.array .int)) (by decide)))
    replace a1 := a1.wr W8; replace a5 := a5.other W8 b1.symm; replace a6 := a6.other W8 b2.symm; replace a7 := a7.other W8 b3.symm
    replace BP := BP.other W8 neP.symm
    replace KK : Keep h0 h8 [a] := KK.wr W8 (Or.inl (List.mem_singleton.mpr rfl))
    refine go_aloadN K H8 d5_34 rfl rfl ?_
    refine go_aloadN K H8 d5_35 rfl rfl ?_
    refine go_getfield K H8 d5_36 (host := "") (Or.inl (hw _ (List.mem_of_getElem? (i := 12) rfl))) Via.refl (a3) fun T9 HT9 => ?_
    refine go_iloadN K HT9 d5_39 rfl ?_
    have hhS : h0.size ≤ h8.size := KK.1
    refine go_callS [(.ref s), (.int (oN M))] K HT9 d5_40 (hw _ (List.mem_of_getElem? (i := 38) rfl)) (hw _ (List.mem_of_getElem? (i := 39) rfl)) (hw _ (List.mem_of_getElem? (i := 40) rfl)) (hw _ (List.mem_of_getElem? (i := 41) rfl)) (st' := [(.ref a)]) (by decide) (rmCp Z a0 hw _ _ n0 (at_size K HT9) M _ a6 (by first | omega | (simp; omega)) (by omega)) pd1 rfl rfl rfl (by decide) (W := 1) rfl (by decide) (by decide) (by decide) fun T10 h10 v10 H10 q10 => ?_
    obtain ⟨z10, rfl, hz10, S, rfl, lS, sS, BS, XS⟩ := q10
    show Go w _ _ 43 #[.val (.ref a), .val (.int (oN t)), .val (.int (oN N)), .val (.int (oN M)), .unset] [(.ref S), (.ref a)]
    have neS : a ≠ S := Nat.ne_of_lt (Nat.lt_of_lt_of_le a1.lt sS)
    have nPS : P ≠ S := Nat.ne_of_lt (Nat.lt_of_lt_of_le BP.lt sS); replace BP := BP.ext XS
    replace a1 := a1.ext XS
    replace a2 := a2.ext XS
    replace a3 := a3.ext XS
    replace a4 := a4.ext XS
    replace a5 := a5.ext XS
    replace a6 := a6.ext XS
    replace a7 := a7.ext XS
    replace KK := KK.ext XS; have tS : h0.size ≤ S := Nat.le_trans hhS sS
    refine go_putfield K H10 d5_43 (host := "") (Or.inl (hw _ (List.mem_of_getElem? (i := 12) rfl))) Via.refl (a3) (a1) (Or.inl (hw _ (List.mem_of_getElem? (i := 13) rfl))) (hw _ (List.mem_of_getElem? (i := 2) rfl)) (ty := (.array .int)) (by decide) rfl rfl (g0) fun T11 h11 H11 W11 => ?_
    replace a2 := a2.other W11 (Or.inr (slot_ne (Z := Z) (a0 := a0) (Or.inl (hw _ (List.mem_of_getElem? (i := 11) rfl))) (Or.inl (hw _ (List.mem_of_getElem? (i := 13) rfl))) (by decide) (t := (.array .int)) (by decide) (t' := (.array .int)) (by decide)))
    replace a3 := a3.same W11
    replace a4 := a4.other W11 (Or.inr (slot_ne (Z := Z) (a0 := a0) (Or.inl (hw _ (List.mem_of_getElem? (i := 15) rfl))) (Or.inl (hw _ (List.mem_of_getElem? (i := 13) rfl))) (by decide) (t := (.array .int)) (by decide) (t' := (.array .int)) (by decide)))
    replace a1 := a1.wr W11; replace a5 := a5.other W11 b1.symm; replace a6 := a6.other W11 b2.symm; replace a7 := a7.other W11 b3.symm
    replace BP := BP.other W11 neP.symm
    replace BS := BS.other W11 neS.symm
    replace KK : Keep h0 h11 [a] := KK.wr W11 (Or.inl (List.mem_singleton.mpr rfl))
    refine go_aloadN K H11 d5_46 rfl rfl ?_
    refine go_aloadN K H11 d5_47 rfl rfl ?_
    refine go_getfield K H11 d5_48 (host := "") (Or.inl (hw _ (List.mem_of_getElem? (i := 14) rfl))) Via.refl (a4) fun T12 HT12 => ?_
    refine go_iloadN K HT12 d5_51 rfl ?_
    have hhR : h0.size ≤ h11.size := KK.1
    refine go_callS [(.ref r), (.int (oN M))] K HT12 d5_52 (hw _ (List.mem_of_getElem? (i := 38) rfl)) (hw _ (List.mem_of_getElem? (i := 39) rfl)) (hw _ (List.mem_of_getElem? (i := 40) rfl)) (hw _ (List.mem_of_getElem? (i := 41) rfl)) (st' := [(.ref a)]) (by decide) (rmCp Z a0 hw _ _ n0 (at_size K HT12) M _ a7 (by first | omega | (simp; omega)) (by omega)) pd1 rfl rfl rfl (by decide) (W := 1) rfl (by decide) (by decide) (by decide) fun T13 h13 v13 H13 q13 => ?_
    obtain ⟨z13, rfl, hz13, R, rfl, lR, sR, BR, XR⟩ := q13
    show Go w _ _ 55 #[.val (.ref a), .val (.int (oN t)), .val (.int (oN N)), .val (.int (oN M)), .unset] [(.ref R), (.ref a)]
    have neR : a ≠ R := Nat.ne_of_lt (Nat.lt_of_lt_of_le a1.lt sR)
    have nPR : P ≠ R := Nat.ne_of_lt (Nat.lt_of_lt_of_le BP.lt sR); replace BP := BP.ext XR
    have nSR : S ≠ R := Nat.ne_of_lt (Nat.lt_of_lt_of_le BS.lt sR); replace BS := BS.ext XR
    replace a1 := a1.ext XR
    replace a2 := a2.ext XR
    replace a3 := a3.ext XR
    replace a4 := a4.ext XR
    replace a5 := a5.ext XR
    replace a6 := a6.ext XR
    replace a7 := a7.ext XR
    replace KK := KK.ext XR; have tR : h0.size ≤ R := Nat.le_trans hhR sR
    refine go_putfield K H13 d5_55 (host := "") (Or.inl (hw _ (List.mem_of_getElem? (i := 14) rfl))) Via.refl (a4) (a1) (Or.inl (hw _ (List.mem_of_getElem? (i := 15) rfl))) (hw _ (List.mem_of_getElem? (i := 2) rfl)) (ty := (.array .int)) (by decide) rfl rfl (g0) fun T14 h14 H14 W14 => ?_
    replace a2 := a2.other W14 (Or.inr (slot_ne (Z := Z) (a0 := a0) (Or.inl (hw _ (List.mem_of_getElem? (i := 11) rfl))) (Or.inl (hw _ (List.mem_of_getElem? (i := 15) rfl))) (by decide) (t := (.array .int)) (by decide) (t' := (.array .int)) (by decide)))
    replace a3 := a3.other W14 (Or.inr (slot_ne (Z := Z) (a0 := a0) (Or.inl (hw _ (List.mem_of_getElem? (i := 13) rfl))) (Or.inl (hw _ (List.mem_of_getElem? (i := 15) rfl))) (by decide) (t := (.array .int)) (by decide) (t' := (.array .int)) (by decide)))
    replace a4 := a4.same W14
    replace a1 := a1.wr W14; replace a5 := a5.other W14 b1.symm; replace a6 := a6.other W14 b2.symm; replace a7 := a7.other W14 b3.symm
    replace BP := BP.other W14 neP.symm
    replace BS := BS.other W14 neS.symm
    replace BR := BR.other W14 neR.symm
    replace KK : Keep h0 h14 [a] := KK.wr W14 (Or.inl (List.mem_singleton.mpr rfl))
    refine go_iloadN K H14 d5_58 rfl ?_
    refine go_istore K H14 d5_59 (L' := #[.val (.ref a), .val (.int (oN t)), .val (.int (oN N)), .val (.int (oN M)), .val (.int (oN N))]) rfl ?_
    rw [List.length_map, ← hN] at BP
    have hsl : ss.length = N := by rw [hN]; exact hl1
    have hrl : rs.length = N := by rw [hN]; exact hl2
    rw [List.length_map, hrl] at BR
    rw [hsl] at BS
    have loop : ∀ (j : Nat), j ≤ M - N → ∀ T h, At1 w T h 3 18 → Exa Z h a "com/example/entailor/entailor/store/EqualTerms" → Fld Z h a "com/example/entailor/entailor/store/EqualTerms" "parent" "[I" (.ref P) → Fld Z h a "com/example/entailor/entailor/store/EqualTerms" "size" "[I" (.ref S) → Fld Z h a "com/example/entailor/entailor/store/EqualTerms" "ring" "[I" (.ref R) → IA Z h P ((ps ++ (List.range (M - N - j)).map (ps.length + ·) ++ List.replicate (M - N - (M - N - j)) 0).map oN) → IA Z h S (ss ++ (List.range (M - N - j)).map (fun _ => (1 : Int32)) ++ List.replicate (M - N - (M - N - j)) 0) → IA Z h R ((rs ++ (List.range (M - N - j)).map (ps.length + ·) ++ List.replicate (M - N - (M - N - j)) 0).map oN) → Keep h0 h [a] → Go w (RV fun h => ∃ p' s' r' m, n0 ≤ p' ∧ n0 ≤ s' ∧ n0 ≤ r' ∧ (p' = p ∨ h0.size ≤ p') ∧ (s' = s ∨ h0.size ≤ s') ∧ (r' = r ∨ h0.size ≤ r') ∧ t < ps.length + m ∧ ps.length + m ≤ 6 ∧ ET Z h a p' s' r' (ps ++ (List.range m).map (ps.length + ·)) (ss ++ List.replicate m 1) (rs ++ (List.range m).map (ps.length + ·)) ∧ Keep h0 h [a]) T 61 #[.val (.ref a), .val (.int (oN t)), .val (.int (oN N)), .val (.int (oN M)), .val (.int (oN (N + (M - N - j))))] [] := by
      intro j
      induction j with
      | zero =>
        intro _ T h H a1 a2 a3 a4 BP BS BR KK
        refine go_iload K H d5_61 rfl ?_
        refine go_iloadN K H d5_63 rfl ?_
        refine go_icmp_ge K H d5_64 (fun cc => ?_) (fun cc => False.elim (by have := oN_toInt (n := N + (M - N - 0)) (by omega); (try simp only [or_true, true_or, and_true, true_and, not_true_eq_false, not_false_eq_true, Int32.lt_iff_toInt_lt, Int32.le_iff_toInt_le, ← Int32.toInt_inj, Int64.lt_iff_toInt_lt, Int64.le_iff_toInt_le, ← Int64.toInt_inj, Int32.reduceToInt, Int64.reduceToInt, ne_eq] at *) <;> omega))
        have e1 : (List.range (M - N - 0)).map (fun _ => (1 : Int32)) = List.replicate (M - N) 1 := by rw [Nat.sub_zero]; apply List.ext_getElem?; intro i; rw [List.getElem?_map, List.getElem?_replicate]; by_cases q : i < M - N; rw [List.getElem?_range q, if_pos q]; rfl; rw [List.getElem?_eq_none (by first | omega | (simp; omega)), if_neg q]; rfl
        rw [e1] at BS
        simp only [Nat.sub_zero, Nat.sub_self, List.replicate_zero, List.append_nil] at BP BS BR
        exact go_ret K H d5_99 rfl (by decide) (by decide) (⟨P, S, R, M - N, lP, lS, lR, Or.inr tP, Or.inr tS, Or.inr tR, by omega, by omega, ⟨a1, a2, a3, a4, BP, BS, BR, neP, neS, neR, nPS, nPR, nSR⟩, KK⟩)
      | succ j ih =>
        intro hj T h H a1 a2 a3 a4 BP BS BR KK
        obtain ⟨i, hi⟩ : ∃ i, i = M - N - (j + 1) := ⟨_, rfl⟩
        rw [← hi] at BP BS BR ⊢
        have hoi := oN_toInt (n := N + i) (by omega)
        refine go_iload K H d5_61 rfl ?_
        refine go_iloadN K H d5_63 rfl ?_
        refine go_icmp_ge K H d5_64 (fun cc => False.elim (by clear ih; (try simp only [or_true, true_or, and_true, true_and, not_true_eq_false, not_false_eq_true, Int32.lt_iff_toInt_lt, Int32.le_iff_toInt_le, ← Int32.toInt_inj, Int64.lt_iff_toInt_lt, Int64.le_iff_toInt_le, ← Int64.toInt_inj, Int32.reduceToInt, Int64.reduceToInt, ne_eq] at *) <;> omega)) (fun cc => ?_)
        refine go_aloadN K H d5_67 rfl rfl ?_
        refine go_getfield K H d5_68 (host := "") (Or.inl (hw _ (List.mem_of_getElem? (i := 10) rfl))) Via.refl (a2) fun T15 HT15 => ?_
        refine go_iload K HT15 d5_71 rfl ?_
        refine go_iload K HT15 d5_73 rfl ?_
        refine go_iastore (N + i) K HT15 d5_75 (BP) (hoi) (by first | omega | (simp; omega)) (lP) fun T16 h16 H16 W16 => ?_
        replace BP : IA Z h16 P ((ps ++ (List.range (i + 1)).map (ps.length + ·) ++ List.replicate (M - N - (i + 1)) 0).map oN) := by have q := IA.set BP W16; rw [← List.map_set, hN, grow_set ps (ps.length + ·) 0 _ i _ (by omega) rfl] at q; rw [hN]; exact q
        replace BS := BS.other W16 nPS.symm; replace BR := BR.other W16 nPR.symm; replace a1 := a1.wr W16; replace a2 := a2.other W16 (Or.inl neP); replace a3 := a3.other W16 (Or.inl neP); replace a4 := a4.other W16 (Or.inl neP); replace KK : Keep h0 h16 [a] := KK.wr W16 (Or.inr tP)
        refine go_aloadN K H16 d5_76 rfl rfl ?_
        refine go_getfield K H16 d5_77 (host := "") (Or.inl (hw _ (List.mem_of_getElem? (i := 12) rfl))) Via.refl (a3) fun T17 HT17 => ?_
        refine go_iload K HT17 d5_80 rfl ?_
        refine go_iconst (1) K HT17 d5_82 (by decide) ?_
        refine go_iastore (N + i) K HT17 d5_83 (BS) (hoi) (by first | omega | (simp; omega)) (lS) fun T18 h18 H18 W18 => ?_
        replace BS : IA Z h18 S (ss ++ (List.range (i + 1)).map (fun _ => (1 : Int32)) ++ List.replicate (M - N - (i + 1)) 0) := by have q := IA.set BS W18; rw [← hsl, grow_set ss (fun _ => (1 : Int32)) 0 1 i _ (by omega) rfl] at q; rw [← hsl]; exact q
        replace BP := BP.other W18 nPS; replace BR := BR.other W18 nSR.symm; replace a1 := a1.wr W18; replace a2 := a2.other W18 (Or.inl neS); replace a3 := a3.other W18 (Or.inl neS); replace a4 := a4.other W18 (Or.inl neS); replace KK : Keep h0 h18 [a] := KK.wr W18 (Or.inr tS)
        refine go_aloadN K H18 d5_84 rfl rfl ?_
        refine go_getfield K H18 d5_85 (host := "") (Or.inl (hw _ (List.mem_of_getElem? (i := 14) rfl))) Via.refl (a4) fun T19 HT19 => ?_
        refine go_iload K HT19 d5_88 rfl ?_
        refine go_iload K HT19 d5_90 rfl ?_
        refine go_iastore (N + i) K HT19 d5_92 (BR) (hoi) (by first | omega | (simp; omega)) (lR) fun T20 h20 H20 W20 => ?_
        replace BR : IA Z h20 R ((rs ++ (List.range (i + 1)).map (ps.length + ·) ++ List.replicate (M - N - (i + 1)) 0).map oN) := by have q := IA.set BR W20; rw [← List.map_set, ← hrl, grow_set rs (ps.length + ·) 0 _ i _ (by omega) (by omega)] at q; rw [← hrl]; exact q
        replace BP := BP.other W20 nPR; replace BS := BS.other W20 nSR; replace a1 := a1.wr W20; replace a2 := a2.other W20 (Or.inl neR); replace a3 := a3.other W20 (Or.inl neR); replace a4 := a4.other W20 (Or.inl neR); replace KK : Keep h0 h20 [a] := KK.wr W20 (Or.inr tR)
        have hnx : oN (N + i) + Int32.ofInt 1 = oN (N + (M - N - j)) := by apply Int32.toInt_inj.mp; have q1 := oN_toInt (n := N + (M - N - j)) (by omega); have q2 := c_iadd (oN (N + i)) (Int32.ofInt 1); have q3 := rng32 (oN (N + i) + Int32.ofInt 1); have q4 : (Int32.ofInt 1).toInt = 1 := rfl; omega
        refine go_iinc K H20 d5_93 rfl hnx.symm (L' := #[.val (.ref a), .val (.int (oN t)), .val (.int (oN N)), .val (.int (oN M)), .val (.int (oN (N + (M - N - j))))]) rfl ?_
        refine go_goto K H20 d5_96 ?_
        have ej : i + 1 = M - N - j := by omega
        rw [ej] at BP BS BR
        exact ih (by omega) _ _ H20 a1 a2 a3 a4 BP BS BR KK
    have l0 : M - N - (M - N) = 0 := Nat.sub_self _
    have G := loop (M - N) (Nat.le_refl _) _ _ H14 a1 a2 a3 a4 (by simpa [l0, show oN 0 = 0 from by decide] using BP) (by simpa [l0] using BS) (by simpa [l0, show oN 0 = 0 from by decide] using BR) KK
    rw [l0, Nat.add_zero] at G; exact G
  · exact go_ret K HT1 d5_11 rfl (by decide) (by decide) (⟨p, s, r, 0, gp, gs, gr, Or.inl rfl, Or.inl rfl, Or.inl rfl, by simp only [Nat.add_zero]; rw [← hN]; (try simp only [or_true, true_or, and_true, true_and, not_true_eq_false, not_false_eq_true, Int32.lt_iff_toInt_lt, Int32.le_iff_toInt_le, ← Int32.toInt_inj, Int64.lt_iff_toInt_lt, Int64.le_iff_toInt_le, ← Int64.toInt_inj, Int32.reduceToInt, Int64.reduceToInt, ne_eq] at *) <;> omega, by omega, by simpa using O, Keep.refl _ _⟩)
set_option maxRecDepth 65536 in
set_option maxHeartbeats 40000000 in
theorem rmM (Z : State) (a0 : Array Value) (hw : ∀ d ∈ tables_1, d.before a0 Z = true) (a : Addr) (h0 : Heap) (n0 : Nat) (Z0 : n0 ≤ h0.size) (p s r : Addr) (ps : List Nat) (ss : List Int32) (rs : List Nat) (O : ET Z h0 a p s r ps ss rs) (g0 : n0 ≤ a) (gp : n0 ≤ p) (gs : n0 ≤ s) (gr : n0 ≤ r) (rep : List Nat) (cnt : List Int32) (i j f g : Nat) (vf vg : Int32) (hi : rep[i]? = some f) (hj : rep[j]? = some g) (cf : cnt[f]? = some vf) (cg : cnt[g]? = some vg) (I : EI ps ss rs rep cnt) (lau : Launch) :
    Con lau Z (⟨"com/example/entailor/entailor/store/EqualTerms", "merge", "(II)I"⟩ : MethodName) prog_122_method_5_code 9 (some .int) ({ frames := 3, cells := 3, slots := 18, locals := 150 } : Room) #[(.ref a), (.int (oN i)), (.int (oN j))] h0 n0 (RI fun z h => ∃ p' s' r' ps' ss' rs', n0 ≤ p' ∧ n0 ≤ s' ∧ n0 ≤ r' ∧ (p' = p ∨ h0.size ≤ p') ∧ (s' = s ∨ h0.size ≤ s') ∧ (r' = r ∨ h0.size ≤ r') ∧ ET Z h a p' s' r' ps' ss' rs' ∧ EI ps' ss' rs' (mgR rep f g vf vg) (mgC cnt f g vf vg) ∧ Keep h0 h [a, p, s, r]) := by
  refine con_intro pn6 (L := #[.val (.ref a), .val (.int (oN i)), .val (.int (oN j)), .unset, .unset, .unset, .unset, .unset, .unset]) (fun m => by first | (simp [entryFrame, mkF, argsToLocals, Value.category, maxLocals]; done) | rfl) Z0 (fun w T K H => ?_)
  have i4 := lt_of_at hi; have j4 := lt_of_at hj; have hr4 : rep.length = 4 := I.2.2.2.1; have f4 := (I.2.2.2.2.2.2.1 i f hi).1; have g4 := (I.2.2.2.2.2.2.1 j g hj).1
  refine go_aloadN K H d6_0 rfl rfl ?_
  refine go_iloadN K H d6_1 rfl ?_
  refine go_callV [(.int (oN i))] K H d6_2 (O.1) (hw _ (List.mem_of_getElem? (i := 21) rfl)) (hw _ (List.mem_of_getElem? (i := 22) rfl)) (nf_sel (hw _ (List.mem_of_getElem? (i := 24) rfl))) (hw _ (List.mem_of_getElem? (i := 24) rfl)) (hw _ (List.mem_of_getElem? (i := 23) rfl)) (hw _ (List.mem_of_getElem? (i := 3) rfl)) (hw _ (List.mem_of_getElem? (i := 25) rfl)) (st' := []) (by decide) (rmRep Z a0 hw _ _ n0 (at_size K H) _ _ _ _ _ _ O gp i f (by omega) (I.case hi)) pd2 rfl rfl rfl (by decide) (W := 0) rfl (by decide) (by decide) (by decide) fun T1 h1 v1 H1 q1 => ?_
  obtain ⟨z1, rfl, e1, ps1, P1, O1, K1⟩ := q1
  show Go w _ _ 5 #[.val (.ref a), .val (.int (oN i)), .val (.int (oN j)), .unset, .unset, .unset, .unset, .unset, .unset] [(.int z1)]
  subst e1
  show Go w _ _ 5 #[.val (.ref a), .val (.int (oN i)), .val (.int (oN j)), .unset, .unset, .unset, .unset, .unset, .unset] [(.int (oN f))]
  have I1 := I.rp P1
  refine go_istoreN K H1 d6_5 (L' := #[.val (.ref a), .val (.int (oN i)), .val (.int (oN j)), .val (.int (oN f)), .unset, .unset, .unset, .unset, .unset]) rfl ?_
  refine go_aloadN K H1 d6_6 rfl rfl ?_
  refine go_iloadN K H1 d6_7 rfl ?_
  refine go_callV [(.int (oN j))] K H1 d6_8 (O1.1) (hw _ (List.mem_of_getElem? (i := 21) rfl)) (hw _ (List.mem_of_getElem? (i := 22) rfl)) (nf_sel (hw _ (List.mem_of_getElem? (i := 24) rfl))) (hw _ (List.mem_of_getElem? (i := 24) rfl)) (hw _ (List.mem_of_getElem? (i := 23) rfl)) (hw _ (List.mem_of_getElem? (i := 3) rfl)) (hw _ (List.mem_of_getElem? (i := 25) rfl)) (st' := []) (by decide) (rmRep Z a0 hw _ _ n0 (at_size K H1) _ _ _ _ _ _ O1 gp j g (by omega) (I1.case hj)) pd2 rfl rfl rfl (by decide) (W := 0) rfl (by decide) (by decide) (by decide) fun T2 h2 v2 H2 q2 => ?_
  obtain ⟨z2, rfl, e2, ps2, P2, O2, K2⟩ := q2
  show Go w _ _ 11 #[.val (.ref a), .val (.int (oN i)), .val (.int (oN j)), .val (.int (oN f)), .unset, .unset, .unset, .unset, .unset] [(.int z2)]
  subst e2
  show Go w _ _ 11 #[.val (.ref a), .val (.int (oN i)), .val (.int (oN j)), .val (.int (oN f)), .unset, .unset, .unset, .unset, .unset] [(.int (oN g))]
  have I2 := I1.rp P2
  refine go_istore K H2 d6_11 (L' := #[.val (.ref a), .val (.int (oN i)), .val (.int (oN j)), .val (.int (oN f)), .val (.int (oN g)), .unset, .unset, .unset, .unset]) rfl ?_
  refine go_iloadN K H2 d6_13 rfl ?_
  refine go_iload K H2 d6_14 rfl ?_
  have KK : Keep h0 h2 [a, p, s, r] := ((Keep.refl h0 _).trans K1 (fun x q => Or.inl (by cases List.mem_singleton.mp q; simp))).trans K2 (fun x q => Or.inl (by cases List.mem_singleton.mp q; simp))
  refine go_icmp_ne K H2 d6_16 (fun cc => ?_) (fun cc => ?_)
  · have hne : f ≠ g := fun q => cc (by rw [q])
    refine go_aloadN K H2 d6_21 rfl rfl ?_
    refine go_iloadN K H2 d6_22 rfl ?_
    refine go_iload K H2 d6_23 rfl ?_
    refine go_callS [(.int (oN f)), (.int (oN g))] K H2 d6_25 (hw _ (List.mem_of_getElem? (i := 30) rfl)) (hw _ (List.mem_of_getElem? (i := 31) rfl)) (hw _ (List.mem_of_getElem? (i := 32) rfl)) (hw _ (List.mem_of_getElem? (i := 33) rfl)) (st' := [(.ref a)]) (by decide) (rmmax Z a0 hw _ _ _ n0 (at_size K H2)) pd0 rfl rfl rfl (by decide) (W := 1) rfl (by decide) (by decide) (by decide) fun T3 h3 v3 H3 q3 => ?_
    obtain ⟨z3, rfl, ⟨q1, q2, q3⟩, rfl⟩ := q3
    show Go w _ _ 28 #[.val (.ref a), .val (.int (oN i)), .val (.int (oN j)), .val (.int (oN f)), .val (.int (oN g)), .unset, .unset, .unset, .unset] [(.int z3), (.ref a)]
    obtain ⟨t, ht, et, tf, tg⟩ : ∃ t, t ≤ 3 ∧ z3 = oN t ∧ f ≤ t ∧ g ≤ t := by
      rw [oN_toInt (by omega)] at q1 q2
      rcases q3 with q | q
      · exact ⟨f, by omega, q, Nat.le_refl _, by rw [q, oN_toInt (by omega)] at q2; omega⟩
      · exact ⟨g, by omega, q, by rw [q, oN_toInt (by omega)] at q1; omega, Nat.le_refl _⟩
    clear q1 q2 q3
    subst et
    show Go w _ _ 28 #[.val (.ref a), .val (.int (oN i)), .val (.int (oN j)), .val (.int (oN f)), .val (.int (oN g)), .unset, .unset, .unset, .unset] [(.int (oN t)), (.ref a)]
    refine go_callP [(.int (oN t))] K H3 d6_28 (O2.1) (hw _ (List.mem_of_getElem? (i := 34) rfl)) (hw _ (List.mem_of_getElem? (i := 35) rfl)) (sel_priv (hw _ (List.mem_of_getElem? (i := 2) rfl)) (hw _ (List.mem_of_getElem? (i := 36) rfl)) (hw _ (List.mem_of_getElem? (i := 35) rfl)) (by decide)) (hw _ (List.mem_of_getElem? (i := 36) rfl)) (hw _ (List.mem_of_getElem? (i := 3) rfl)) (hw _ (List.mem_of_getElem? (i := 37) rfl)) (st' := []) (by decide) (rmE Z a0 hw _ _ n0 (at_size K H3) _ _ _ _ _ _ O2 g0 gp gs gr t ht I2.1 I2.2.1 I2.2.2.1) pd3 rfl rfl rfl (by decide) (W := 0) rfl (by decide) (by decide) (by decide) fun T4 h4 v4 H4 q4 => ?_
    obtain ⟨rfl, p', s', r', m, gp', gs', gr', sp, ss', sr, tm, hm, O3, K3⟩ := q4
    show Go w _ _ 31 #[.val (.ref a), .val (.int (oN i)), .val (.int (oN j)), .val (.int (oN f)), .val (.int (oN g)), .unset, .unset, .unset, .unset] []
    have I3 := I2.grow (m := m) hm
    replace sp : p' = p ∨ h0.size ≤ p' := sp.imp id (Nat.le_trans KK.1); replace ss' : s' = s ∨ h0.size ≤ s' := ss'.imp id (Nat.le_trans KK.1); replace sr : r' = r ∨ h0.size ≤ r' := sr.imp id (Nat.le_trans KK.1)
    replace KK := KK.trans K3 (fun x q => Or.inl (by cases List.mem_singleton.mp q; simp))
    have hl3 : (ps2 ++ (List.range m).map (ps2.length + ·)).length = ps2.length + m := by simp
    obtain ⟨Ps, hPs⟩ : ∃ q, q = ps2 ++ (List.range m).map (ps2.length + ·) := ⟨_, rfl⟩; obtain ⟨Ss, hSs⟩ : ∃ q, q = ss ++ List.replicate m 1 := ⟨_, rfl⟩; obtain ⟨Rs, hRs⟩ : ∃ q, q = rs ++ (List.range m).map (ps2.length + ·) := ⟨_, rfl⟩
    rw [← hPs, ← hSs, ← hRs] at O3 I3; rw [← hPs] at hl3; clear hPs hSs hRs O O1 O2 P1 P2 I1 I2 K1 K2 K3
    have fl : f < Ps.length := by omega
    have gl : g < Ps.length := by omega
    have sl : Ss.length = Ps.length := I3.1; have rl : Rs.length = Ps.length := I3.2.1
    have hsf : Ss[f]? = some vf := by have q := List.getElem?_eq_getElem (l := Ss) (i := f) (by omega); rw [q]; exact ((I3.2.2.2.2.2.2.2.2 f f4 (I.self hi)).1 _ q).symm.trans cf
    have hsg : Ss[g]? = some vg := by have q := List.getElem?_eq_getElem (l := Ss) (i := g) (by omega); rw [q]; exact ((I3.2.2.2.2.2.2.2.2 g g4 (I.self hj)).1 _ q).symm.trans cg
    have of := oN_toInt (n := f) (by omega); have og := oN_toInt (n := g) (by omega)
    have O := O3; clear O3
    have J102 : ∀ (kp gn : Nat) (vk vn : Int32) (z5 : Int32), kp < 4 → gn < 4 → kp ≠ gn → kp < Ps.length → gn < Ps.length → Ss[kp]? = some vk → Ss[gn]? = some vn → (∃ b : Nat, rep[b]? = some kp) → (∃ b : Nat, rep[b]? = some gn) → mgR rep f g vf vg = rep.map (rlb gn kp) → mgC cnt f g vf vg = cnt.set kp (vk + vn) → ∀ T, At1 w T h4 3 18 → Go w (RI fun z h => ∃ p' s' r' ps' ss' rs', n0 ≤ p' ∧ n0 ≤ s' ∧ n0 ≤ r' ∧ (p' = p ∨ h0.size ≤ p') ∧ (s' = s ∨ h0.size ≤ s') ∧ (r' = r ∨ h0.size ≤ r') ∧ ET Z h a p' s' r' ps' ss' rs' ∧ EI ps' ss' rs' (mgR rep f g vf vg) (mgC cnt f g vf vg) ∧ Keep h0 h [a, p, s, r]) T 102 #[.val (.ref a), .val (.int (oN i)), .val (.int (oN j)), .val (.int (oN f)), .val (.int (oN g)), .val (.int z5), .val (.int (oN kp)), .val (.int (oN gn)), .unset] [] := by
      intro kp gn vk vn z5 k4 n4 hkn kl nl ek en hb1 hb2 hR hC T H
      obtain ⟨b1, hb1⟩ := hb1; obtain ⟨b2, hb2⟩ := hb2
      have ok := oN_toInt (n := kp) (by omega); have on := oN_toInt (n := gn) (by omega)
      obtain ⟨a1, a2, a3, a4, a5, a6, a7, c1, c2, c3, c4, c5, c6⟩ := O
      refine go_aloadN K H d6_102 rfl rfl ?_
      refine go_getfield K H d6_103 (host := "") (Or.inl (hw _ (List.mem_of_getElem? (i := 10) rfl))) Via.refl (a2) fun T5 HT5 => ?_
      refine go_iload K HT5 d6_106 rfl ?_
      refine go_iload K HT5 d6_108 rfl ?_
      refine go_iastore (gn) K HT5 d6_110 (a5) (on) (by simpa using nl) (gp') fun T6 h6 H6 W6 => ?_
      replace a1 := a1.wr W6; replace a2 := a2.other W6 (Or.inl c1); replace a3 := a3.other W6 (Or.inl c1); replace a4 := a4.other W6 (Or.inl c1)
      replace a5 : IA Z h6 p' ((Ps.set gn kp).map oN) := by have q := IA.set a5 W6; rw [← List.map_set] at q; exact q
      replace a6 := a6.other W6 c4.symm; replace a7 := a7.other W6 c5.symm; replace KK : Keep h0 h6 [a, p, s, r] := KK.wr W6 (sp.imp (fun q => by rw [q]; simp) id)
      refine go_aloadN K H6 d6_111 rfl rfl ?_
      refine go_getfield K H6 d6_112 (host := "") (Or.inl (hw _ (List.mem_of_getElem? (i := 12) rfl))) Via.refl (a3) fun T7 HT7 => ?_
      refine go_iload K HT7 d6_115 rfl ?_
      refine go_dup2 K HT7 d6_117 rfl rfl ?_
      refine go_iaload (kp) K HT7 d6_118 (a6) (ok) (at_map1 ek) ?_
      refine go_aloadN K HT7 d6_119 rfl rfl ?_
      refine go_getfield K HT7 d6_120 (host := "") (Or.inl (hw _ (List.mem_of_getElem? (i := 12) rfl))) Via.refl (a3) fun T8 HT8 => ?_
      refine go_iload K HT8 d6_123 rfl ?_
      refine go_iaload (gn) K HT8 d6_125 (a6) (on) (at_map1 en) ?_
      refine go_iadd K HT8 d6_126 fun v9 ev9 => ?_
      refine go_iastore (kp) K HT8 d6_127 (a6) (ok) (by first | omega | (simp; omega)) (gs') fun T10 h10 H10 W10 => ?_
      replace a1 := a1.wr W10; replace a2 := a2.other W10 (Or.inl c2); replace a3 := a3.other W10 (Or.inl c2); replace a4 := a4.other W10 (Or.inl c2)
      replace a6 : IA Z h10 s' (Ss.set kp (vk + vn)) := by have q := IA.set a6 W10; rw [ev9] at q; exact q
      replace a5 := a5.other W10 c4; replace a7 := a7.other W10 c6.symm; replace KK : Keep h0 h10 [a, p, s, r] := KK.wr W10 (ss'.imp (fun q => by rw [q]; simp) id)
      refine go_aloadN K H10 d6_128 rfl rfl ?_
      obtain ⟨y1, hy1⟩ : ∃ y, Rs[kp]? = some y := ⟨_, List.getElem?_eq_getElem (by omega)⟩; obtain ⟨y2, hy2⟩ : ∃ y, Rs[gn]? = some y := ⟨_, List.getElem?_eq_getElem (by omega)⟩
      have by1 := I3.2.2.2.2.2.1 y1 (List.mem_of_getElem? hy1); have by2 := I3.2.2.2.2.2.1 y2 (List.mem_of_getElem? hy2)
      refine go_getfield K H10 d6_129 (host := "") (Or.inl (hw _ (List.mem_of_getElem? (i := 14) rfl))) Via.refl (a4) fun T11 HT11 => ?_
      refine go_iload K HT11 d6_132 rfl ?_
      refine go_iaload (kp) K HT11 d6_134 (a7) (ok) (at_map2 hy1) ?_
      refine go_istore K HT11 d6_135 (L' := #[.val (.ref a), .val (.int (oN i)), .val (.int (oN j)), .val (.int (oN f)), .val (.int (oN g)), .val (.int z5), .val (.int (oN kp)), .val (.int (oN gn)), .val (.int (oN y1))]) rfl ?_
      refine go_aloadN K HT11 d6_137 rfl rfl ?_
      refine go_getfield K HT11 d6_138 (host := "") (Or.inl (hw _ (List.mem_of_getElem? (i := 14) rfl))) Via.refl (a4) fun T12 HT12 => ?_
      refine go_iload K HT12 d6_141 rfl ?_
      refine go_aloadN K HT12 d6_143 rfl rfl ?_
      refine go_getfield K HT12 d6_144 (host := "") (Or.inl (hw _ (List.mem_of_getElem? (i := 14) rfl))) Via.refl (a4) fun T13 HT13 => ?_
      refine go_iload K HT13 d6_147 rfl ?_
      refine go_iaload (gn) K HT13 d6_149 (a7) (on) (at_map2 hy2) ?_
      refine go_iastore (kp) K HT13 d6_150 (a7) (ok) (by first | omega | (simp; omega)) (gr') fun T14 h14 H14 W14 => ?_
      replace a1 := a1.wr W14; replace a2 := a2.other W14 (Or.inl c3); replace a3 := a3.other W14 (Or.inl c3); replace a4 := a4.other W14 (Or.inl c3)
      replace a7 : IA Z h14 r' ((Rs.set kp y2).map oN) := by have q := IA.set a7 W14; rw [← List.map_set] at q; exact q
      replace a5 := a5.other W14 c5; replace a6 := a6.other W14 c6; replace KK : Keep h0 h14 [a, p, s, r] := KK.wr W14 (sr.imp (fun q => by rw [q]; simp) id)
      refine go_aloadN K H14 d6_151 rfl rfl ?_
      refine go_getfield K H14 d6_152 (host := "") (Or.inl (hw _ (List.mem_of_getElem? (i := 14) rfl))) Via.refl (a4) fun T15 HT15 => ?_
      refine go_iload K HT15 d6_155 rfl ?_
      refine go_iload K HT15 d6_157 rfl ?_
      refine go_iastore (gn) K HT15 d6_159 (a7) (on) (by first | omega | (simp; omega)) (gr') fun T16 h16 H16 W16 => ?_
      replace a1 := a1.wr W16; replace a2 := a2.other W16 (Or.inl c3); replace a3 := a3.other W16 (Or.inl c3); replace a4 := a4.other W16 (Or.inl c3)
      replace a7 : IA Z h16 r' (((Rs.set kp y2).set gn y1).map oN) := by have q := IA.set a7 W16; rw [← List.map_set] at q; exact q
      replace a5 := a5.other W16 c5; replace a6 := a6.other W16 c6; replace KK : Keep h0 h16 [a, p, s, r] := KK.wr W16 (sr.imp (fun q => by rw [q]; simp) id)
      refine go_iload K H16 d6_160 rfl ?_
      have I4 := I3.join (rs' := (Rs.set kp y2).set gn y1) hb1 hb2 hkn kl nl ek en (by simp) (fun x hx => by rcases List.mem_or_eq_of_mem_set hx with q | q; rcases List.mem_or_eq_of_mem_set q with q | q; exact I3.2.2.2.2.2.1 x q; rw [q]; exact by2; rw [q]; exact by1)
      rw [← hR, ← hC] at I4
      exact go_iret K H16 d6_162 rfl (by decide) (by decide) (⟨p', s', r', _, _, _, gp', gs', gr', sp, ss', sr, ⟨a1, a2, a3, a4, a5, a6, a7, c1, c2, c3, c4, c5, c6⟩, I4, KK⟩)
    refine go_aloadN K H4 d6_31 rfl rfl ?_
    refine go_getfield K H4 d6_32 (host := "") (Or.inl (hw _ (List.mem_of_getElem? (i := 12) rfl))) Via.refl (O.2.2.1) fun T17 HT17 => ?_
    refine go_iloadN K HT17 d6_35 rfl ?_
    refine go_iaload (f) K HT17 d6_36 (O.2.2.2.2.2.1) (of) (at_map1 hsf) ?_
    refine go_aloadN K HT17 d6_37 rfl rfl ?_
    refine go_getfield K HT17 d6_38 (host := "") (Or.inl (hw _ (List.mem_of_getElem? (i := 12) rfl))) Via.refl (O.2.2.1) fun T18 HT18 => ?_
    refine go_iload K HT18 d6_41 rfl ?_
    refine go_iaload (g) K HT18 d6_43 (O.2.2.2.2.2.1) (og) (at_map1 hsg) ?_
    refine go_icmp_gt K HT18 d6_44 (fun c1 => ?_) (fun c1 => ?_)
    · have hb : mgB vf vg f g := by unfold mgB; (try simp only [or_true, true_or, and_true, true_and, not_true_eq_false, not_false_eq_true, Int32.lt_iff_toInt_lt, Int32.le_iff_toInt_le, ← Int32.toInt_inj, Int64.lt_iff_toInt_lt, Int64.le_iff_toInt_le, ← Int64.toInt_inj, Int32.reduceToInt, Int64.reduceToInt, ne_eq] at *) <;> omega
      refine go_iconst (1) K HT18 d6_69 (by decide) ?_
      refine go_goto K HT18 d6_70 ?_
      refine go_istore K HT18 d6_74 (L' := #[.val (.ref a), .val (.int (oN i)), .val (.int (oN j)), .val (.int (oN f)), .val (.int (oN g)), .val (.int 1), .unset, .unset, .unset]) rfl ?_
      refine go_iload K HT18 d6_76 rfl ?_
      refine go_if_eq K HT18 d6_78 (fun cc => False.elim (by exact absurd cc (by decide))) (fun cc => ?_)
      refine go_iloadN K HT18 d6_81 rfl ?_
      refine go_goto K HT18 d6_82 ?_
      refine go_istore K HT18 d6_87 (L' := #[.val (.ref a), .val (.int (oN i)), .val (.int (oN j)), .val (.int (oN f)), .val (.int (oN g)), .val (.int 1), .val (.int (oN f)), .unset, .unset]) rfl ?_
      refine go_iload K HT18 d6_89 rfl ?_
      refine go_if_eq K HT18 d6_91 (fun cc => False.elim (by exact absurd cc (by decide))) (fun cc => ?_)
      refine go_iload K HT18 d6_94 rfl ?_
      refine go_goto K HT18 d6_96 ?_
      refine go_istore K HT18 d6_100 (L' := #[.val (.ref a), .val (.int (oN i)), .val (.int (oN j)), .val (.int (oN f)), .val (.int (oN g)), .val (.int 1), .val (.int (oN f)), .val (.int (oN g)), .unset]) rfl ?_
      exact J102 f g vf vg _ f4 g4 hne fl gl hsf hsg ⟨i, hi⟩ ⟨j, hj⟩ (by unfold mgR; rw [if_neg hne, if_pos hb]) (by unfold mgC; rw [if_neg hne, if_pos hb]) _ HT18
    · refine go_aloadN K HT18 d6_47 rfl rfl ?_
      refine go_getfield K HT18 d6_48 (host := "") (Or.inl (hw _ (List.mem_of_getElem? (i := 12) rfl))) Via.refl (O.2.2.1) fun T19 HT19 => ?_
      refine go_iloadN K HT19 d6_51 rfl ?_
      refine go_iaload (f) K HT19 d6_52 (O.2.2.2.2.2.1) (of) (at_map1 hsf) ?_
      refine go_aloadN K HT19 d6_53 rfl rfl ?_
      refine go_getfield K HT19 d6_54 (host := "") (Or.inl (hw _ (List.mem_of_getElem? (i := 12) rfl))) Via.refl (O.2.2.1) fun T20 HT20 => ?_
      refine go_iload K HT20 d6_57 rfl ?_
      refine go_iaload (g) K HT20 d6_59 (O.2.2.2.2.2.1) (og) (at_map1 hsg) ?_
      refine go_icmp_ne K HT20 d6_60 (fun c2 => ?_) (fun c2 => ?_)
      · have hb : ¬ mgB vf vg f g := by unfold mgB; (try simp only [or_true, true_or, and_true, true_and, not_true_eq_false, not_false_eq_true, Int32.lt_iff_toInt_lt, Int32.le_iff_toInt_le, ← Int32.toInt_inj, Int64.lt_iff_toInt_lt, Int64.le_iff_toInt_le, ← Int64.toInt_inj, Int32.reduceToInt, Int64.reduceToInt, ne_eq] at *) <;> omega
        refine go_iconst (0) K HT20 d6_73 (by decide) ?_
        refine go_istore K HT20 d6_74 (L' := #[.val (.ref a), .val (.int (oN i)), .val (.int (oN j)), .val (.int (oN f)), .val (.int (oN g)), .val (.int 0), .unset, .unset, .unset]) rfl ?_
        refine go_iload K HT20 d6_76 rfl ?_
        refine go_if_eq K HT20 d6_78 (fun cc => ?_) (fun cc => False.elim (by exact cc rfl))
        refine go_iload K HT20 d6_85 rfl ?_
        refine go_istore K HT20 d6_87 (L' := #[.val (.ref a), .val (.int (oN i)), .val (.int (oN j)), .val (.int (oN f)), .val (.int (oN g)), .val (.int 0), .val (.int (oN g)), .unset, .unset]) rfl ?_
        refine go_iload K HT20 d6_89 rfl ?_
        refine go_if_eq K HT20 d6_91 (fun cc => ?_) (fun cc => False.elim (by exact cc rfl))
        refine go_iloadN K HT20 d6_99 rfl ?_
        refine go_istore K HT20 d6_100 (L' := #[.val (.ref a), .val (.int (oN i)), .val (.int (oN j)), .val (.int (oN f)), .val (.int (oN g)), .val (.int 0), .val (.int (oN g)), .val (.int (oN f)), .unset]) rfl ?_
        exact J102 g f vg vf _ g4 f4 (Ne.symm hne) gl fl hsg hsf ⟨j, hj⟩ ⟨i, hi⟩ (by unfold mgR; rw [if_neg hne, if_neg hb]) (by unfold mgC; rw [if_neg hne, if_neg hb]) _ HT20
      · refine go_iloadN K HT20 d6_63 rfl ?_
        refine go_iload K HT20 d6_64 rfl ?_
        refine go_icmp_ge K HT20 d6_66 (fun c3 => ?_) (fun c3 => ?_)
        · have hb : ¬ mgB vf vg f g := by unfold mgB; (try simp only [or_true, true_or, and_true, true_and, not_true_eq_false, not_false_eq_true, Int32.lt_iff_toInt_lt, Int32.le_iff_toInt_le, ← Int32.toInt_inj, Int64.lt_iff_toInt_lt, Int64.le_iff_toInt_le, ← Int64.toInt_inj, Int32.reduceToInt, Int64.reduceToInt, ne_eq] at *) <;> omega
          refine go_iconst (0) K HT20 d6_73 (by decide) ?_
          refine go_istore K HT20 d6_74 (L' := #[.val (.ref a), .val (.int (oN i)), .val (.int (oN j)), .val (.int (oN f)), .val (.int (oN g)), .val (.int 0), .unset, .unset, .unset]) rfl ?_
          refine go_iload K HT20 d6_76 rfl ?_
          refine go_if_eq K HT20 d6_78 (fun cc => ?_) (fun cc => False.elim (by exact cc rfl))
          refine go_iload K HT20 d6_85 rfl ?_
          refine go_istore K HT20 d6_87 (L' := #[.val (.ref a), .val (.int (oN i)), .val (.int (oN j)), .val (.int (oN f)), .val (.int (oN g)), .val (.int 0), .val (.int (oN g)), .unset, .unset]) rfl ?_
          refine go_iload K HT20 d6_89 rfl ?_
          refine go_if_eq K HT20 d6_91 (fun cc => ?_) (fun cc => False.elim (by exact cc rfl))
          refine go_iloadN K HT20 d6_99 rfl ?_
          refine go_istore K HT20 d6_100 (L' := #[.val (.ref a), .val (.int (oN i)), .val (.int (oN j)), .val (.int (oN f)), .val (.int (oN g)), .val (.int 0), .val (.int (oN g)), .val (.int (oN f)), .unset]) rfl ?_
          exact J102 g f vg vf _ g4 f4 (Ne.symm hne) gl fl hsg hsf ⟨j, hj⟩ ⟨i, hi⟩ (by unfold mgR; rw [if_neg hne, if_neg hb]) (by unfold mgC; rw [if_neg hne, if_neg hb]) _ HT20
        · have hb : mgB vf vg f g := by unfold mgB; (try simp only [or_true, true_or, and_true, true_and, not_true_eq_false, not_false_eq_true, Int32.lt_iff_toInt_lt, Int32.le_iff_toInt_le, ← Int32.toInt_inj, Int64.lt_iff_toInt_lt, Int64.le_iff_toInt_le, ← Int64.toInt_inj, Int32.reduceToInt, Int64.reduceToInt, ne_eq] at *) <;> omega
          refine go_iconst (1) K HT20 d6_69 (by decide) ?_
          refine go_goto K HT20 d6_70 ?_
          refine go_istore K HT20 d6_74 (L' := #[.val (.ref a), .val (.int (oN i)), .val (.int (oN j)), .val (.int (oN f)), .val (.int (oN g)), .val (.int 1), .unset, .unset, .unset]) rfl ?_
          refine go_iload K HT20 d6_76 rfl ?_
          refine go_if_eq K HT20 d6_78 (fun cc => False.elim (by exact absurd cc (by decide))) (fun cc => ?_)
          refine go_iloadN K HT20 d6_81 rfl ?_
          refine go_goto K HT20 d6_82 ?_
          refine go_istore K HT20 d6_87 (L' := #[.val (.ref a), .val (.int (oN i)), .val (.int (oN j)), .val (.int (oN f)), .val (.int (oN g)), .val (.int 1), .val (.int (oN f)), .unset, .unset]) rfl ?_
          refine go_iload K HT20 d6_89 rfl ?_
          refine go_if_eq K HT20 d6_91 (fun cc => False.elim (by exact absurd cc (by decide))) (fun cc => ?_)
          refine go_iload K HT20 d6_94 rfl ?_
          refine go_goto K HT20 d6_96 ?_
          refine go_istore K HT20 d6_100 (L' := #[.val (.ref a), .val (.int (oN i)), .val (.int (oN j)), .val (.int (oN f)), .val (.int (oN g)), .val (.int 1), .val (.int (oN f)), .val (.int (oN g)), .unset]) rfl ?_
          exact J102 f g vf vg _ f4 g4 hne fl gl hsf hsg ⟨i, hi⟩ ⟨j, hj⟩ (by unfold mgR; rw [if_neg hne, if_pos hb]) (by unfold mgC; rw [if_neg hne, if_pos hb]) _ HT20
  · have e : f = g := (oN_inj (by omega) (by omega)).mp cc
    refine go_iconst (-1) K H2 d6_19 (by decide) ?_
    exact go_iret K H2 d6_20 rfl (by decide) (by decide) (⟨p, s, r, ps2, ss, rs, gp, gs, gr, Or.inl rfl, Or.inl rfl, Or.inl rfl, O2, by unfold mgR mgC; rw [if_pos e, if_pos e]; exact I2, KK⟩)
set_option maxRecDepth 65536 in
set_option maxHeartbeats 40000000 in
theorem rmMR (Z : State) (a0 : Array Value) (hw : ∀ d ∈ tables_1, d.before a0 Z = true) (x : Addr) (y : Addr) (h0 : Heap) (n0 : Nat) (Z0 : n0 ≤ h0.size) (rep : List Nat) (cnt : List Int32) (i j f g : Nat) (vf vg : Int32) (hi : rep[i]? = some f) (hj : rep[j]? = some g) (cf : cnt[f]? = some vf) (cg : cnt[g]? = some vg) (X : IA Z h0 x (rep.map oN)) (Y : IA Z h0 y cnt) (nxy : x ≠ y) (gx : n0 ≤ x) (gy : n0 ≤ y) (hr4 : rep.length = 4) (hlt : ∀ c ∈ rep, c < 4) (f4 : f < 4) (g4 : g < 4) (lau : Launch) :
    Con lau Z (⟨"com/example/entailor/entailor/store/EqualTermsRepresentativePinLaw", "mergeRef", "([I[III)V"⟩ : MethodName) method_3_code 9 none ({ frames := 0, cells := 0, slots := 0, locals := 0 } : Room) #[(.ref x), (.ref y), (.int (oN i)), (.int (oN j))] h0 n0 (RV fun h => IA Z h x ((mgR rep f g vf vg).map oN) ∧ IA Z h y (mgC cnt f g vf vg) ∧ Keep h0 h [x, y]) := by
  refine con_intro pn7 (L := #[.val (.ref x), .val (.ref y), .val (.int (oN i)), .val (.int (oN j)), .unset, .unset, .unset, .unset, .unset]) (fun m => by first | (simp [entryFrame, mkF, argsToLocals, Value.category, maxLocals]; done) | rfl) Z0 (fun w T K H => ?_)
  have lx : rep.length < 2 ^ 31 := by simpa using X.len
  have ly := Y.len
  have oi := oN_toInt (n := i) (Nat.lt_trans (lt_of_at hi) lx); have oj := oN_toInt (n := j) (Nat.lt_trans (lt_of_at hj) lx); have of := oN_toInt (n := f) (by omega); have og := oN_toInt (n := g) (by omega)
  refine go_aloadN K H d7_0 rfl rfl ?_
  refine go_iloadN K H d7_1 rfl ?_
  refine go_iaload (i) K H d7_2 (X) (oi) (at_map2 hi) ?_
  refine go_istore K H d7_3 (L' := #[.val (.ref x), .val (.ref y), .val (.int (oN i)), .val (.int (oN j)), .val (.int (oN f)), .unset, .unset, .unset, .unset]) rfl ?_
  refine go_aloadN K H d7_5 rfl rfl ?_
  refine go_iloadN K H d7_6 rfl ?_
  refine go_iaload (j) K H d7_7 (X) (oj) (at_map2 hj) ?_
  refine go_istore K H d7_8 (L' := #[.val (.ref x), .val (.ref y), .val (.int (oN i)), .val (.int (oN j)), .val (.int (oN f)), .val (.int (oN g)), .unset, .unset, .unset]) rfl ?_
  refine go_iload K H d7_10 rfl ?_
  refine go_iload K H d7_12 rfl ?_
  refine go_icmp_ne K H d7_14 (fun cc => ?_) (fun cc => ?_)
  · have hne : f ≠ g := fun q => cc (by rw [q])
    obtain ⟨x0, x1, x2, x3, hx⟩ : ∃ x0 x1 x2 x3, rep = [x0, x1, x2, x3] := by
      match rep, hr4 with
      | [x0, x1, x2, x3], _ => exact ⟨x0, x1, x2, x3, rfl⟩
    have xl : x0 < 4 ∧ x1 < 4 ∧ x2 < 4 ∧ x3 < 4 := by rw [hx] at hlt; simpa using hlt
    have J82 : ∀ (kp gn : Nat) (vk vn z6 : Int32), kp < 4 → gn < 4 → cnt[kp]? = some vk → cnt[gn]? = some vn → mgR rep f g vf vg = rep.map (rlb gn kp) → mgC cnt f g vf vg = cnt.set kp (vk + vn) → Go w (RV fun h => IA Z h x ((mgR rep f g vf vg).map oN) ∧ IA Z h y (mgC cnt f g vf vg) ∧ Keep h0 h [x, y]) T 82 #[.val (.ref x), .val (.ref y), .val (.int (oN i)), .val (.int (oN j)), .val (.int (oN f)), .val (.int (oN g)), .val (.int z6), .val (.int (oN kp)), .val (.int (oN gn))] [] := by
      intro kp gn vk vn z6 k4 n4 ek en hR hC
      have ok := oN_toInt (n := kp) (by omega); have on := oN_toInt (n := gn) (by omega)
      have J4 : ∀ T h, At1 w T h 0 0 → IA Z h x [oN (rlb gn kp x0), oN (rlb gn kp x1), oN (rlb gn kp x2), oN (rlb gn kp x3)] → IA Z h y cnt → Keep h0 h [x, y] → Go w (RV fun h => IA Z h x ((mgR rep f g vf vg).map oN) ∧ IA Z h y (mgC cnt f g vf vg) ∧ Keep h0 h [x, y]) T 134 #[.val (.ref x), .val (.ref y), .val (.int (oN i)), .val (.int (oN j)), .val (.int (oN f)), .val (.int (oN g)), .val (.int z6), .val (.int (oN kp)), .val (.int (oN gn))] [] := by
        intro T h H B Y KK
        refine go_aloadN K H d7_134 rfl rfl ?_
        refine go_iload K H d7_135 rfl ?_
        refine go_aloadN K H d7_137 rfl rfl ?_
        refine go_iload K H d7_138 rfl ?_
        refine go_iaload (kp) K H d7_140 (Y) (ok) (at_map1 ek) ?_
        refine go_aloadN K H d7_141 rfl rfl ?_
        refine go_iload K H d7_142 rfl ?_
        refine go_iaload (gn) K H d7_144 (Y) (on) (at_map1 en) ?_
        refine go_iadd K H d7_145 fun v1 ev1 => ?_
        refine go_iastore (kp) K H d7_146 (Y) (ok) (by simpa using lt_of_at ek) (gy) fun T2 h2 H2 W2 => ?_
        exact go_ret K H2 d7_147 rfl (by decide) (by decide) (⟨by rw [hR, hx]; exact B.other W2 nxy, by rw [hC]; have q := IA.set Y W2; rw [ev1] at q; exact q, KK.wr W2 (Or.inl (by simp))⟩)
      have J3 : ∀ T h, At1 w T h 0 0 → IA Z h x [oN (rlb gn kp x0), oN (rlb gn kp x1), oN (rlb gn kp x2), oN x3] → IA Z h y cnt → Keep h0 h [x, y] → Go w (RV fun h => IA Z h x ((mgR rep f g vf vg).map oN) ∧ IA Z h y (mgC cnt f g vf vg) ∧ Keep h0 h [x, y]) T 121 #[.val (.ref x), .val (.ref y), .val (.int (oN i)), .val (.int (oN j)), .val (.int (oN f)), .val (.int (oN g)), .val (.int z6), .val (.int (oN kp)), .val (.int (oN gn))] [] := by
        intro T h H B Y KK
        refine go_aloadN K H d7_121 rfl rfl ?_
        refine go_iconst (3) K H d7_122 (by decide) ?_
        refine go_iaload (3) K H d7_123 (B) (by decide) (rfl) ?_
        refine go_iload K H d7_124 rfl ?_
        refine go_icmp_ne K H d7_126 (fun cq => ?_) (fun cq => ?_)
        · exact J4 _ _ H (by have e : rlb gn kp x3 = x3 := if_neg (fun z => cq (by rw [z])); rw [e]; exact B) Y KK
        · refine go_aloadN K H d7_129 rfl rfl ?_
          refine go_iconst (3) K H d7_130 (by decide) ?_
          refine go_iload K H d7_131 rfl ?_
          refine go_iastore (3) K H d7_133 (B) (by decide) (by simp) (gx) fun T3 h3 H3 W3 => ?_
          exact J4 _ _ H3 (by have e : rlb gn kp x3 = kp := if_pos ((oN_inj (by omega) (by omega)).mp cq); rw [e]; exact IA.set B W3) (Y.other W3 nxy.symm) (KK.wr W3 (Or.inl (by simp)))
      have J2 : ∀ T h, At1 w T h 0 0 → IA Z h x [oN (rlb gn kp x0), oN (rlb gn kp x1), oN x2, oN x3] → IA Z h y cnt → Keep h0 h [x, y] → Go w (RV fun h => IA Z h x ((mgR rep f g vf vg).map oN) ∧ IA Z h y (mgC cnt f g vf vg) ∧ Keep h0 h [x, y]) T 108 #[.val (.ref x), .val (.ref y), .val (.int (oN i)), .val (.int (oN j)), .val (.int (oN f)), .val (.int (oN g)), .val (.int z6), .val (.int (oN kp)), .val (.int (oN gn))] [] := by
        intro T h H B Y KK
        refine go_aloadN K H d7_108 rfl rfl ?_
        refine go_iconst (2) K H d7_109 (by decide) ?_
        refine go_iaload (2) K H d7_110 (B) (by decide) (rfl) ?_
        refine go_iload K H d7_111 rfl ?_
        refine go_icmp_ne K H d7_113 (fun cq => ?_) (fun cq => ?_)
        · exact J3 _ _ H (by have e : rlb gn kp x2 = x2 := if_neg (fun z => cq (by rw [z])); rw [e]; exact B) Y KK
        · refine go_aloadN K H d7_116 rfl rfl ?_
          refine go_iconst (2) K H d7_117 (by decide) ?_
          refine go_iload K H d7_118 rfl ?_
          refine go_iastore (2) K H d7_120 (B) (by decide) (by simp) (gx) fun T4 h4 H4 W4 => ?_
          exact J3 _ _ H4 (by have e : rlb gn kp x2 = kp := if_pos ((oN_inj (by omega) (by omega)).mp cq); rw [e]; exact IA.set B W4) (Y.other W4 nxy.symm) (KK.wr W4 (Or.inl (by simp)))
      have J1 : ∀ T h, At1 w T h 0 0 → IA Z h x [oN (rlb gn kp x0), oN x1, oN x2, oN x3] → IA Z h y cnt → Keep h0 h [x, y] → Go w (RV fun h => IA Z h x ((mgR rep f g vf vg).map oN) ∧ IA Z h y (mgC cnt f g vf vg) ∧ Keep h0 h [x, y]) T 95 #[.val (.ref x), .val (.ref y), .val (.int (oN i)), .val (.int (oN j)), .val (.int (oN f)), .val (.int (oN g)), .val (.int z6), .val (.int (oN kp)), .val (.int (oN gn))] [] := by
        intro T h H B Y KK
        refine go_aloadN K H d7_95 rfl rfl ?_
        refine go_iconst (1) K H d7_96 (by decide) ?_
        refine go_iaload (1) K H d7_97 (B) (by decide) (rfl) ?_
        refine go_iload K H d7_98 rfl ?_
        refine go_icmp_ne K H d7_100 (fun cq => ?_) (fun cq => ?_)
        · exact J2 _ _ H (by have e : rlb gn kp x1 = x1 := if_neg (fun z => cq (by rw [z])); rw [e]; exact B) Y KK
        · refine go_aloadN K H d7_103 rfl rfl ?_
          refine go_iconst (1) K H d7_104 (by decide) ?_
          refine go_iload K H d7_105 rfl ?_
          refine go_iastore (1) K H d7_107 (B) (by decide) (by simp) (gx) fun T5 h5 H5 W5 => ?_
          exact J2 _ _ H5 (by have e : rlb gn kp x1 = kp := if_pos ((oN_inj (by omega) (by omega)).mp cq); rw [e]; exact IA.set B W5) (Y.other W5 nxy.symm) (KK.wr W5 (Or.inl (by simp)))
      have J0 : ∀ T h, At1 w T h 0 0 → IA Z h x [oN x0, oN x1, oN x2, oN x3] → IA Z h y cnt → Keep h0 h [x, y] → Go w (RV fun h => IA Z h x ((mgR rep f g vf vg).map oN) ∧ IA Z h y (mgC cnt f g vf vg) ∧ Keep h0 h [x, y]) T 82 #[.val (.ref x), .val (.ref y), .val (.int (oN i)), .val (.int (oN j)), .val (.int (oN f)), .val (.int (oN g)), .val (.int z6), .val (.int (oN kp)), .val (.int (oN gn))] [] := by
        intro T h H B Y KK
        refine go_aloadN K H d7_82 rfl rfl ?_
        refine go_iconst (0) K H d7_83 (by decide) ?_
        refine go_iaload (0) K H d7_84 (B) (by decide) (rfl) ?_
        refine go_iload K H d7_85 rfl ?_
        refine go_icmp_ne K H d7_87 (fun cq => ?_) (fun cq => ?_)
        · exact J1 _ _ H (by have e : rlb gn kp x0 = x0 := if_neg (fun z => cq (by rw [z])); rw [e]; exact B) Y KK
        · refine go_aloadN K H d7_90 rfl rfl ?_
          refine go_iconst (0) K H d7_91 (by decide) ?_
          refine go_iload K H d7_92 rfl ?_
          refine go_iastore (0) K H d7_94 (B) (by decide) (by simp) (gx) fun T6 h6 H6 W6 => ?_
          exact J1 _ _ H6 (by have e : rlb gn kp x0 = kp := if_pos ((oN_inj (by omega) (by omega)).mp cq); rw [e]; exact IA.set B W6) (Y.other W6 nxy.symm) (KK.wr W6 (Or.inl (by simp)))
      exact J0 _ _ H (by have q := X; rw [hx] at q; exact q) Y (Keep.refl _ _)
    refine go_aloadN K H d7_18 rfl rfl ?_
    refine go_iload K H d7_19 rfl ?_
    refine go_iaload (f) K H d7_21 (Y) (of) (at_map1 cf) ?_
    refine go_aloadN K H d7_22 rfl rfl ?_
    refine go_iload K H d7_23 rfl ?_
    refine go_iaload (g) K H d7_25 (Y) (og) (at_map1 cg) ?_
    refine go_icmp_gt K H d7_26 (fun c1 => ?_) (fun c1 => ?_)
    · have hb : mgB vf vg f g := by unfold mgB; (try simp only [or_true, true_or, and_true, true_and, not_true_eq_false, not_false_eq_true, Int32.lt_iff_toInt_lt, Int32.le_iff_toInt_le, ← Int32.toInt_inj, Int64.lt_iff_toInt_lt, Int64.le_iff_toInt_le, ← Int64.toInt_inj, Int32.reduceToInt, Int64.reduceToInt, ne_eq] at *) <;> omega
      refine go_iconst (1) K H d7_47 (by decide) ?_
      refine go_goto K H d7_48 ?_
      refine go_istore K H d7_52 (L' := #[.val (.ref x), .val (.ref y), .val (.int (oN i)), .val (.int (oN j)), .val (.int (oN f)), .val (.int (oN g)), .val (.int 1), .unset, .unset]) rfl ?_
      refine go_iload K H d7_54 rfl ?_
      refine go_if_eq K H d7_56 (fun cc => False.elim (by exact absurd cc (by decide))) (fun cc => ?_)
      refine go_iload K H d7_59 rfl ?_
      refine go_goto K H d7_61 ?_
      refine go_istore K H d7_66 (L' := #[.val (.ref x), .val (.ref y), .val (.int (oN i)), .val (.int (oN j)), .val (.int (oN f)), .val (.int (oN g)), .val (.int 1), .val (.int (oN f)), .unset]) rfl ?_
      refine go_iload K H d7_68 rfl ?_
      refine go_if_eq K H d7_70 (fun cc => False.elim (by exact absurd cc (by decide))) (fun cc => ?_)
      refine go_iload K H d7_73 rfl ?_
      refine go_goto K H d7_75 ?_
      refine go_istore K H d7_80 (L' := #[.val (.ref x), .val (.ref y), .val (.int (oN i)), .val (.int (oN j)), .val (.int (oN f)), .val (.int (oN g)), .val (.int 1), .val (.int (oN f)), .val (.int (oN g))]) rfl ?_
      exact J82 f g vf vg _ f4 g4 cf cg (by unfold mgR; rw [if_neg hne, if_pos hb]) (by unfold mgC; rw [if_neg hne, if_pos hb])
    · refine go_aloadN K H d7_29 rfl rfl ?_
      refine go_iload K H d7_30 rfl ?_
      refine go_iaload (f) K H d7_32 (Y) (of) (at_map1 cf) ?_
      refine go_aloadN K H d7_33 rfl rfl ?_
      refine go_iload K H d7_34 rfl ?_
      refine go_iaload (g) K H d7_36 (Y) (og) (at_map1 cg) ?_
      refine go_icmp_ne K H d7_37 (fun c2 => ?_) (fun c2 => ?_)
      · have hb : ¬ mgB vf vg f g := by unfold mgB; (try simp only [or_true, true_or, and_true, true_and, not_true_eq_false, not_false_eq_true, Int32.lt_iff_toInt_lt, Int32.le_iff_toInt_le, ← Int32.toInt_inj, Int64.lt_iff_toInt_lt, Int64.le_iff_toInt_le, ← Int64.toInt_inj, Int32.reduceToInt, Int64.reduceToInt, ne_eq] at *) <;> omega
        refine go_iconst (0) K H d7_51 (by decide) ?_
        refine go_istore K H d7_52 (L' := #[.val (.ref x), .val (.ref y), .val (.int (oN i)), .val (.int (oN j)), .val (.int (oN f)), .val (.int (oN g)), .val (.int 0), .unset, .unset]) rfl ?_
        refine go_iload K H d7_54 rfl ?_
        refine go_if_eq K H d7_56 (fun cc => ?_) (fun cc => False.elim (by exact cc rfl))
        refine go_iload K H d7_64 rfl ?_
        refine go_istore K H d7_66 (L' := #[.val (.ref x), .val (.ref y), .val (.int (oN i)), .val (.int (oN j)), .val (.int (oN f)), .val (.int (oN g)), .val (.int 0), .val (.int (oN g)), .unset]) rfl ?_
        refine go_iload K H d7_68 rfl ?_
        refine go_if_eq K H d7_70 (fun cc => ?_) (fun cc => False.elim (by exact cc rfl))
        refine go_iload K H d7_78 rfl ?_
        refine go_istore K H d7_80 (L' := #[.val (.ref x), .val (.ref y), .val (.int (oN i)), .val (.int (oN j)), .val (.int (oN f)), .val (.int (oN g)), .val (.int 0), .val (.int (oN g)), .val (.int (oN f))]) rfl ?_
        exact J82 g f vg vf _ g4 f4 cg cf (by unfold mgR; rw [if_neg hne, if_neg hb]) (by unfold mgC; rw [if_neg hne, if_neg hb])
      · refine go_iload K H d7_40 rfl ?_
        refine go_iload K H d7_42 rfl ?_
        refine go_icmp_ge K H d7_44 (fun c3 => ?_) (fun c3 => ?_)
        · have hb : ¬ mgB vf vg f g := by unfold mgB; (try simp only [or_true, true_or, and_true, true_and, not_true_eq_false, not_false_eq_true, Int32.lt_iff_toInt_lt, Int32.le_iff_toInt_le, ← Int32.toInt_inj, Int64.lt_iff_toInt_lt, Int64.le_iff_toInt_le, ← Int64.toInt_inj, Int32.reduceToInt, Int64.reduceToInt, ne_eq] at *) <;> omega
          refine go_iconst (0) K H d7_51 (by decide) ?_
          refine go_istore K H d7_52 (L' := #[.val (.ref x), .val (.ref y), .val (.int (oN i)), .val (.int (oN j)), .val (.int (oN f)), .val (.int (oN g)), .val (.int 0), .unset, .unset]) rfl ?_
          refine go_iload K H d7_54 rfl ?_
          refine go_if_eq K H d7_56 (fun cc => ?_) (fun cc => False.elim (by exact cc rfl))
          refine go_iload K H d7_64 rfl ?_
          refine go_istore K H d7_66 (L' := #[.val (.ref x), .val (.ref y), .val (.int (oN i)), .val (.int (oN j)), .val (.int (oN f)), .val (.int (oN g)), .val (.int 0), .val (.int (oN g)), .unset]) rfl ?_
          refine go_iload K H d7_68 rfl ?_
          refine go_if_eq K H d7_70 (fun cc => ?_) (fun cc => False.elim (by exact cc rfl))
          refine go_iload K H d7_78 rfl ?_
          refine go_istore K H d7_80 (L' := #[.val (.ref x), .val (.ref y), .val (.int (oN i)), .val (.int (oN j)), .val (.int (oN f)), .val (.int (oN g)), .val (.int 0), .val (.int (oN g)), .val (.int (oN f))]) rfl ?_
          exact J82 g f vg vf _ g4 f4 cg cf (by unfold mgR; rw [if_neg hne, if_neg hb]) (by unfold mgC; rw [if_neg hne, if_neg hb])
        · have hb : mgB vf vg f g := by unfold mgB; (try simp only [or_true, true_or, and_true, true_and, not_true_eq_false, not_false_eq_true, Int32.lt_iff_toInt_lt, Int32.le_iff_toInt_le, ← Int32.toInt_inj, Int64.lt_iff_toInt_lt, Int64.le_iff_toInt_le, ← Int64.toInt_inj, Int32.reduceToInt, Int64.reduceToInt, ne_eq] at *) <;> omega
          refine go_iconst (1) K H d7_47 (by decide) ?_
          refine go_goto K H d7_48 ?_
          refine go_istore K H d7_52 (L' := #[.val (.ref x), .val (.ref y), .val (.int (oN i)), .val (.int (oN j)), .val (.int (oN f)), .val (.int (oN g)), .val (.int 1), .unset, .unset]) rfl ?_
          refine go_iload K H d7_54 rfl ?_
          refine go_if_eq K H d7_56 (fun cc => False.elim (by exact absurd cc (by decide))) (fun cc => ?_)
          refine go_iload K H d7_59 rfl ?_
          refine go_goto K H d7_61 ?_
          refine go_istore K H d7_66 (L' := #[.val (.ref x), .val (.ref y), .val (.int (oN i)), .val (.int (oN j)), .val (.int (oN f)), .val (.int (oN g)), .val (.int 1), .val (.int (oN f)), .unset]) rfl ?_
          refine go_iload K H d7_68 rfl ?_
          refine go_if_eq K H d7_70 (fun cc => False.elim (by exact absurd cc (by decide))) (fun cc => ?_)
          refine go_iload K H d7_73 rfl ?_
          refine go_goto K H d7_75 ?_
          refine go_istore K H d7_80 (L' := #[.val (.ref x), .val (.ref y), .val (.int (oN i)), .val (.int (oN j)), .val (.int (oN f)), .val (.int (oN g)), .val (.int 1), .val (.int (oN f)), .val (.int (oN g))]) rfl ?_
          exact J82 f g vf vg _ f4 g4 cf cg (by unfold mgR; rw [if_neg hne, if_pos hb]) (by unfold mgC; rw [if_neg hne, if_pos hb])
  · have e : f = g := (oN_inj (by omega) (by omega)).mp cc
    exact go_ret K H d7_17 rfl (by decide) (by decide) (⟨by unfold mgR; rw [if_pos e]; exact X, by unfold mgC; rw [if_pos e]; exact Y, Keep.refl _ _⟩)
set_option maxRecDepth 65536 in
set_option maxHeartbeats 40000000 in
theorem rm0 (Z : State) (a0 : Array Value) (hw : ∀ d ∈ tables_1, d.before a0 Z = true) (u0 : Int32) (u1 : Int32) (u2 : Int32) (u3 : Int32) (u4 : Int32) (h0 : Heap) (n0 : Nat) (Z0 : n0 ≤ h0.size)  (lau : Launch) :
    Con lau Z x code maxLocals ret room_1 #[(.int u0), (.int u1), (.int u2), (.int u3), (.int u4)] h0 n0 (RI fun z _ => z = 1) := by
  refine con_intro pn8 (L := #[.val (.int u0), .val (.int u1), .val (.int u2), .val (.int u3), .val (.int u4), .unset, .unset, .unset, .unset, .unset, .unset, .unset, .unset, .unset, .unset, .unset, .unset]) (fun m => by first | (simp [entryFrame, mkF, argsToLocals, Value.category, maxLocals]; done) | rfl) Z0 (fun w T K H => ?_)
  refine go_iconst (4) K H d8_0 (by decide) ?_
  refine go_newarray 4 K H d8_1 (hw _ (List.mem_of_getElem? (i := 0) rfl)) (by decide) (by decide) (by decide) (by decide) (by decide) fun T1 h1 x H1 g1 l1 E1 A1 => ?_
  have B1 : IA Z h1 x [0, 0, 0, 0] := A1
  refine go_dup K H1 d8_3 rfl ?_
  refine go_iconst (0) K H1 d8_4 (by decide) ?_
  refine go_iconst (0) K H1 d8_5 (by decide) ?_
  refine go_iastore (0) K H1 d8_6 (B1) (by decide) (by simp) (l1) fun T2 h2 H2 W2 => ?_
  have B2 : IA Z h2 x [0, 0, 0, 0] := IA.set B1 W2
  refine go_dup K H2 d8_7 rfl ?_
  refine go_iconst (1) K H2 d8_8 (by decide) ?_
  refine go_iconst (1) K H2 d8_9 (by decide) ?_
  refine go_iastore (1) K H2 d8_10 (B2) (by decide) (by simp) (l1) fun T3 h3 H3 W3 => ?_
  have B3 : IA Z h3 x [0, 1, 0, 0] := IA.set B2 W3
  refine go_dup K H3 d8_11 rfl ?_
  refine go_iconst (2) K H3 d8_12 (by decide) ?_
  refine go_iconst (2) K H3 d8_13 (by decide) ?_
  refine go_iastore (2) K H3 d8_14 (B3) (by decide) (by simp) (l1) fun T4 h4 H4 W4 => ?_
  have B4 : IA Z h4 x [0, 1, 2, 0] := IA.set B3 W4
  refine go_dup K H4 d8_15 rfl ?_
  refine go_iconst (3) K H4 d8_16 (by decide) ?_
  refine go_iconst (3) K H4 d8_17 (by decide) ?_
  refine go_iastore (3) K H4 d8_18 (B4) (by decide) (by simp) (l1) fun T5 h5 H5 W5 => ?_
  have B5 : IA Z h5 x [0, 1, 2, 3] := IA.set B4 W5
  refine go_astore K H5 d8_19 rfl (L' := #[.val (.int u0), .val (.int u1), .val (.int u2), .val (.int u3), .val (.int u4), .val (.ref x), .unset, .unset, .unset, .unset, .unset, .unset, .unset, .unset, .unset, .unset, .unset]) rfl ?_
  refine go_iconst (4) K H5 d8_21 (by decide) ?_
  refine go_newarray 4 K H5 d8_22 (hw _ (List.mem_of_getElem? (i := 0) rfl)) (by decide) (by decide) (by decide) (by decide) (by decide) fun T6 h6 y H6 g6 l6 E6 A6 => ?_
  have B6 : IA Z h6 y [0, 0, 0, 0] := A6
  have nxy : x ≠ y := Nat.ne_of_lt (g6 ▸ B5.lt); have X := B5.ext E6
  refine go_dup K H6 d8_24 rfl ?_
  refine go_iconst (0) K H6 d8_25 (by decide) ?_
  refine go_iconst (1) K H6 d8_26 (by decide) ?_
  refine go_iastore (0) K H6 d8_27 (B6) (by decide) (by simp) (l6) fun T7 h7 H7 W7 => ?_
  have B7 : IA Z h7 y [1, 0, 0, 0] := IA.set B6 W7
  replace X := X.other W7 nxy
  refine go_dup K H7 d8_28 rfl ?_
  refine go_iconst (1) K H7 d8_29 (by decide) ?_
  refine go_iconst (1) K H7 d8_30 (by decide) ?_
  refine go_iastore (1) K H7 d8_31 (B7) (by decide) (by simp) (l6) fun T8 h8 H8 W8 => ?_
  have B8 : IA Z h8 y [1, 1, 0, 0] := IA.set B7 W8
  replace X := X.other W8 nxy
  refine go_dup K H8 d8_32 rfl ?_
  refine go_iconst (2) K H8 d8_33 (by decide) ?_
  refine go_iconst (1) K H8 d8_34 (by decide) ?_
  refine go_iastore (2) K H8 d8_35 (B8) (by decide) (by simp) (l6) fun T9 h9 H9 W9 => ?_
  have B9 : IA Z h9 y [1, 1, 1, 0] := IA.set B8 W9
  replace X := X.other W9 nxy
  refine go_dup K H9 d8_36 rfl ?_
  refine go_iconst (3) K H9 d8_37 (by decide) ?_
  refine go_iconst (1) K H9 d8_38 (by decide) ?_
  refine go_iastore (3) K H9 d8_39 (B9) (by decide) (by simp) (l6) fun T10 h10 H10 W10 => ?_
  have B10 : IA Z h10 y [1, 1, 1, 1] := IA.set B9 W10
  replace X := X.other W10 nxy
  refine go_astore K H10 d8_40 rfl (L' := #[.val (.int u0), .val (.int u1), .val (.int u2), .val (.int u3), .val (.int u4), .val (.ref x), .val (.ref y), .unset, .unset, .unset, .unset, .unset, .unset, .unset, .unset, .unset, .unset]) rfl ?_
  have Y := B10
  refine go_new K H10 d8_42 (hw _ (List.mem_of_getElem? (i := 1) rfl)) (hw _ (List.mem_of_getElem? (i := 2) rfl)) (hw _ (List.mem_of_getElem? (i := 3) rfl)) (by decide) (by decide) fun T11 h11 a H11 g11 l11 E11 A11 D11 => ?_
  have nxa : x ≠ a := Nat.ne_of_lt (g11 ▸ X.lt); have nya : y ≠ a := Nat.ne_of_lt (g11 ▸ Y.lt); replace X := X.ext E11; replace Y := Y.ext E11
  refine go_dup K H11 d8_45 rfl ?_
  refine go_callI [] K H11 d8_46 rfl (hw _ (List.mem_of_getElem? (i := 4) rfl)) (hw _ (List.mem_of_getElem? (i := 5) rfl)) (hw _ (List.mem_of_getElem? (i := 3) rfl)) (hw _ (List.mem_of_getElem? (i := 6) rfl)) (st' := [(.ref a)]) (by decide) (rmI Z a0 hw _ _ n0 (at_size K H11) _ _ _ (D11 (Or.inl (hw _ (List.mem_of_getElem? (i := 11) rfl))) (ty := (.array .int)) (by decide)) (D11 (Or.inl (hw _ (List.mem_of_getElem? (i := 13) rfl))) (ty := (.array .int)) (by decide)) (D11 (Or.inl (hw _ (List.mem_of_getElem? (i := 15) rfl))) (ty := (.array .int)) (by decide)) A11 l11) pd4 rfl rfl rfl (by decide) (W := 1) rfl (by decide) (by decide) (by decide) fun T12 h12 v12 H12 q12 => ?_
  obtain ⟨rfl, p, s, r, gp, gs, gr, hp, hs, hr, O, K1⟩ := q12
  show Go w _ _ 49 #[.val (.int u0), .val (.int u1), .val (.int u2), .val (.int u3), .val (.int u4), .val (.ref x), .val (.ref y), .unset, .unset, .unset, .unset, .unset, .unset, .unset, .unset, .unset, .unset] [(.ref a)]
  have nxp : x ≠ p := Nat.ne_of_lt (Nat.lt_of_lt_of_le X.lt hp); have nxs : x ≠ s := Nat.ne_of_lt (Nat.lt_of_lt_of_le X.lt hs); have nxr : x ≠ r := Nat.ne_of_lt (Nat.lt_of_lt_of_le X.lt hr); have nyp : y ≠ p := Nat.ne_of_lt (Nat.lt_of_lt_of_le Y.lt hp); have nys : y ≠ s := Nat.ne_of_lt (Nat.lt_of_lt_of_le Y.lt hs); have nyr : y ≠ r := Nat.ne_of_lt (Nat.lt_of_lt_of_le Y.lt hr)
  replace X := X.keep K1 (ninS nxa nin0); replace Y := Y.keep K1 (ninS nya nin0)
  replace X : IA Z h12 x ([0, 1, 2, 3].map oN) := X
  have I := EI.start
  obtain ⟨rep, hrep⟩ : ∃ q, q = [0, 1, 2, 3] := ⟨_, rfl⟩; obtain ⟨cnt, hcnt⟩ : ∃ q : List Int32, q = [1, 1, 1, 1] := ⟨_, rfl⟩; rw [← hrep] at X I; rw [← hcnt] at Y I; clear hrep hcnt
  refine go_astore K H12 d8_49 rfl (L' := #[.val (.int u0), .val (.int u1), .val (.int u2), .val (.int u3), .val (.int u4), .val (.ref x), .val (.ref y), .val (.ref a), .unset, .unset, .unset, .unset, .unset, .unset, .unset, .unset, .unset]) rfl ?_
  refine go_iloadN K H12 d8_51 rfl ?_
  refine go_iconst (3) K H12 d8_52 (by decide) ?_
  refine go_iand K H12 d8_53 fun v13 ev13 => ?_
  have fv13 := f_mask 4 2 ev13 (by decide) (by decide) (by decide)
  refine go_istore K H12 d8_54 (L' := #[.val (.int u0), .val (.int u1), .val (.int u2), .val (.int u3), .val (.int u4), .val (.ref x), .val (.ref y), .val (.ref a), .val (.int v13), .unset, .unset, .unset, .unset, .unset, .unset, .unset, .unset]) rfl ?_
  refine go_iloadN K H12 d8_56 rfl ?_
  refine go_iconst (2) K H12 d8_57 (by decide) ?_
  refine go_iushr K H12 d8_58 fun v14 ev14 => ?_
  have fv14 := f_iushr 4 2 ev14 (by decide) (by decide) (by decide)
  refine go_iconst (3) K H12 d8_59 (by decide) ?_
  refine go_iand K H12 d8_60 fun v15 ev15 => ?_
  have fv15 := f_mask 4 2 ev15 (by decide) (by decide) (by decide)
  refine go_istore K H12 d8_61 (L' := #[.val (.int u0), .val (.int u1), .val (.int u2), .val (.int u3), .val (.int u4), .val (.ref x), .val (.ref y), .val (.ref a), .val (.int v13), .val (.int v15), .unset, .unset, .unset, .unset, .unset, .unset, .unset]) rfl ?_
  refine go_iloadN K H12 d8_63 rfl ?_
  refine go_iconst (3) K H12 d8_64 (by decide) ?_
  refine go_iand K H12 d8_65 fun v16 ev16 => ?_
  have fv16 := f_mask 4 2 ev16 (by decide) (by decide) (by decide)
  refine go_istore K H12 d8_66 (L' := #[.val (.int u0), .val (.int u1), .val (.int u2), .val (.int u3), .val (.int u4), .val (.ref x), .val (.ref y), .val (.ref a), .val (.int v13), .val (.int v15), .val (.int v16), .unset, .unset, .unset, .unset, .unset, .unset]) rfl ?_
  refine go_iloadN K H12 d8_68 rfl ?_
  refine go_iconst (2) K H12 d8_69 (by decide) ?_
  refine go_iushr K H12 d8_70 fun v17 ev17 => ?_
  have fv17 := f_iushr 4 2 ev17 (by decide) (by decide) (by decide)
  refine go_iconst (3) K H12 d8_71 (by decide) ?_
  refine go_iand K H12 d8_72 fun v18 ev18 => ?_
  have fv18 := f_mask 4 2 ev18 (by decide) (by decide) (by decide)
  refine go_istore K H12 d8_73 (L' := #[.val (.int u0), .val (.int u1), .val (.int u2), .val (.int u3), .val (.int u4), .val (.ref x), .val (.ref y), .val (.ref a), .val (.int v13), .val (.int v15), .val (.int v16), .val (.int v18), .unset, .unset, .unset, .unset, .unset]) rfl ?_
  refine go_iloadN K H12 d8_75 rfl ?_
  refine go_iconst (3) K H12 d8_76 (by decide) ?_
  refine go_iand K H12 d8_77 fun v19 ev19 => ?_
  have fv19 := f_mask 4 2 ev19 (by decide) (by decide) (by decide)
  refine go_istore K H12 d8_78 (L' := #[.val (.int u0), .val (.int u1), .val (.int u2), .val (.int u3), .val (.int u4), .val (.ref x), .val (.ref y), .val (.ref a), .val (.int v13), .val (.int v15), .val (.int v16), .val (.int v18), .val (.int v19), .unset, .unset, .unset, .unset]) rfl ?_
  refine go_iloadN K H12 d8_80 rfl ?_
  refine go_iconst (2) K H12 d8_81 (by decide) ?_
  refine go_iushr K H12 d8_82 fun v20 ev20 => ?_
  have fv20 := f_iushr 4 2 ev20 (by decide) (by decide) (by decide)
  refine go_iconst (3) K H12 d8_83 (by decide) ?_
  refine go_iand K H12 d8_84 fun v21 ev21 => ?_
  have fv21 := f_mask 4 2 ev21 (by decide) (by decide) (by decide)
  refine go_istore K H12 d8_85 (L' := #[.val (.int u0), .val (.int u1), .val (.int u2), .val (.int u3), .val (.int u4), .val (.ref x), .val (.ref y), .val (.ref a), .val (.int v13), .val (.int v15), .val (.int v16), .val (.int v18), .val (.int v19), .val (.int v21), .unset, .unset, .unset]) rfl ?_
  obtain ⟨i8, hi8, ei8⟩ := oN_of (v := v13) (N := 4) (by rw [fv13]; omega) (by rw [fv13]; omega) (by decide)
  obtain ⟨i9, hi9, ei9⟩ := oN_of (v := v15) (N := 4) (by rw [fv15]; omega) (by rw [fv15]; omega) (by decide)
  obtain ⟨i10, hi10, ei10⟩ := oN_of (v := v16) (N := 4) (by rw [fv16]; omega) (by rw [fv16]; omega) (by decide)
  obtain ⟨i11, hi11, ei11⟩ := oN_of (v := v18) (N := 4) (by rw [fv18]; omega) (by rw [fv18]; omega) (by decide)
  obtain ⟨i12, hi12, ei12⟩ := oN_of (v := v19) (N := 4) (by rw [fv19]; omega) (by rw [fv19]; omega) (by decide)
  obtain ⟨i13, hi13, ei13⟩ := oN_of (v := v21) (N := 4) (by rw [fv21]; omega) (by rw [fv21]; omega) (by decide)
  subst ei8
  subst ei9
  subst ei10
  subst ei11
  subst ei12
  subst ei13
  show Go w _ _ 87 #[.val (.int u0), .val (.int u1), .val (.int u2), .val (.int u3), .val (.int u4), .val (.ref x), .val (.ref y), .val (.ref a), .val (.int (oN i8)), .val (.int (oN i9)), .val (.int (oN i10)), .val (.int (oN i11)), .val (.int (oN i12)), .val (.int (oN i13)), .unset, .unset, .unset] []
  refine go_aload K H12 d8_87 rfl rfl ?_
  refine go_iload K H12 d8_89 rfl ?_
  refine go_iload K H12 d8_91 rfl ?_
  obtain ⟨f, f4, hf⟩ := I.at hi8; obtain ⟨g, g4, hg⟩ := I.at hi9
  have hc4 : cnt.length = 4 := I.2.2.2.2.1; obtain ⟨vf, cf⟩ : ∃ q, cnt[f]? = some q := ⟨_, List.getElem?_eq_getElem (by omega)⟩; obtain ⟨vg, cg⟩ : ∃ q, cnt[g]? = some q := ⟨_, List.getElem?_eq_getElem (by omega)⟩
  have xlt := X.lt; have ylt := Y.lt
  refine go_callV [(.int (oN i8)), (.int (oN i9))] K H12 d8_93 (O.1) (hw _ (List.mem_of_getElem? (i := 16) rfl)) (hw _ (List.mem_of_getElem? (i := 17) rfl)) (nf_sel (hw _ (List.mem_of_getElem? (i := 19) rfl))) (hw _ (List.mem_of_getElem? (i := 19) rfl)) (hw _ (List.mem_of_getElem? (i := 18) rfl)) (hw _ (List.mem_of_getElem? (i := 3) rfl)) (hw _ (List.mem_of_getElem? (i := 20) rfl)) (st' := []) (by decide) (rmM Z a0 hw _ _ n0 (at_size K H12) _ _ _ _ _ _ O l11 gp gs gr rep cnt _ _ f g vf vg hf hg cf cg I) pd0 rfl rfl rfl (by decide) (W := 0) rfl (by decide) (by decide) (by decide) fun T22 h22 v22 H22 q22 => ?_
  obtain ⟨z22, rfl, p', s', r', ps', ss', rs', gp', gs', gr', sp, ss2, sr, O', I', K1⟩ := q22
  show Go w _ _ 96 #[.val (.int u0), .val (.int u1), .val (.int u2), .val (.int u3), .val (.int u4), .val (.ref x), .val (.ref y), .val (.ref a), .val (.int (oN i8)), .val (.int (oN i9)), .val (.int (oN i10)), .val (.int (oN i11)), .val (.int (oN i12)), .val (.int (oN i13)), .unset, .unset, .unset] [(.int z22)]
  replace X := X.keep K1 (ninS nxa (ninS nxp (ninS nxs (ninS nxr nin0)))); replace Y := Y.keep K1 (ninS nya (ninS nyp (ninS nys (ninS nyr nin0))))
  have nxp' : x ≠ p' := by rcases sp with q | q; rw [q]; exact nxp; exact Nat.ne_of_lt (Nat.lt_of_lt_of_le xlt q)
  have nxs' : x ≠ s' := by rcases ss2 with q | q; rw [q]; exact nxs; exact Nat.ne_of_lt (Nat.lt_of_lt_of_le xlt q)
  have nxr' : x ≠ r' := by rcases sr with q | q; rw [q]; exact nxr; exact Nat.ne_of_lt (Nat.lt_of_lt_of_le xlt q)
  have nyp' : y ≠ p' := by rcases sp with q | q; rw [q]; exact nyp; exact Nat.ne_of_lt (Nat.lt_of_lt_of_le ylt q)
  have nys' : y ≠ s' := by rcases ss2 with q | q; rw [q]; exact nys; exact Nat.ne_of_lt (Nat.lt_of_lt_of_le ylt q)
  have nyr' : y ≠ r' := by rcases sr with q | q; rw [q]; exact nyr; exact Nat.ne_of_lt (Nat.lt_of_lt_of_le ylt q)
  refine go_pop K H22 d8_96 rfl ?_
  refine go_aload K H22 d8_97 rfl rfl ?_
  refine go_aload K H22 d8_99 rfl rfl ?_
  refine go_iload K H22 d8_101 rfl ?_
  refine go_iload K H22 d8_103 rfl ?_
  refine go_callS [(.ref x), (.ref y), (.int (oN i8)), (.int (oN i9))] K H22 d8_105 (hw _ (List.mem_of_getElem? (i := 26) rfl)) (hw _ (List.mem_of_getElem? (i := 27) rfl)) (hw _ (List.mem_of_getElem? (i := 28) rfl)) (hw _ (List.mem_of_getElem? (i := 29) rfl)) (st' := []) (by decide) (rmMR Z a0 hw _ _ _ n0 (at_size K H22) rep cnt _ _ f g vf vg hf hg cf cg X Y nxy l1 l6 I.2.2.2.1 (fun c hc => by obtain ⟨q, hq⟩ := List.mem_iff_getElem?.mp hc; exact (I.2.2.2.2.2.2.1 q c hq).1) f4 g4) pd5 rfl rfl rfl (by decide) (W := 0) rfl (by decide) (by decide) (by decide) fun T23 h23 v23 H23 q23 => ?_
  obtain ⟨rfl, X', Y', K2⟩ := q23
  show Go w _ _ 108 #[.val (.int u0), .val (.int u1), .val (.int u2), .val (.int u3), .val (.int u4), .val (.ref x), .val (.ref y), .val (.ref a), .val (.int (oN i8)), .val (.int (oN i9)), .val (.int (oN i10)), .val (.int (oN i11)), .val (.int (oN i12)), .val (.int (oN i13)), .unset, .unset, .unset] []
  replace O' := O'.keep K2 (ninS nxa.symm (ninS nya.symm nin0)) (ninS nxp'.symm (ninS nyp'.symm nin0)) (ninS nxs'.symm (ninS nys'.symm nin0)) (ninS nxr'.symm (ninS nyr'.symm nin0))
  clear X Y O K1 K2 gp gs gr nxp nxs nxr nyp nys nyr xlt ylt sp ss2 sr
  obtain ⟨rep2, hrep⟩ : ∃ q, q = mgR rep f g vf vg := ⟨_, rfl⟩; obtain ⟨cnt2, hcnt⟩ : ∃ q, q = mgC cnt f g vf vg := ⟨_, rfl⟩; rw [← hrep] at X' I'; rw [← hcnt] at Y' I'; clear hrep hcnt hf hg cf cg hc4 I f4 g4; clear f g vf vg rep cnt
  obtain ⟨rep, rfl⟩ : ∃ q, q = rep2 := ⟨_, rfl⟩
  obtain ⟨cnt, rfl⟩ : ∃ q, q = cnt2 := ⟨_, rfl⟩
  obtain ⟨p, rfl⟩ : ∃ q, q = p' := ⟨_, rfl⟩
  obtain ⟨s, rfl⟩ : ∃ q, q = s' := ⟨_, rfl⟩
  obtain ⟨r, rfl⟩ : ∃ q, q = r' := ⟨_, rfl⟩
  have X := X'; clear X'
  have Y := Y'; clear Y'
  have O := O'; clear O'
  have I := I'; clear I'
  have gp := gp'; clear gp'
  have gs := gs'; clear gs'
  have gr := gr'; clear gr'
  have nxp := nxp'; clear nxp'
  have nxs := nxs'; clear nxs'
  have nxr := nxr'; clear nxr'
  have nyp := nyp'; clear nyp'
  have nys := nys'; clear nys'
  have nyr := nyr'; clear nyr'
  refine go_aload K H23 d8_108 rfl rfl ?_
  refine go_iload K H23 d8_110 rfl ?_
  refine go_iload K H23 d8_112 rfl ?_
  obtain ⟨f, f4, hf⟩ := I.at hi10; obtain ⟨g, g4, hg⟩ := I.at hi11
  have hc4 : cnt.length = 4 := I.2.2.2.2.1; obtain ⟨vf, cf⟩ : ∃ q, cnt[f]? = some q := ⟨_, List.getElem?_eq_getElem (by omega)⟩; obtain ⟨vg, cg⟩ : ∃ q, cnt[g]? = some q := ⟨_, List.getElem?_eq_getElem (by omega)⟩
  have xlt := X.lt; have ylt := Y.lt
  refine go_callV [(.int (oN i10)), (.int (oN i11))] K H23 d8_114 (O.1) (hw _ (List.mem_of_getElem? (i := 16) rfl)) (hw _ (List.mem_of_getElem? (i := 17) rfl)) (nf_sel (hw _ (List.mem_of_getElem? (i := 19) rfl))) (hw _ (List.mem_of_getElem? (i := 19) rfl)) (hw _ (List.mem_of_getElem? (i := 18) rfl)) (hw _ (List.mem_of_getElem? (i := 3) rfl)) (hw _ (List.mem_of_getElem? (i := 20) rfl)) (st' := []) (by decide) (rmM Z a0 hw _ _ n0 (at_size K H23) _ _ _ _ _ _ O l11 gp gs gr rep cnt _ _ f g vf vg hf hg cf cg I) pd0 rfl rfl rfl (by decide) (W := 0) rfl (by decide) (by decide) (by decide) fun T24 h24 v24 H24 q24 => ?_
  obtain ⟨z24, rfl, p', s', r', ps', ss', rs', gp', gs', gr', sp, ss2, sr, O', I', K1⟩ := q24
  show Go w _ _ 117 #[.val (.int u0), .val (.int u1), .val (.int u2), .val (.int u3), .val (.int u4), .val (.ref x), .val (.ref y), .val (.ref a), .val (.int (oN i8)), .val (.int (oN i9)), .val (.int (oN i10)), .val (.int (oN i11)), .val (.int (oN i12)), .val (.int (oN i13)), .unset, .unset, .unset] [(.int z24)]
  replace X := X.keep K1 (ninS nxa (ninS nxp (ninS nxs (ninS nxr nin0)))); replace Y := Y.keep K1 (ninS nya (ninS nyp (ninS nys (ninS nyr nin0))))
  have nxp' : x ≠ p' := by rcases sp with q | q; rw [q]; exact nxp; exact Nat.ne_of_lt (Nat.lt_of_lt_of_le xlt q)
  have nxs' : x ≠ s' := by rcases ss2 with q | q; rw [q]; exact nxs; exact Nat.ne_of_lt (Nat.lt_of_lt_of_le xlt q)
  have nxr' : x ≠ r' := by rcases sr with q | q; rw [q]; exact nxr; exact Nat.ne_of_lt (Nat.lt_of_lt_of_le xlt q)
  have nyp' : y ≠ p' := by rcases sp with q | q; rw [q]; exact nyp; exact Nat.ne_of_lt (Nat.lt_of_lt_of_le ylt q)
  have nys' : y ≠ s' := by rcases ss2 with q | q; rw [q]; exact nys; exact Nat.ne_of_lt (Nat.lt_of_lt_of_le ylt q)
  have nyr' : y ≠ r' := by rcases sr with q | q; rw [q]; exact nyr; exact Nat.ne_of_lt (Nat.lt_of_lt_of_le ylt q)
  refine go_pop K H24 d8_117 rfl ?_
  refine go_aload K H24 d8_118 rfl rfl ?_
  refine go_aload K H24 d8_120 rfl rfl ?_
  refine go_iload K H24 d8_122 rfl ?_
  refine go_iload K H24 d8_124 rfl ?_
  refine go_callS [(.ref x), (.ref y), (.int (oN i10)), (.int (oN i11))] K H24 d8_126 (hw _ (List.mem_of_getElem? (i := 26) rfl)) (hw _ (List.mem_of_getElem? (i := 27) rfl)) (hw _ (List.mem_of_getElem? (i := 28) rfl)) (hw _ (List.mem_of_getElem? (i := 29) rfl)) (st' := []) (by decide) (rmMR Z a0 hw _ _ _ n0 (at_size K H24) rep cnt _ _ f g vf vg hf hg cf cg X Y nxy l1 l6 I.2.2.2.1 (fun c hc => by obtain ⟨q, hq⟩ := List.mem_iff_getElem?.mp hc; exact (I.2.2.2.2.2.2.1 q c hq).1) f4 g4) pd5 rfl rfl rfl (by decide) (W := 0) rfl (by decide) (by decide) (by decide) fun T25 h25 v25 H25 q25 => ?_
  obtain ⟨rfl, X', Y', K2⟩ := q25
  show Go w _ _ 129 #[.val (.int u0), .val (.int u1), .val (.int u2), .val (.int u3), .val (.int u4), .val (.ref x), .val (.ref y), .val (.ref a), .val (.int (oN i8)), .val (.int (oN i9)), .val (.int (oN i10)), .val (.int (oN i11)), .val (.int (oN i12)), .val (.int (oN i13)), .unset, .unset, .unset] []
  replace O' := O'.keep K2 (ninS nxa.symm (ninS nya.symm nin0)) (ninS nxp'.symm (ninS nyp'.symm nin0)) (ninS nxs'.symm (ninS nys'.symm nin0)) (ninS nxr'.symm (ninS nyr'.symm nin0))
  clear X Y O K1 K2 gp gs gr nxp nxs nxr nyp nys nyr xlt ylt sp ss2 sr
  obtain ⟨rep2, hrep⟩ : ∃ q, q = mgR rep f g vf vg := ⟨_, rfl⟩; obtain ⟨cnt2, hcnt⟩ : ∃ q, q = mgC cnt f g vf vg := ⟨_, rfl⟩; rw [← hrep] at X' I'; rw [← hcnt] at Y' I'; clear hrep hcnt hf hg cf cg hc4 I f4 g4; clear f g vf vg rep cnt
  obtain ⟨rep, rfl⟩ : ∃ q, q = rep2 := ⟨_, rfl⟩
  obtain ⟨cnt, rfl⟩ : ∃ q, q = cnt2 := ⟨_, rfl⟩
  obtain ⟨p, rfl⟩ : ∃ q, q = p' := ⟨_, rfl⟩
  obtain ⟨s, rfl⟩ : ∃ q, q = s' := ⟨_, rfl⟩
  obtain ⟨r, rfl⟩ : ∃ q, q = r' := ⟨_, rfl⟩
  have X := X'; clear X'
  have Y := Y'; clear Y'
  have O := O'; clear O'
  have I := I'; clear I'
  have gp := gp'; clear gp'
  have gs := gs'; clear gs'
  have gr := gr'; clear gr'
  have nxp := nxp'; clear nxp'
  have nxs := nxs'; clear nxs'
  have nxr := nxr'; clear nxr'
  have nyp := nyp'; clear nyp'
  have nys := nys'; clear nys'
  have nyr := nyr'; clear nyr'
  refine go_aload K H25 d8_129 rfl rfl ?_
  refine go_iload K H25 d8_131 rfl ?_
  refine go_iload K H25 d8_133 rfl ?_
  obtain ⟨f, f4, hf⟩ := I.at hi12; obtain ⟨g, g4, hg⟩ := I.at hi13
  have hc4 : cnt.length = 4 := I.2.2.2.2.1; obtain ⟨vf, cf⟩ : ∃ q, cnt[f]? = some q := ⟨_, List.getElem?_eq_getElem (by omega)⟩; obtain ⟨vg, cg⟩ : ∃ q, cnt[g]? = some q := ⟨_, List.getElem?_eq_getElem (by omega)⟩
  have xlt := X.lt; have ylt := Y.lt
  refine go_callV [(.int (oN i12)), (.int (oN i13))] K H25 d8_135 (O.1) (hw _ (List.mem_of_getElem? (i := 16) rfl)) (hw _ (List.mem_of_getElem? (i := 17) rfl)) (nf_sel (hw _ (List.mem_of_getElem? (i := 19) rfl))) (hw _ (List.mem_of_getElem? (i := 19) rfl)) (hw _ (List.mem_of_getElem? (i := 18) rfl)) (hw _ (List.mem_of_getElem? (i := 3) rfl)) (hw _ (List.mem_of_getElem? (i := 20) rfl)) (st' := []) (by decide) (rmM Z a0 hw _ _ n0 (at_size K H25) _ _ _ _ _ _ O l11 gp gs gr rep cnt _ _ f g vf vg hf hg cf cg I) pd0 rfl rfl rfl (by decide) (W := 0) rfl (by decide) (by decide) (by decide) fun T26 h26 v26 H26 q26 => ?_
  obtain ⟨z26, rfl, p', s', r', ps', ss', rs', gp', gs', gr', sp, ss2, sr, O', I', K1⟩ := q26
  show Go w _ _ 138 #[.val (.int u0), .val (.int u1), .val (.int u2), .val (.int u3), .val (.int u4), .val (.ref x), .val (.ref y), .val (.ref a), .val (.int (oN i8)), .val (.int (oN i9)), .val (.int (oN i10)), .val (.int (oN i11)), .val (.int (oN i12)), .val (.int (oN i13)), .unset, .unset, .unset] [(.int z26)]
  replace X := X.keep K1 (ninS nxa (ninS nxp (ninS nxs (ninS nxr nin0)))); replace Y := Y.keep K1 (ninS nya (ninS nyp (ninS nys (ninS nyr nin0))))
  have nxp' : x ≠ p' := by rcases sp with q | q; rw [q]; exact nxp; exact Nat.ne_of_lt (Nat.lt_of_lt_of_le xlt q)
  have nxs' : x ≠ s' := by rcases ss2 with q | q; rw [q]; exact nxs; exact Nat.ne_of_lt (Nat.lt_of_lt_of_le xlt q)
  have nxr' : x ≠ r' := by rcases sr with q | q; rw [q]; exact nxr; exact Nat.ne_of_lt (Nat.lt_of_lt_of_le xlt q)
  have nyp' : y ≠ p' := by rcases sp with q | q; rw [q]; exact nyp; exact Nat.ne_of_lt (Nat.lt_of_lt_of_le ylt q)
  have nys' : y ≠ s' := by rcases ss2 with q | q; rw [q]; exact nys; exact Nat.ne_of_lt (Nat.lt_of_lt_of_le ylt q)
  have nyr' : y ≠ r' := by rcases sr with q | q; rw [q]; exact nyr; exact Nat.ne_of_lt (Nat.lt_of_lt_of_le ylt q)
  refine go_pop K H26 d8_138 rfl ?_
  refine go_aload K H26 d8_139 rfl rfl ?_
  refine go_aload K H26 d8_141 rfl rfl ?_
  refine go_iload K H26 d8_143 rfl ?_
  refine go_iload K H26 d8_145 rfl ?_
  refine go_callS [(.ref x), (.ref y), (.int (oN i12)), (.int (oN i13))] K H26 d8_147 (hw _ (List.mem_of_getElem? (i := 26) rfl)) (hw _ (List.mem_of_getElem? (i := 27) rfl)) (hw _ (List.mem_of_getElem? (i := 28) rfl)) (hw _ (List.mem_of_getElem? (i := 29) rfl)) (st' := []) (by decide) (rmMR Z a0 hw _ _ _ n0 (at_size K H26) rep cnt _ _ f g vf vg hf hg cf cg X Y nxy l1 l6 I.2.2.2.1 (fun c hc => by obtain ⟨q, hq⟩ := List.mem_iff_getElem?.mp hc; exact (I.2.2.2.2.2.2.1 q c hq).1) f4 g4) pd5 rfl rfl rfl (by decide) (W := 0) rfl (by decide) (by decide) (by decide) fun T27 h27 v27 H27 q27 => ?_
  obtain ⟨rfl, X', Y', K2⟩ := q27
  show Go w _ _ 150 #[.val (.int u0), .val (.int u1), .val (.int u2), .val (.int u3), .val (.int u4), .val (.ref x), .val (.ref y), .val (.ref a), .val (.int (oN i8)), .val (.int (oN i9)), .val (.int (oN i10)), .val (.int (oN i11)), .val (.int (oN i12)), .val (.int (oN i13)), .unset, .unset, .unset] []
  replace O' := O'.keep K2 (ninS nxa.symm (ninS nya.symm nin0)) (ninS nxp'.symm (ninS nyp'.symm nin0)) (ninS nxs'.symm (ninS nys'.symm nin0)) (ninS nxr'.symm (ninS nyr'.symm nin0))
  clear X Y O K1 K2 gp gs gr nxp nxs nxr nyp nys nyr xlt ylt sp ss2 sr
  obtain ⟨rep2, hrep⟩ : ∃ q, q = mgR rep f g vf vg := ⟨_, rfl⟩; obtain ⟨cnt2, hcnt⟩ : ∃ q, q = mgC cnt f g vf vg := ⟨_, rfl⟩; rw [← hrep] at X' I'; rw [← hcnt] at Y' I'; clear hrep hcnt hf hg cf cg hc4 I f4 g4; clear f g vf vg rep cnt
  obtain ⟨rep, rfl⟩ : ∃ q, q = rep2 := ⟨_, rfl⟩
  obtain ⟨cnt, rfl⟩ : ∃ q, q = cnt2 := ⟨_, rfl⟩
  obtain ⟨p, rfl⟩ : ∃ q, q = p' := ⟨_, rfl⟩
  obtain ⟨s, rfl⟩ : ∃ q, q = s' := ⟨_, rfl⟩
  obtain ⟨r, rfl⟩ : ∃ q, q = r' := ⟨_, rfl⟩
  have X := X'; clear X'
  have Y := Y'; clear Y'
  have O := O'; clear O'
  have I := I'; clear I'
  have gp := gp'; clear gp'
  have gs := gs'; clear gs'
  have gr := gr'; clear gr'
  have nxp := nxp'; clear nxp'
  have nxs := nxs'; clear nxs'
  have nxr := nxr'; clear nxr'
  have nyp := nyp'; clear nyp'
  have nys := nys'; clear nys'
  have nyr := nyr'; clear nyr'
  refine go_iloadN K H27 d8_150 rfl ?_
  refine go_iconst (3) K H27 d8_151 (by decide) ?_
  refine go_iand K H27 d8_152 fun v28 ev28 => ?_
  have fv28 := f_mask 4 2 ev28 (by decide) (by decide) (by decide)
  refine go_istore K H27 d8_153 (L' := #[.val (.int u0), .val (.int u1), .val (.int u2), .val (.int u3), .val (.int u4), .val (.ref x), .val (.ref y), .val (.ref a), .val (.int (oN i8)), .val (.int (oN i9)), .val (.int (oN i10)), .val (.int (oN i11)), .val (.int (oN i12)), .val (.int (oN i13)), .val (.int v28), .unset, .unset]) rfl ?_
  refine go_iconst (4) K H27 d8_155 (by decide) ?_
  refine go_iload K H27 d8_156 rfl ?_
  refine go_ldcI (2147483647) K H27 d8_158 (hw _ (List.mem_of_getElem? (i := 49) rfl)) ?_
  refine go_iand K H27 d8_160 fun v29 ev29 => ?_
  have fv29 := f_mask 2147483648 31 ev29 (by decide) (by decide) (by decide)
  refine go_callS [(.int 4), (.int v29)] K H27 d8_161 (hw _ (List.mem_of_getElem? (i := 50) rfl)) (hw _ (List.mem_of_getElem? (i := 31) rfl)) (hw _ (List.mem_of_getElem? (i := 32) rfl)) (hw _ (List.mem_of_getElem? (i := 33) rfl)) (st' := []) (by decide) (rmmax Z a0 hw _ _ _ n0 (at_size K H27)) pd0 rfl rfl rfl (by decide) (W := 0) rfl (by decide) (by decide) (by decide) fun T30 h30 v30 H30 q30 => ?_
  obtain ⟨z30, rfl, ⟨q1, q2, q3⟩, rfl⟩ := q30
  show Go w _ _ 164 #[.val (.int u0), .val (.int u1), .val (.int u2), .val (.int u3), .val (.int u4), .val (.ref x), .val (.ref y), .val (.ref a), .val (.int (oN i8)), .val (.int (oN i9)), .val (.int (oN i10)), .val (.int (oN i11)), .val (.int (oN i12)), .val (.int (oN i13)), .val (.int v28), .unset, .unset] [(.int z30)]
  refine go_istore K H30 d8_164 (L' := #[.val (.int u0), .val (.int u1), .val (.int u2), .val (.int u3), .val (.int u4), .val (.ref x), .val (.ref y), .val (.ref a), .val (.int (oN i8)), .val (.int (oN i9)), .val (.int (oN i10)), .val (.int (oN i11)), .val (.int (oN i12)), .val (.int (oN i13)), .val (.int v28), .val (.int z30), .unset]) rfl ?_
  obtain ⟨iq, hiq, eiq⟩ := oN_of (v := v28) (N := 4) (by rw [fv28]; omega) (by rw [fv28]; omega) (by decide)
  subst eiq
  obtain ⟨ib, hib, eib⟩ := oN_of (v := z30) (N := 2147483648) (by have := rng32 z30; simp only [Int32.reduceToInt] at q1; omega) (by have := rng32 z30; omega) (by decide)
  have hb4 : 4 ≤ ib := by rw [eib, oN_toInt (by omega)] at q1; simp only [Int32.reduceToInt] at q1; omega
  clear q1 q2 q3
  subst eib
  show Go w _ _ 166 #[.val (.int u0), .val (.int u1), .val (.int u2), .val (.int u3), .val (.int u4), .val (.ref x), .val (.ref y), .val (.ref a), .val (.int (oN i8)), .val (.int (oN i9)), .val (.int (oN i10)), .val (.int (oN i11)), .val (.int (oN i12)), .val (.int (oN i13)), .val (.int (oN iq)), .val (.int (oN ib)), .unset] []
  refine go_aload K H30 d8_166 rfl rfl ?_
  refine go_iload K H30 d8_168 rfl ?_
  show Go w _ _ 170 #[.val (.int u0), .val (.int u1), .val (.int u2), .val (.int u3), .val (.int u4), .val (.ref x), .val (.ref y), .val (.ref a), .val (.int (oN i8)), .val (.int (oN i9)), .val (.int (oN i10)), .val (.int (oN i11)), .val (.int (oN i12)), .val (.int (oN i13)), .val (.int (oN iq)), .val (.int (oN ib)), .unset] [(.int (oN iq)), (.ref a)]
  obtain ⟨c, c4, hc⟩ := I.at hiq
  refine go_callV [(.int (oN iq))] K H30 d8_170 (O.1) (hw _ (List.mem_of_getElem? (i := 51) rfl)) (hw _ (List.mem_of_getElem? (i := 22) rfl)) (nf_sel (hw _ (List.mem_of_getElem? (i := 24) rfl))) (hw _ (List.mem_of_getElem? (i := 24) rfl)) (hw _ (List.mem_of_getElem? (i := 23) rfl)) (hw _ (List.mem_of_getElem? (i := 3) rfl)) (hw _ (List.mem_of_getElem? (i := 25) rfl)) (st' := []) (by decide) (rmRep Z a0 hw _ _ n0 (at_size K H30) _ _ _ _ _ _ O gp iq c (by omega) (I.case hc)) pd2 rfl rfl rfl (by decide) (W := 0) rfl (by decide) (by decide) (by decide) fun T31 h31 v31 H31 q31 => ?_
  obtain ⟨z31, rfl, e1, qs, P1, O1, K1⟩ := q31
  show Go w _ _ 173 #[.val (.int u0), .val (.int u1), .val (.int u2), .val (.int u3), .val (.int u4), .val (.ref x), .val (.ref y), .val (.ref a), .val (.int (oN i8)), .val (.int (oN i9)), .val (.int (oN i10)), .val (.int (oN i11)), .val (.int (oN i12)), .val (.int (oN i13)), .val (.int (oN iq)), .val (.int (oN ib)), .unset] [(.int z31)]
  replace X := X.keep K1 (ninS nxp nin0); replace I := I.rp P1; replace O := O1; clear O1 K1 P1
  refine go_aload K H31 d8_173 rfl rfl ?_
  refine go_iload K H31 d8_175 rfl ?_
  refine go_iaload (iq) K H31 d8_177 (X) (oN_toInt (by omega)) (at_map2 hc) ?_
  refine go_icmp_ne K H31 d8_178 (fun cc => False.elim (by exact cc e1)) (fun cc => ?_)
  clear e1 hc c4
  refine go_iconst (1) K H31 d8_181 (by decide) ?_
  refine go_goto K H31 d8_182 ?_
  refine go_istore K H31 d8_186 (L' := #[.val (.int u0), .val (.int u1), .val (.int u2), .val (.int u3), .val (.int u4), .val (.ref x), .val (.ref y), .val (.ref a), .val (.int (oN i8)), .val (.int (oN i9)), .val (.int (oN i10)), .val (.int (oN i11)), .val (.int (oN i12)), .val (.int (oN i13)), .val (.int (oN iq)), .val (.int (oN ib)), .val (.int 1)]) rfl ?_
  refine go_iload K H31 d8_188 rfl ?_
  refine go_aload K H31 d8_190 rfl rfl ?_
  refine go_iconst (0) K H31 d8_192 (by decide) ?_
  show Go w _ _ 193 #[.val (.int u0), .val (.int u1), .val (.int u2), .val (.int u3), .val (.int u4), .val (.ref x), .val (.ref y), .val (.ref a), .val (.int (oN i8)), .val (.int (oN i9)), .val (.int (oN i10)), .val (.int (oN i11)), .val (.int (oN i12)), .val (.int (oN i13)), .val (.int (oN iq)), .val (.int (oN ib)), .val (.int 1)] [(.int (oN 0)), (.ref a), (.int 1)]
  obtain ⟨c, c4, hc⟩ := I.at (by decide : 0 < 4)
  refine go_callV [(.int (oN 0))] K H31 d8_193 (O.1) (hw _ (List.mem_of_getElem? (i := 51) rfl)) (hw _ (List.mem_of_getElem? (i := 22) rfl)) (nf_sel (hw _ (List.mem_of_getElem? (i := 24) rfl))) (hw _ (List.mem_of_getElem? (i := 24) rfl)) (hw _ (List.mem_of_getElem? (i := 23) rfl)) (hw _ (List.mem_of_getElem? (i := 3) rfl)) (hw _ (List.mem_of_getElem? (i := 25) rfl)) (st' := [(.int 1)]) (by decide) (rmRep Z a0 hw _ _ n0 (at_size K H31) _ _ _ _ _ _ O gp 0 c (by omega) (I.case hc)) pd2 rfl rfl rfl (by decide) (W := 1) rfl (by decide) (by decide) (by decide) fun T32 h32 v32 H32 q32 => ?_
  obtain ⟨z32, rfl, e1, qs, P1, O1, K1⟩ := q32
  show Go w _ _ 196 #[.val (.int u0), .val (.int u1), .val (.int u2), .val (.int u3), .val (.int u4), .val (.ref x), .val (.ref y), .val (.ref a), .val (.int (oN i8)), .val (.int (oN i9)), .val (.int (oN i10)), .val (.int (oN i11)), .val (.int (oN i12)), .val (.int (oN i13)), .val (.int (oN iq)), .val (.int (oN ib)), .val (.int 1)] [(.int z32), (.int 1)]
  replace X := X.keep K1 (ninS nxp nin0); replace I := I.rp P1; replace O := O1; clear O1 K1 P1
  refine go_aload K H32 d8_196 rfl rfl ?_
  refine go_iconst (0) K H32 d8_198 (by decide) ?_
  refine go_iaload (0) K H32 d8_199 (X) (by decide) (at_map2 hc) ?_
  refine go_icmp_ne K H32 d8_200 (fun cc => False.elim (by exact cc e1)) (fun cc => ?_)
  clear e1 hc c4
  refine go_iconst (1) K H32 d8_203 (by decide) ?_
  refine go_goto K H32 d8_204 ?_
  refine go_iand K H32 d8_208 fun v33 ev33 => ?_
  obtain rfl : v33 = (1 : Int32) := ev33.trans (by decide)
  refine go_istore K H32 d8_209 (L' := #[.val (.int u0), .val (.int u1), .val (.int u2), .val (.int u3), .val (.int u4), .val (.ref x), .val (.ref y), .val (.ref a), .val (.int (oN i8)), .val (.int (oN i9)), .val (.int (oN i10)), .val (.int (oN i11)), .val (.int (oN i12)), .val (.int (oN i13)), .val (.int (oN iq)), .val (.int (oN ib)), .val (.int 1)]) rfl ?_
  refine go_iload K H32 d8_211 rfl ?_
  refine go_aload K H32 d8_213 rfl rfl ?_
  refine go_iconst (1) K H32 d8_215 (by decide) ?_
  show Go w _ _ 216 #[.val (.int u0), .val (.int u1), .val (.int u2), .val (.int u3), .val (.int u4), .val (.ref x), .val (.ref y), .val (.ref a), .val (.int (oN i8)), .val (.int (oN i9)), .val (.int (oN i10)), .val (.int (oN i11)), .val (.int (oN i12)), .val (.int (oN i13)), .val (.int (oN iq)), .val (.int (oN ib)), .val (.int 1)] [(.int (oN 1)), (.ref a), (.int 1)]
  obtain ⟨c, c4, hc⟩ := I.at (by decide : 1 < 4)
  refine go_callV [(.int (oN 1))] K H32 d8_216 (O.1) (hw _ (List.mem_of_getElem? (i := 51) rfl)) (hw _ (List.mem_of_getElem? (i := 22) rfl)) (nf_sel (hw _ (List.mem_of_getElem? (i := 24) rfl))) (hw _ (List.mem_of_getElem? (i := 24) rfl)) (hw _ (List.mem_of_getElem? (i := 23) rfl)) (hw _ (List.mem_of_getElem? (i := 3) rfl)) (hw _ (List.mem_of_getElem? (i := 25) rfl)) (st' := [(.int 1)]) (by decide) (rmRep Z a0 hw _ _ n0 (at_size K H32) _ _ _ _ _ _ O gp 1 c (by omega) (I.case hc)) pd2 rfl rfl rfl (by decide) (W := 1) rfl (by decide) (by decide) (by decide) fun T34 h34 v34 H34 q34 => ?_
  obtain ⟨z34, rfl, e1, qs, P1, O1, K1⟩ := q34
  show Go w _ _ 219 #[.val (.int u0), .val (.int u1), .val (.int u2), .val (.int u3), .val (.int u4), .val (.ref x), .val (.ref y), .val (.ref a), .val (.int (oN i8)), .val (.int (oN i9)), .val (.int (oN i10)), .val (.int (oN i11)), .val (.int (oN i12)), .val (.int (oN i13)), .val (.int (oN iq)), .val (.int (oN ib)), .val (.int 1)] [(.int z34), (.int 1)]
  replace X := X.keep K1 (ninS nxp nin0); replace I := I.rp P1; replace O := O1; clear O1 K1 P1
  refine go_aload K H34 d8_219 rfl rfl ?_
  refine go_iconst (1) K H34 d8_221 (by decide) ?_
  refine go_iaload (1) K H34 d8_222 (X) (by decide) (at_map2 hc) ?_
  refine go_icmp_ne K H34 d8_223 (fun cc => False.elim (by exact cc e1)) (fun cc => ?_)
  clear e1 hc c4
  refine go_iconst (1) K H34 d8_226 (by decide) ?_
  refine go_goto K H34 d8_227 ?_
  refine go_iand K H34 d8_231 fun v35 ev35 => ?_
  obtain rfl : v35 = (1 : Int32) := ev35.trans (by decide)
  refine go_istore K H34 d8_232 (L' := #[.val (.int u0), .val (.int u1), .val (.int u2), .val (.int u3), .val (.int u4), .val (.ref x), .val (.ref y), .val (.ref a), .val (.int (oN i8)), .val (.int (oN i9)), .val (.int (oN i10)), .val (.int (oN i11)), .val (.int (oN i12)), .val (.int (oN i13)), .val (.int (oN iq)), .val (.int (oN ib)), .val (.int 1)]) rfl ?_
  refine go_iload K H34 d8_234 rfl ?_
  refine go_aload K H34 d8_236 rfl rfl ?_
  refine go_iconst (2) K H34 d8_238 (by decide) ?_
  show Go w _ _ 239 #[.val (.int u0), .val (.int u1), .val (.int u2), .val (.int u3), .val (.int u4), .val (.ref x), .val (.ref y), .val (.ref a), .val (.int (oN i8)), .val (.int (oN i9)), .val (.int (oN i10)), .val (.int (oN i11)), .val (.int (oN i12)), .val (.int (oN i13)), .val (.int (oN iq)), .val (.int (oN ib)), .val (.int 1)] [(.int (oN 2)), (.ref a), (.int 1)]
  obtain ⟨c, c4, hc⟩ := I.at (by decide : 2 < 4)
  refine go_callV [(.int (oN 2))] K H34 d8_239 (O.1) (hw _ (List.mem_of_getElem? (i := 51) rfl)) (hw _ (List.mem_of_getElem? (i := 22) rfl)) (nf_sel (hw _ (List.mem_of_getElem? (i := 24) rfl))) (hw _ (List.mem_of_getElem? (i := 24) rfl)) (hw _ (List.mem_of_getElem? (i := 23) rfl)) (hw _ (List.mem_of_getElem? (i := 3) rfl)) (hw _ (List.mem_of_getElem? (i := 25) rfl)) (st' := [(.int 1)]) (by decide) (rmRep Z a0 hw _ _ n0 (at_size K H34) _ _ _ _ _ _ O gp 2 c (by omega) (I.case hc)) pd2 rfl rfl rfl (by decide) (W := 1) rfl (by decide) (by decide) (by decide) fun T36 h36 v36 H36 q36 => ?_
  obtain ⟨z36, rfl, e1, qs, P1, O1, K1⟩ := q36
  show Go w _ _ 242 #[.val (.int u0), .val (.int u1), .val (.int u2), .val (.int u3), .val (.int u4), .val (.ref x), .val (.ref y), .val (.ref a), .val (.int (oN i8)), .val (.int (oN i9)), .val (.int (oN i10)), .val (.int (oN i11)), .val (.int (oN i12)), .val (.int (oN i13)), .val (.int (oN iq)), .val (.int (oN ib)), .val (.int 1)] [(.int z36), (.int 1)]
  replace X := X.keep K1 (ninS nxp nin0); replace I := I.rp P1; replace O := O1; clear O1 K1 P1
  refine go_aload K H36 d8_242 rfl rfl ?_
  refine go_iconst (2) K H36 d8_244 (by decide) ?_
  refine go_iaload (2) K H36 d8_245 (X) (by decide) (at_map2 hc) ?_
  refine go_icmp_ne K H36 d8_246 (fun cc => False.elim (by exact cc e1)) (fun cc => ?_)
  clear e1 hc c4
  refine go_iconst (1) K H36 d8_249 (by decide) ?_
  refine go_goto K H36 d8_250 ?_
  refine go_iand K H36 d8_254 fun v37 ev37 => ?_
  obtain rfl : v37 = (1 : Int32) := ev37.trans (by decide)
  refine go_istore K H36 d8_255 (L' := #[.val (.int u0), .val (.int u1), .val (.int u2), .val (.int u3), .val (.int u4), .val (.ref x), .val (.ref y), .val (.ref a), .val (.int (oN i8)), .val (.int (oN i9)), .val (.int (oN i10)), .val (.int (oN i11)), .val (.int (oN i12)), .val (.int (oN i13)), .val (.int (oN iq)), .val (.int (oN ib)), .val (.int 1)]) rfl ?_
  refine go_iload K H36 d8_257 rfl ?_
  refine go_aload K H36 d8_259 rfl rfl ?_
  refine go_iconst (3) K H36 d8_261 (by decide) ?_
  show Go w _ _ 262 #[.val (.int u0), .val (.int u1), .val (.int u2), .val (.int u3), .val (.int u4), .val (.ref x), .val (.ref y), .val (.ref a), .val (.int (oN i8)), .val (.int (oN i9)), .val (.int (oN i10)), .val (.int (oN i11)), .val (.int (oN i12)), .val (.int (oN i13)), .val (.int (oN iq)), .val (.int (oN ib)), .val (.int 1)] [(.int (oN 3)), (.ref a), (.int 1)]
  obtain ⟨c, c4, hc⟩ := I.at (by decide : 3 < 4)
  refine go_callV [(.int (oN 3))] K H36 d8_262 (O.1) (hw _ (List.mem_of_getElem? (i := 51) rfl)) (hw _ (List.mem_of_getElem? (i := 22) rfl)) (nf_sel (hw _ (List.mem_of_getElem? (i := 24) rfl))) (hw _ (List.mem_of_getElem? (i := 24) rfl)) (hw _ (List.mem_of_getElem? (i := 23) rfl)) (hw _ (List.mem_of_getElem? (i := 3) rfl)) (hw _ (List.mem_of_getElem? (i := 25) rfl)) (st' := [(.int 1)]) (by decide) (rmRep Z a0 hw _ _ n0 (at_size K H36) _ _ _ _ _ _ O gp 3 c (by omega) (I.case hc)) pd2 rfl rfl rfl (by decide) (W := 1) rfl (by decide) (by decide) (by decide) fun T38 h38 v38 H38 q38 => ?_
  obtain ⟨z38, rfl, e1, qs, P1, O1, K1⟩ := q38
  show Go w _ _ 265 #[.val (.int u0), .val (.int u1), .val (.int u2), .val (.int u3), .val (.int u4), .val (.ref x), .val (.ref y), .val (.ref a), .val (.int (oN i8)), .val (.int (oN i9)), .val (.int (oN i10)), .val (.int (oN i11)), .val (.int (oN i12)), .val (.int (oN i13)), .val (.int (oN iq)), .val (.int (oN ib)), .val (.int 1)] [(.int z38), (.int 1)]
  replace X := X.keep K1 (ninS nxp nin0); replace I := I.rp P1; replace O := O1; clear O1 K1 P1
  refine go_aload K H38 d8_265 rfl rfl ?_
  refine go_iconst (3) K H38 d8_267 (by decide) ?_
  refine go_iaload (3) K H38 d8_268 (X) (by decide) (at_map2 hc) ?_
  refine go_icmp_ne K H38 d8_269 (fun cc => False.elim (by exact cc e1)) (fun cc => ?_)
  clear e1 hc c4
  refine go_iconst (1) K H38 d8_272 (by decide) ?_
  refine go_goto K H38 d8_273 ?_
  refine go_iand K H38 d8_277 fun v39 ev39 => ?_
  obtain rfl : v39 = (1 : Int32) := ev39.trans (by decide)
  refine go_istore K H38 d8_278 (L' := #[.val (.int u0), .val (.int u1), .val (.int u2), .val (.int u3), .val (.int u4), .val (.ref x), .val (.ref y), .val (.ref a), .val (.int (oN i8)), .val (.int (oN i9)), .val (.int (oN i10)), .val (.int (oN i11)), .val (.int (oN i12)), .val (.int (oN i13)), .val (.int (oN iq)), .val (.int (oN ib)), .val (.int 1)]) rfl ?_
  refine go_iload K H38 d8_280 rfl ?_
  refine go_aload K H38 d8_282 rfl rfl ?_
  refine go_iload K H38 d8_284 rfl ?_
  have hcb : (ib < qs.length ∧ ∃ k, Rk qs k ib ib) ∨ (qs.length ≤ ib ∧ ib = ib) := by
    by_cases q : ib < List.length qs
    · exact Or.inl ⟨q, 0, rfl, I.2.2.2.2.2.2.2.1 ib hb4 q⟩
    · exact Or.inr ⟨Nat.le_of_not_lt q, rfl⟩
  refine go_callV [(.int (oN ib))] K H38 d8_286 (O.1) (hw _ (List.mem_of_getElem? (i := 51) rfl)) (hw _ (List.mem_of_getElem? (i := 22) rfl)) (nf_sel (hw _ (List.mem_of_getElem? (i := 24) rfl))) (hw _ (List.mem_of_getElem? (i := 24) rfl)) (hw _ (List.mem_of_getElem? (i := 23) rfl)) (hw _ (List.mem_of_getElem? (i := 3) rfl)) (hw _ (List.mem_of_getElem? (i := 25) rfl)) (st' := [(.int 1)]) (by decide) (rmRep Z a0 hw _ _ n0 (at_size K H38) _ _ _ _ _ _ O gp ib ib (by omega) hcb) pd2 rfl rfl rfl (by decide) (W := 1) rfl (by decide) (by decide) (by decide) fun T40 h40 v40 H40 q40 => ?_
  obtain ⟨z40, rfl, e1, qs', P1, O1, K1⟩ := q40
  show Go w _ _ 289 #[.val (.int u0), .val (.int u1), .val (.int u2), .val (.int u3), .val (.int u4), .val (.ref x), .val (.ref y), .val (.ref a), .val (.int (oN i8)), .val (.int (oN i9)), .val (.int (oN i10)), .val (.int (oN i11)), .val (.int (oN i12)), .val (.int (oN i13)), .val (.int (oN iq)), .val (.int (oN ib)), .val (.int 1)] [(.int z40), (.int 1)]
  refine go_iload K H40 d8_289 rfl ?_
  refine go_icmp_ne K H40 d8_291 (fun cc => False.elim (by exact cc e1)) (fun cc => ?_)
  refine go_iconst (1) K H40 d8_294 (by decide) ?_
  refine go_goto K H40 d8_295 ?_
  refine go_iand K H40 d8_299 fun v41 ev41 => ?_
  obtain rfl : v41 = (1 : Int32) := ev41.trans (by decide)
  refine go_istore K H40 d8_300 (L' := #[.val (.int u0), .val (.int u1), .val (.int u2), .val (.int u3), .val (.int u4), .val (.ref x), .val (.ref y), .val (.ref a), .val (.int (oN i8)), .val (.int (oN i9)), .val (.int (oN i10)), .val (.int (oN i11)), .val (.int (oN i12)), .val (.int (oN i13)), .val (.int (oN iq)), .val (.int (oN ib)), .val (.int 1)]) rfl ?_
  refine go_iload K H40 d8_302 rfl ?_
  exact go_zret K H40 d8_304 rfl (by decide) (by decide) (by decide) (rfl)
set_option maxRecDepth 65536 in
set_option maxHeartbeats 40000000 in
theorem own_law (l : Launch) (s : State) (args : Array Value) (hF : heapFits s = true) (hrest : True) (hg : (Jvm.Cond.and given_1 narrow_1).value args s none s [] = some true) (hw : ∀ d ∈ tables_1, d.before args s = true) : Con l s x code maxLocals ret room_1 args s.heap s.heap.size (RI fun z _ => z = 1) := by
  obtain ⟨hg, hn⟩ := and_e hg
  obtain ⟨g0, hg⟩ := and_e hg
  obtain ⟨w0, w1, w2, w3, w4, rfl⟩ : ∃ w0 w1 w2 w3 w4 : Value, args = #[w0, w1, w2, w3, w4] := by
    have hs : args.size = 5 := by simpa [Cond.value, given_1] using g0
    obtain ⟨L⟩ := args
    match L, hs with
    | [w0, w1, w2, w3, w4], _ => exact ⟨w0, w1, w2, w3, w4, rfl⟩
  obtain ⟨g1, hg⟩ := and_e hg
  obtain ⟨i0, ei0⟩ := is_v g1
  obtain rfl : w0 = (.int i0) := Option.some.inj ei0
  obtain ⟨g2, hg⟩ := and_e hg
  obtain ⟨i1, ei1⟩ := is_v g2
  obtain rfl : w1 = (.int i1) := Option.some.inj ei1
  obtain ⟨g3, hg⟩ := and_e hg
  obtain ⟨i2, ei2⟩ := is_v g3
  obtain rfl : w2 = (.int i2) := Option.some.inj ei2
  obtain ⟨g4, hg⟩ := and_e hg
  obtain ⟨i3, ei3⟩ := is_v g4
  obtain rfl : w3 = (.int i3) := Option.some.inj ei3
  obtain ⟨i4, ei4⟩ := is_v hg
  obtain rfl : w4 = (.int i4) := Option.some.inj ei4
  exact rm0 s _ hw i0 i1 i2 i3 i4 s.heap s.heap.size (Nat.le_refl _)  l
theorem main_1_1 : Claimed_1_1 := own_comes (ck := 32) (sk := 192) (fun _ _ _ _ _ _ h hF => ⟨h.1, hF⟩) (by decide) (by decide) fun l _ _ s args hF hr hg hw => own_law l s args hF trivial hg hw
theorem main_1_2 : Claimed_1_2 := own_comes (ck := 32) (sk := 192) (fun _ _ _ _ _ _ h hF => ⟨h.2, hF⟩) (by decide) (by decide) fun l _ _ s args hF hr hg hw => own_law l s args hF trivial hg hw
end Jvm.Pilot.@@N@@
namespace Jvm.Pilot.@@N@@
open Jvm Jvm.ClassFile Sem Op Lib Jvm.Free Jvm.Stand Jvm.Pilot.@@N@@.Jvm.D
/-! MADE BY PROGRAM (witnessworld.py) out of the Statement's table words and the real class files: 12 classes; the members and pool entries that the words name. The judged class is class 1, her method 1. -/
namespace start1
open Jvm.ClassFile
def u (s : String) : CpInfo := .utf8 (stringToUtf16 s)
/-- a pool by its gaps: so many unusable entries, then the entry; so many at the end -/
def gap : Nat → List CpInfo → List CpInfo
  | 0, r => r
  | n + 1, r => .unusable :: gap n r
def poolList (es : List (Nat × CpInfo)) (last : Nat) : List CpInfo := es.foldr (fun e r => gap e.1 (e.2 :: r)) (gap last [])
def pool (es : List (Nat × CpInfo)) (last : Nat) : Array CpInfo := ⟨poolList es last⟩
def fileOf (pool : Array CpInfo) (this : Nat) (attrs : Array Attribute := #[]) (ms : Array MethodInfo := #[]) (fl : Nat := 33) (sup : Nat := 0) (ifs : Array Nat := #[]) (fds : Array FieldInfo := #[]) : ClassFile where
  minorVersion := 0
  majorVersion := 65
  constantPool := pool
  accessFlags := fl
  thisClass := this
  superClass := sup
  interfaces := ifs
  fields := fds
  methods := ms
  attributes := attrs
def plain (name : String) (sup : Option ClassId) : Class where
  name := name
  kind := .ordinary
  loader := none
  accessFlags := 33
  super := sup
  interfaces := #[]
  cf := none
  fields := #[]
  methods := #[]
  instanceTypes := #[]
  staticTypes := #[]
  resolved := #[]
  callSites := []
  init := .initialized
  statics := none
  mirror := none

def pool0 : Array CpInfo := pool [(5, u "<init>"), (0, u "()V"), (1, .class_ 10), (1, u "java/lang/Object")] 113

def k0c0 : Code := { maxStack := 0, maxLocals := 1, code := object_method_1_code, exceptionTable := #[], attributes := #[] }
def k0m0 : Method := { name := "<init>", desc := "()V", sig := { parameters := [], returnType := none }, accessFlags := 1, code := some k0c0 }
/-- java/lang/Object -/
def k0 : Class := { plain "java/lang/Object" none with
  accessFlags := 33
  interfaces := #[]
  cf := some (fileOf pool0 8 #[] #[{ accessFlags := 1, nameIndex := 5, descriptorIndex := 6, attributes := #[] }] 33 0 #[] #[])
  fields := #[]
  methods := #[k0m0]
  instanceTypes := #[]
  staticTypes := #[]
  resolved := Array.replicate 124 none
  statics := none }

def pool1 : Array CpInfo := pool [(2, .class_ 4), (0, .nameAndType 5 6), (0, u "java/lang/Object"), (0, u "<init>"), (0, u "()V"), (0, .class_ 8), (0, u "com/example/entailor/entailor/store/EqualTerms"), (0, .methodref 7 3), (0, .methodref 7 11), (0, .nameAndType 12 13), (0, u "merge"), (0, u "(II)I"), (0, .methodref 15 16), (0, .class_ 17), (0, .nameAndType 18 19), (0, u "com/example/entailor/entailor/store/EqualTermsRepresentativePinLaw"), (0, u "mergeRef"), (0, u "([I[III)V"), (0, .integer 2147483647), (0, .methodref 22 23), (0, .class_ 24), (0, .nameAndType 25 13), (0, u "java/lang/Math"), (0, u "max"), (0, .methodref 7 27), (0, .nameAndType 28 29), (0, u "representative"), (0, u "(I)I"), (2, u "law"), (0, u "(IIIII)Z")] 5

def k1m0 : Method := { name := "<init>", desc := "()V", sig := { parameters := [], returnType := none }, accessFlags := 1, code := none }
def k1c1 : Code := { maxStack := 4, maxLocals := 17, code := code, exceptionTable := #[], attributes := #[] }
def k1m1 : Method := { name := "law", desc := "(IIIII)Z", sig := { parameters := [.int, .int, .int, .int, .int], returnType := some .boolean }, accessFlags := 9, code := some k1c1 }
def k1c2 : Code := { maxStack := 5, maxLocals := 9, code := method_3_code, exceptionTable := #[], attributes := #[] }
def k1m2 : Method := { name := "mergeRef", desc := "([I[III)V", sig := { parameters := [(.array .int), (.array .int), .int, .int], returnType := none }, accessFlags := 10, code := some k1c2 }
/-- com/example/entailor/entailor/store/EqualTermsRepresentativePinLaw -/
def k1 : Class := { plain "com/example/entailor/entailor/store/EqualTermsRepresentativePinLaw" (some 0) with
  accessFlags := 49
  interfaces := #[]
  cf := some (fileOf pool1 15 #[] #[{ accessFlags := 1, nameIndex := 5, descriptorIndex := 6, attributes := #[] }, { accessFlags := 9, nameIndex := 32, descriptorIndex := 33, attributes := #[] }, { accessFlags := 10, nameIndex := 18, descriptorIndex := 19, attributes := #[] }] 49 2 #[] #[])
  fields := #[]
  methods := #[k1m0, k1m1, k1m2]
  instanceTypes := #[]
  staticTypes := #[]
  resolved := Array.replicate 39 none
  statics := none }

def pool2 : Array CpInfo := pool [(1, .methodref 2 3), (0, .class_ 4), (0, .nameAndType 5 6), (0, u "java/lang/Object"), (0, u "<init>"), (0, u "()V"), (0, .fieldref 8 9), (0, .class_ 10), (0, .nameAndType 11 12), (0, u "com/example/entailor/entailor/store/EqualTerms"), (0, u "parent"), (0, u "[I"), (0, .fieldref 8 14), (0, .nameAndType 15 12), (0, u "size"), (0, .fieldref 8 17), (0, .nameAndType 18 12), (0, u "ring"), (0, .methodref 8 20), (0, .nameAndType 21 22), (0, u "representative"), (0, u "(I)I"), (0, .methodref 24 25), (0, .class_ 26), (0, .nameAndType 27 28), (0, u "java/lang/Math"), (0, u "max"), (0, u "(II)I"), (0, .methodref 8 30), (0, .nameAndType 31 32), (0, u "ensure"), (0, u "(I)V"), (0, .methodref 34 35), (0, .class_ 36), (0, .nameAndType 37 38), (0, u "java/util/Arrays"), (0, u "copyOf"), (0, u "([II)[I"), (4, u "merge")] 3

def k2c0 : Code := { maxStack := 2, maxLocals := 1, code := prog_122_method_1_code, exceptionTable := #[], attributes := #[] }
def k2m0 : Method := { name := "<init>", desc := "()V", sig := { parameters := [], returnType := none }, accessFlags := 1, code := some k2c0 }
def k2c1 : Code := { maxStack := 5, maxLocals := 3, code := prog_122_method_2_code, exceptionTable := #[], attributes := #[] }
def k2m1 : Method := { name := "representative", desc := "(I)I", sig := { parameters := [.int], returnType := some .int }, accessFlags := 1, code := some k2c1 }
def k2c2 : Code := { maxStack := 5, maxLocals := 9, code := prog_122_method_5_code, exceptionTable := #[], attributes := #[] }
def k2m2 : Method := { name := "merge", desc := "(II)I", sig := { parameters := [.int, .int], returnType := some .int }, accessFlags := 1, code := some k2c2 }
def k2c3 : Code := { maxStack := 3, maxLocals := 5, code := prog_122_method_7_code, exceptionTable := #[], attributes := #[] }
def k2m3 : Method := { name := "ensure", desc := "(I)V", sig := { parameters := [.int], returnType := none }, accessFlags := 2, code := some k2c3 }
/-- com/example/entailor/entailor/store/EqualTerms -/
def k2 : Class := { plain "com/example/entailor/entailor/store/EqualTerms" (some 0) with
  accessFlags := 49
  interfaces := #[]
  cf := some (fileOf pool2 8 #[] #[{ accessFlags := 1, nameIndex := 5, descriptorIndex := 6, attributes := #[] }, { accessFlags := 1, nameIndex := 21, descriptorIndex := 22, attributes := #[] }, { accessFlags := 1, nameIndex := 43, descriptorIndex := 28, attributes := #[] }, { accessFlags := 2, nameIndex := 31, descriptorIndex := 32, attributes := #[] }] 49 2 #[] #[{ accessFlags := 2, nameIndex := 11, descriptorIndex := 12, attributes := #[] }, { accessFlags := 2, nameIndex := 15, descriptorIndex := 12, attributes := #[] }, { accessFlags := 2, nameIndex := 18, descriptorIndex := 12, attributes := #[] }])
  fields := #[{ name := "parent", type := (.array .int), accessFlags := 2, slot := 0, constantValue := 0 }, { name := "size", type := (.array .int), accessFlags := 2, slot := 1, constantValue := 0 }, { name := "ring", type := (.array .int), accessFlags := 2, slot := 2, constantValue := 0 }]
  methods := #[k2m0, k2m1, k2m2, k2m3]
  instanceTypes := #[(.array .int), (.array .int), (.array .int)]
  staticTypes := #[]
  resolved := Array.replicate 47 none
  statics := none }

def pool3 : Array CpInfo := pool [(1, .class_ 2), (0, u "java/lang/Math"), (1, .class_ 6), (1, u "java/lang/Object"), (0, u "<init>"), (0, u "()V"), (89, .class_ 100), (1, u "java/lang/Math$RandomNumberGeneratorHolder"), (71, u "negativeZeroFloatBits"), (0, u "J"), (2, u "negativeZeroDoubleBits"), (21, u "max"), (2, u "min"), (43, u "$assertionsDisabled"), (0, u "Z"), (88, u "(II)I"), (2, u "twoToTheDoubleScaleDown"), (0, u "D"), (4, u "twoToTheDoubleScaleUp"), (9, u "E"), (3, u "PI"), (2, u "TAU"), (2, u "DEGREES_TO_RADIANS"), (0, u "RADIANS_TO_DEGREES")] 94

def k3m0 : Method := { name := "<init>", desc := "()V", sig := { parameters := [], returnType := none }, accessFlags := 2, code := none }
def k3c1 : Code := { maxStack := 2, maxLocals := 2, code := jdk_29_method_65_code, exceptionTable := #[], attributes := #[] }
def k3m1 : Method := { name := "max", desc := "(II)I", sig := { parameters := [.int, .int], returnType := some .int }, accessFlags := 9, code := some k3c1 }
def k3c2 : Code := { maxStack := 2, maxLocals := 2, code := jdk_29_method_69_code, exceptionTable := #[], attributes := #[] }
def k3m2 : Method := { name := "min", desc := "(II)I", sig := { parameters := [.int, .int], returnType := some .int }, accessFlags := 9, code := some k3c2 }
/-- java/lang/Math -/
def k3 : Class := { plain "java/lang/Math" (some 0) with
  accessFlags := 49
  interfaces := #[]
  cf := some (fileOf pool3 1 #[.nestMembers #[98]] #[{ accessFlags := 2, nameIndex := 7, descriptorIndex := 8, attributes := #[] }, { accessFlags := 9, nameIndex := 198, descriptorIndex := 335, attributes := #[] }, { accessFlags := 9, nameIndex := 201, descriptorIndex := 335, attributes := #[] }] 49 4 #[] #[{ accessFlags := 25, nameIndex := 354, descriptorIndex := 339, attributes := #[] }, { accessFlags := 25, nameIndex := 358, descriptorIndex := 339, attributes := #[] }, { accessFlags := 25, nameIndex := 361, descriptorIndex := 339, attributes := #[] }, { accessFlags := 26, nameIndex := 364, descriptorIndex := 339, attributes := #[] }, { accessFlags := 26, nameIndex := 365, descriptorIndex := 339, attributes := #[] }, { accessFlags := 26, nameIndex := 172, descriptorIndex := 173, attributes := #[] }, { accessFlags := 26, nameIndex := 176, descriptorIndex := 173, attributes := #[] }, { accessFlags := 8, nameIndex := 344, descriptorIndex := 339, attributes := #[] }, { accessFlags := 8, nameIndex := 338, descriptorIndex := 339, attributes := #[] }, { accessFlags := 4120, nameIndex := 245, descriptorIndex := 246, attributes := #[] }])
  fields := #[{ name := "E", type := .double, accessFlags := 25, slot := 0, constantValue := 0 }, { name := "PI", type := .double, accessFlags := 25, slot := 1, constantValue := 0 }, { name := "TAU", type := .double, accessFlags := 25, slot := 2, constantValue := 0 }, { name := "DEGREES_TO_RADIANS", type := .double, accessFlags := 26, slot := 3, constantValue := 0 }, { name := "RADIANS_TO_DEGREES", type := .double, accessFlags := 26, slot := 4, constantValue := 0 }, { name := "negativeZeroFloatBits", type := .long, accessFlags := 26, slot := 5, constantValue := 0 }, { name := "negativeZeroDoubleBits", type := .long, accessFlags := 26, slot := 6, constantValue := 0 }, { name := "twoToTheDoubleScaleUp", type := .double, accessFlags := 8, slot := 7, constantValue := 0 }, { name := "twoToTheDoubleScaleDown", type := .double, accessFlags := 8, slot := 8, constantValue := 0 }, { name := "$assertionsDisabled", type := .boolean, accessFlags := 4120, slot := 9, constantValue := 0 }]
  methods := #[k3m0, k3m1, k3m2]
  instanceTypes := #[]
  staticTypes := #[.double, .double, .double, .double, .double, .long, .long, .double, .double, .boolean]
  resolved := Array.replicate 460 none
  statics := none }

def pool4 : Array CpInfo := pool [(2, .class_ 4), (1, u "java/lang/Object"), (0, u "<init>"), (0, u "()V"), (7, .class_ 16), (1, u "java/util/Arrays"), (57, .class_ 76), (1, u "java/util/Arrays$NaturalOrder"), (36, .class_ 115), (1, u "java/util/Arrays$LegacyMergeSort"), (1, u "Z"), (32, .methodref 151 152), (0, .class_ 153), (0, .nameAndType 154 155), (0, u "java/lang/System"), (0, u "arraycopy"), (0, u "(Ljava/lang/Object;ILjava/lang/Object;II)V"), (146, u "copyOf"), (1, .methodref 305 306), (0, .class_ 307), (0, .nameAndType 308 309), (0, u "java/lang/Math"), (0, u "min"), (0, u "(II)I"), (65, .class_ 376), (0, u "java/util/Arrays$ArrayList"), (68, u "$assertionsDisabled"), (269, u "MIN_ARRAY_SORT_GRAN"), (0, u "I"), (2, u "INSERTIONSORT_THRESHOLD"), (151, u "([II)[I"), (103, .class_ 976), (0, u "java/util/Arrays$ArrayItr")] 52

def k4m0 : Method := { name := "<init>", desc := "()V", sig := { parameters := [], returnType := none }, accessFlags := 2, code := none }
def k4c1 : Code := { maxStack := 6, maxLocals := 3, code := jdk_65_method_123_code, exceptionTable := #[], attributes := #[] }
def k4m1 : Method := { name := "copyOf", desc := "([II)[I", sig := { parameters := [(.array .int), .int], returnType := some (.array .int) }, accessFlags := 9, code := some k4c1 }
/-- java/util/Arrays -/
def k4 : Class := { plain "java/util/Arrays" (some 0) with
  accessFlags := 49
  interfaces := #[]
  cf := some (fileOf pool4 14 #[.nestMembers #[975, 375, 113, 74]] #[{ accessFlags := 2, nameIndex := 5, descriptorIndex := 6, attributes := #[] }, { accessFlags := 9, nameIndex := 302, descriptorIndex := 871, attributes := #[] }] 49 2 #[] #[{ accessFlags := 26, nameIndex := 715, descriptorIndex := 716, attributes := #[] }, { accessFlags := 26, nameIndex := 719, descriptorIndex := 716, attributes := #[] }, { accessFlags := 4120, nameIndex := 445, descriptorIndex := 117, attributes := #[] }])
  fields := #[{ name := "MIN_ARRAY_SORT_GRAN", type := .int, accessFlags := 26, slot := 0, constantValue := 0 }, { name := "INSERTIONSORT_THRESHOLD", type := .int, accessFlags := 26, slot := 1, constantValue := 0 }, { name := "$assertionsDisabled", type := .boolean, accessFlags := 4120, slot := 2, constantValue := 0 }]
  methods := #[k4m0, k4m1]
  instanceTypes := #[]
  staticTypes := #[.int, .int, .boolean]
  resolved := Array.replicate 1029 none
  statics := none }

def pool5 : Array CpInfo := pool [(2, .class_ 4), (1, u "java/lang/Object"), (0, u "<init>"), (0, u "()V"), (1, .class_ 10), (1, u "java/lang/System"), (0, u "allowSecurityManager"), (0, u "I"), (16, u "cons"), (0, u "Ljava/io/Console;"), (77, .class_ 110), (1, u "java/lang/System$CallersHolder"), (43, u "initialErrStream"), (0, u "Ljava/io/PrintStream;"), (19, u "security"), (0, u "Ljava/lang/SecurityManager;"), (31, .class_ 209), (0, u "java/lang/System$1"), (7, u "props"), (0, u "Ljava/util/Properties;"), (2, u "lineSeparator"), (0, u "Ljava/lang/String;"), (96, .class_ 321), (1, u "java/lang/System$LoggerFinder"), (5, .class_ 328), (0, u "java/lang/System$Logger"), (67, u "err"), (2, u "out"), (91, u "notSupportedJnuEncoding"), (15, u "in"), (17, u "initialIn"), (0, u "Ljava/io/InputStream;"), (35, u "bootLayer"), (0, u "Ljava/lang/ModuleLayer;"), (99, .class_ 664), (0, u "java/lang/System$2"), (9, u "NEVER"), (2, u "MAYBE"), (49, u "arraycopy"), (0, u "(Ljava/lang/Object;ILjava/lang/Object;II)V"), (72, .class_ 802), (0, u "java/lang/System$Logger$Level")] 31

def k5m0 : Method := { name := "<init>", desc := "()V", sig := { parameters := [], returnType := none }, accessFlags := 2, code := none }
def k5m1 : Method := { name := "arraycopy", desc := "(Ljava/lang/Object;ILjava/lang/Object;II)V", sig := { parameters := [(.object "java/lang/Object"), .int, (.object "java/lang/Object"), .int, .int], returnType := none }, accessFlags := 265, code := none }
/-- java/lang/System -/
def k5 : Class := { plain "java/lang/System" (some 0) with
  accessFlags := 49
  interfaces := #[]
  cf := some (fileOf pool5 8 #[.nestMembers #[319, 327, 801, 108, 663, 208]] #[{ accessFlags := 2, nameIndex := 5, descriptorIndex := 6, attributes := #[] }, { accessFlags := 265, nameIndex := 727, descriptorIndex := 728, attributes := #[] }] 49 2 #[] #[{ accessFlags := 25, nameIndex := 507, descriptorIndex := 526, attributes := #[] }, { accessFlags := 25, nameIndex := 399, descriptorIndex := 155, attributes := #[] }, { accessFlags := 25, nameIndex := 396, descriptorIndex := 155, attributes := #[] }, { accessFlags := 10, nameIndex := 525, descriptorIndex := 526, attributes := #[] }, { accessFlags := 26, nameIndex := 674, descriptorIndex := 12, attributes := #[] }, { accessFlags := 26, nameIndex := 677, descriptorIndex := 12, attributes := #[] }, { accessFlags := 10, nameIndex := 11, descriptorIndex := 12, attributes := #[] }, { accessFlags := 74, nameIndex := 175, descriptorIndex := 176, attributes := #[] }, { accessFlags := 10, nameIndex := 491, descriptorIndex := 222, attributes := #[] }, { accessFlags := 74, nameIndex := 29, descriptorIndex := 30, attributes := #[] }, { accessFlags := 74, nameIndex := 154, descriptorIndex := 155, attributes := #[] }, { accessFlags := 10, nameIndex := 217, descriptorIndex := 218, attributes := #[] }, { accessFlags := 10, nameIndex := 221, descriptorIndex := 222, attributes := #[] }, { accessFlags := 8, nameIndex := 562, descriptorIndex := 563, attributes := #[] }])
  fields := #[{ name := "in", type := (.object "java/io/InputStream"), accessFlags := 25, slot := 0, constantValue := 0 }, { name := "out", type := (.object "java/io/PrintStream"), accessFlags := 25, slot := 1, constantValue := 0 }, { name := "err", type := (.object "java/io/PrintStream"), accessFlags := 25, slot := 2, constantValue := 0 }, { name := "initialIn", type := (.object "java/io/InputStream"), accessFlags := 10, slot := 3, constantValue := 0 }, { name := "NEVER", type := .int, accessFlags := 26, slot := 4, constantValue := 0 }, { name := "MAYBE", type := .int, accessFlags := 26, slot := 5, constantValue := 0 }, { name := "allowSecurityManager", type := .int, accessFlags := 10, slot := 6, constantValue := 0 }, { name := "security", type := (.object "java/lang/SecurityManager"), accessFlags := 74, slot := 7, constantValue := 0 }, { name := "notSupportedJnuEncoding", type := (.object "java/lang/String"), accessFlags := 10, slot := 8, constantValue := 0 }, { name := "cons", type := (.object "java/io/Console"), accessFlags := 74, slot := 9, constantValue := 0 }, { name := "initialErrStream", type := (.object "java/io/PrintStream"), accessFlags := 74, slot := 10, constantValue := 0 }, { name := "props", type := (.object "java/util/Properties"), accessFlags := 10, slot := 11, constantValue := 0 }, { name := "lineSeparator", type := (.object "java/lang/String"), accessFlags := 10, slot := 12, constantValue := 0 }, { name := "bootLayer", type := (.object "java/lang/ModuleLayer"), accessFlags := 8, slot := 13, constantValue := 0 }]
  methods := #[k5m0, k5m1]
  instanceTypes := #[]
  staticTypes := #[(.object "java/io/InputStream"), (.object "java/io/PrintStream"), (.object "java/io/PrintStream"), (.object "java/io/InputStream"), .int, .int, .int, (.object "java/lang/SecurityManager"), (.object "java/lang/String"), (.object "java/io/Console"), (.object "java/io/PrintStream"), (.object "java/util/Properties"), (.object "java/lang/String"), (.object "java/lang/ModuleLayer")]
  resolved := Array.replicate 834 none
  statics := none }

def pool6 : Array CpInfo := pool [(1, u "java/lang/Cloneable"), (0, .class_ 1), (0, u "java/lang/Object"), (0, .class_ 3)] 3

/-- java/lang/Cloneable -/
def k6 : Class := { plain "java/lang/Cloneable" (some 0) with
  accessFlags := 1537
  interfaces := #[]
  cf := some (fileOf pool6 2 #[] #[] 1537 4 #[] #[])
  fields := #[]
  methods := #[]
  instanceTypes := #[]
  staticTypes := #[]
  resolved := Array.replicate 8 none
  statics := none }

def pool7 : Array CpInfo := pool [(1, u "java/io/Serializable"), (0, .class_ 1), (0, u "java/lang/Object"), (0, .class_ 3)] 3

/-- java/io/Serializable -/
def k7 : Class := { plain "java/io/Serializable" (some 0) with
  accessFlags := 1537
  interfaces := #[]
  cf := some (fileOf pool7 2 #[] #[] 1537 4 #[] #[])
  fields := #[]
  methods := #[]
  instanceTypes := #[]
  staticTypes := #[]
  resolved := Array.replicate 8 none
  statics := none }

/-- the primitive byte -/
def k8 : Class := { plain "byte" none with kind := .primitive 'B', accessFlags := 0x411 }
/-- [B -/
def k9 : Class := { plain "[B" (some 0) with kind := .array 8 .byte, interfaces := #[6, 7], accessFlags := 1041 }

/-- the primitive int -/
def k10 : Class := { plain "int" none with kind := .primitive 'I', accessFlags := 0x411 }
/-- [I -/
def k11 : Class := { plain "[I" (some 0) with kind := .array 10 .int, interfaces := #[6, 7], accessFlags := 1041 }

def heap : Heap := #[]
def classes : Array Class := #[k0, k1, k2, k3, k4, k5, k6, k7, k8, k9, k10, k11]
def interned : List (Array UInt16 × Addr) := []
def slotsUsed : Nat := 0
def theMethod : MethodId := ⟨1, 1⟩
def args0 : Array Value := #[.int 0, .int 1, .int 2, .int 3, .int 4]
def aboutOver (below : List Frame) : State where
  vm := { classes := classes, interned := interned.toArray }
  heap := heap
  slotsUsed := slotsUsed
  threads := #[{ frames := .invoking theMethod args0 :: below }]
def below0 : List Frame := [.native { method := ⟨0, 0⟩, args := #[] }]
def about1 : State := aboutOver below0
def p0 : Program := .bare "" "" ""
def e0 : Env := launch0.env 0 0 0
theorem w_frames : about1.frames = Frame.invoking theMethod args0 :: below0 := rfl
set_option maxRecDepth 65536 in
theorem w_args : argsFit about1.vm theMethod args0 = true := by decide +kernel
set_option maxRecDepth 65536 in
theorem w_heap : heapFits about1 = true := by decide +kernel
set_option maxRecDepth 65536 in
theorem w_runnable : about1.curStatus? = some .runnable := by decide +kernel
set_option maxRecDepth 65536 in
theorem w_alone : about1.alone = true := by decide +kernel
set_option maxRecDepth 65536 in
theorem w_named : about1.methodNamed? x = some theMethod := by decide +kernel
set_option maxRecDepth 65536 in
theorem w_hears : about1.hears theMethod below0 = true := by decide +kernel
set_option maxRecDepth 65536 in
theorem w_ripe : about1.ripe theMethod args0 below0 = true := by decide +kernel
theorem w_running : about1.status = .running := rfl
set_option maxRecDepth 65536 in
theorem w_room : about1.hasRoom e0.platform room_1 = true :=
  launch0.hasRoom_least _ room_1 (by decide +kernel) (by decide +kernel) (by decide +kernel) (by decide +kernel) (by decide +kernel) (by decide +kernel)
theorem allAtoms_all (ts : List Jvm.Cond) (a : Array Jvm.Value) (st : Jvm.State) : (allAtoms ts).before a st = ts.all (fun c => c.before a st) := by
  induction ts with
  | nil => rfl
  | cons c t ih =>
    show (Jvm.Cond.and c (allAtoms t)).before a st = _
    rw [Jvm.Cond.before_and, ih, List.all_cons]
def words1 : List Jvm.Cond := Jvm.Cond.code x code maxLocals ret :: tables_1
/-- a 'code' word, met by the world's own term for the bytes: nothing is compared byte by byte -/
theorem code_word {y : MethodName} {bytes : ByteArray} {mx : Nat} {rt : Option FieldType} {a : Array Value} {s : State} {m : MethodId} {meth : Method} {c : Code} (h1 : s.methodNamed? y = some m) (h2 : s.vm.method? m = some meth) (h3 : meth.code = some c) (h4 : c.code = bytes)
    (h5 : (c.maxLocals == mx && c.exceptionTable.isEmpty && decide (c.maxStack ≤ mostOperands) && decide (meth.sig.returnType = rt) && !meth.locks && decide (parseMethodDescriptor y.desc = some meth.sig)) = true) : (Jvm.Cond.code y bytes mx rt).before a s = true := by
  simp only [Bool.and_eq_true, beq_iff_eq, Bool.not_eq_true', decide_eq_true_eq] at h5
  obtain ⟨⟨⟨⟨⟨g1, g2⟩, g3⟩, g4⟩, g5⟩, g6⟩ := h5
  simp [Cond.before, Cond.holds, Cond.value, h1, h2, h3, h4, g1, g2, g3, g4, g5, g6]
def isCode : Jvm.Cond → Bool
  | .code _ _ _ _ => true
  | _ => false
theorem all_split {L : List Jvm.Cond} {P : Jvm.Cond → Bool} (h1 : L.all (fun c => isCode c || P c) = true) (h2 : ∀ c ∈ L.filter isCode, P c = true) : L.all P = true := by
  refine List.all_eq_true.mpr fun c hc => ?_
  have h := List.all_eq_true.mp h1 c hc
  rcases Bool.eq_false_or_eq_true (isCode c) with hi | hi
  · exact h2 c (List.mem_filter.mpr ⟨hc, hi⟩)
  · simpa [hi] using h
set_option maxRecDepth 65536 in
theorem w_c0 : (Jvm.Cond.code x code maxLocals ret).before args0 about1 = true := code_word (m := ⟨1, 1⟩) (meth := k1m1) (c := k1c1) (by decide +kernel) rfl rfl rfl (by decide +kernel)
set_option maxRecDepth 65536 in
theorem w_c1 : (Jvm.Cond.code ({ cls := "com/example/entailor/entailor/store/EqualTerms", name := "<init>", desc := "()V" } : Jvm.MethodName) prog_122_method_1_code (1 : Nat) (Option.none : Option Jvm.ClassFile.FieldType)).before args0 about1 = true := code_word (m := ⟨2, 0⟩) (meth := k2m0) (c := k2c0) (by decide +kernel) rfl rfl rfl (by decide +kernel)
set_option maxRecDepth 65536 in
theorem w_c2 : (Jvm.Cond.code ({ cls := "java/lang/Object", name := "<init>", desc := "()V" } : Jvm.MethodName) object_method_1_code (1 : Nat) (Option.none : Option Jvm.ClassFile.FieldType)).before args0 about1 = true := code_word (m := ⟨0, 0⟩) (meth := k0m0) (c := k0c0) (by decide +kernel) rfl rfl rfl (by decide +kernel)
set_option maxRecDepth 65536 in
theorem w_c3 : (Jvm.Cond.code ({ cls := "com/example/entailor/entailor/store/EqualTerms", name := "merge", desc := "(II)I" } : Jvm.MethodName) prog_122_method_5_code (9 : Nat) (Option.some Jvm.ClassFile.FieldType.int)).before args0 about1 = true := code_word (m := ⟨2, 2⟩) (meth := k2m2) (c := k2c2) (by decide +kernel) rfl rfl rfl (by decide +kernel)
set_option maxRecDepth 65536 in
theorem w_c4 : (Jvm.Cond.code ({ cls := "com/example/entailor/entailor/store/EqualTerms", name := "representative", desc := "(I)I" } : Jvm.MethodName) prog_122_method_2_code (3 : Nat) (Option.some Jvm.ClassFile.FieldType.int)).before args0 about1 = true := code_word (m := ⟨2, 1⟩) (meth := k2m1) (c := k2c1) (by decide +kernel) rfl rfl rfl (by decide +kernel)
set_option maxRecDepth 65536 in
theorem w_c5 : (Jvm.Cond.code ({ cls := "com/example/entailor/entailor/store/EqualTermsRepresentativePinLaw", name := "mergeRef", desc := "([I[III)V" } : Jvm.MethodName) method_3_code (9 : Nat) (Option.none : Option Jvm.ClassFile.FieldType)).before args0 about1 = true := code_word (m := ⟨1, 2⟩) (meth := k1m2) (c := k1c2) (by decide +kernel) rfl rfl rfl (by decide +kernel)
set_option maxRecDepth 65536 in
theorem w_c6 : (Jvm.Cond.code ({ cls := "java/lang/Math", name := "max", desc := "(II)I" } : Jvm.MethodName) jdk_29_method_65_code (2 : Nat) (Option.some Jvm.ClassFile.FieldType.int)).before args0 about1 = true := code_word (m := ⟨3, 1⟩) (meth := k3m1) (c := k3c1) (by decide +kernel) rfl rfl rfl (by decide +kernel)
set_option maxRecDepth 65536 in
theorem w_c7 : (Jvm.Cond.code ({ cls := "com/example/entailor/entailor/store/EqualTerms", name := "ensure", desc := "(I)V" } : Jvm.MethodName) prog_122_method_7_code (5 : Nat) (Option.none : Option Jvm.ClassFile.FieldType)).before args0 about1 = true := code_word (m := ⟨2, 3⟩) (meth := k2m3) (c := k2c3) (by decide +kernel) rfl rfl rfl (by decide +kernel)
set_option maxRecDepth 65536 in
theorem w_c8 : (Jvm.Cond.code ({ cls := "java/util/Arrays", name := "copyOf", desc := "([II)[I" } : Jvm.MethodName) jdk_65_method_123_code (3 : Nat) (Option.some (Jvm.ClassFile.FieldType.array Jvm.ClassFile.FieldType.int))).before args0 about1 = true := code_word (m := ⟨4, 1⟩) (meth := k4m1) (c := k4c1) (by decide +kernel) rfl rfl rfl (by decide +kernel)
set_option maxRecDepth 65536 in
theorem w_c9 : (Jvm.Cond.code ({ cls := "java/lang/Math", name := "min", desc := "(II)I" } : Jvm.MethodName) jdk_29_method_69_code (2 : Nat) (Option.some Jvm.ClassFile.FieldType.int)).before args0 about1 = true := code_word (m := ⟨3, 2⟩) (meth := k3m2) (c := k3c2) (by decide +kernel) rfl rfl rfl (by decide +kernel)
def codes1 : List Jvm.Cond := [Jvm.Cond.code x code maxLocals ret, Jvm.Cond.code ({ cls := "com/example/entailor/entailor/store/EqualTerms", name := "<init>", desc := "()V" } : Jvm.MethodName) prog_122_method_1_code (1 : Nat) (Option.none : Option Jvm.ClassFile.FieldType), Jvm.Cond.code ({ cls := "java/lang/Object", name := "<init>", desc := "()V" } : Jvm.MethodName) object_method_1_code (1 : Nat) (Option.none : Option Jvm.ClassFile.FieldType), Jvm.Cond.code ({ cls := "com/example/entailor/entailor/store/EqualTerms", name := "merge", desc := "(II)I" } : Jvm.MethodName) prog_122_method_5_code (9 : Nat) (Option.some Jvm.ClassFile.FieldType.int), Jvm.Cond.code ({ cls := "com/example/entailor/entailor/store/EqualTerms", name := "representative", desc := "(I)I" } : Jvm.MethodName) prog_122_method_2_code (3 : Nat) (Option.some Jvm.ClassFile.FieldType.int), Jvm.Cond.code ({ cls := "com/example/entailor/entailor/store/EqualTermsRepresentativePinLaw", name := "mergeRef", desc := "([I[III)V" } : Jvm.MethodName) method_3_code (9 : Nat) (Option.none : Option Jvm.ClassFile.FieldType), Jvm.Cond.code ({ cls := "java/lang/Math", name := "max", desc := "(II)I" } : Jvm.MethodName) jdk_29_method_65_code (2 : Nat) (Option.some Jvm.ClassFile.FieldType.int), Jvm.Cond.code ({ cls := "com/example/entailor/entailor/store/EqualTerms", name := "ensure", desc := "(I)V" } : Jvm.MethodName) prog_122_method_7_code (5 : Nat) (Option.none : Option Jvm.ClassFile.FieldType), Jvm.Cond.code ({ cls := "java/util/Arrays", name := "copyOf", desc := "([II)[I" } : Jvm.MethodName) jdk_65_method_123_code (3 : Nat) (Option.some (Jvm.ClassFile.FieldType.array Jvm.ClassFile.FieldType.int)), Jvm.Cond.code ({ cls := "java/lang/Math", name := "min", desc := "(II)I" } : Jvm.MethodName) jdk_29_method_69_code (2 : Nat) (Option.some Jvm.ClassFile.FieldType.int)]
set_option maxRecDepth 65536 in
theorem codes_eq : words1.filter isCode = codes1 := rfl
theorem w_codes : ∀ c ∈ words1.filter isCode, c.before args0 about1 = true := by
  rw [codes_eq]
  intro c hc
  simp only [codes1, List.mem_cons, List.not_mem_nil, or_false] at hc
  rcases hc with rfl | rfl | rfl | rfl | rfl | rfl | rfl | rfl | rfl | rfl
  · exact w_c0
  · exact w_c1
  · exact w_c2
  · exact w_c3
  · exact w_c4
  · exact w_c5
  · exact w_c6
  · exact w_c7
  · exact w_c8
  · exact w_c9
set_option maxRecDepth 65536 in
theorem w_t1 : (words1.take 24).all (fun c => isCode c || c.before args0 about1) = true := by decide +kernel
set_option maxRecDepth 65536 in
theorem w_t2 : ((words1.drop 24).take 24).all (fun c => isCode c || c.before args0 about1) = true := by decide +kernel
set_option maxRecDepth 65536 in
theorem w_t3 : ((words1.drop 24).drop 24).all (fun c => isCode c || c.before args0 about1) = true := by decide +kernel
theorem w_tables : (allAtoms (Jvm.Cond.code x code maxLocals ret :: tables_1)).before args0 about1 = true := by
  rw [allAtoms_all]
  show words1.all (fun c => c.before args0 about1) = true
  refine all_split ?_ w_codes
  rw [← List.take_append_drop 24 words1, List.all_append, w_t1, ← List.take_append_drop 24 (words1.drop 24), List.all_append, w_t2, w_t3]
  rfl
set_option maxRecDepth 65536 in
theorem w_case : (Jvm.Cond.and given_1 narrow_1).before args0 about1 = true := by decide +kernel
theorem w_applies : (headSpec (Jvm.Cond.code x code maxLocals ret :: tables_1) room_1).applies x e0.platform about1 = true :=
  (Spec.applies_iff w_frames).mpr ⟨w_running, w_runnable, w_alone, w_named, w_hears, w_ripe, w_room, w_tables⟩
theorem atStart : AtStart classFile x code maxLocals ret World_1 tables_1 room_1 Calls_1 rest_1 Pre_1 launch0 p0 e0 about1 theMethod args0 below0 :=
  ⟨lists_1, trivial, launch0.admits_env _ _ _, launch0.least_env, fairChoices_fair.cas, fairChoices_fair.clock, w_frames, w_args, w_heap, w_applies, trivial, trivial, w_case⟩
end start1
theorem witness_1 : WitnessClaimed_1 := ⟨start1.p0, start1.e0, start1.about1, start1.theMethod, start1.args0, start1.below0, start1.atStart⟩
end Jvm.Pilot.@@N@@
