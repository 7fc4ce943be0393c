import JvmDerived
import JvmDerived.Pilot.@@N@@Statement
import JvmDerived.Pilot.@@N@@Code
set_option linter.unusedVariables false
set_option linter.unusedSimpArgs false
namespace Jvm.RoadKit
open Sem ClassFile Op Lib Jvm.Stand Jvm.Free Jvm.LawKit
theorem Ext.keep {h h' : Heap} (E : Ext h h') (ws : List Addr) : Keep h h' ws := (Keep.refl _ _).ext E
theorem Keep.toExt {h h' : Heap} (K : Keep h h' []) : Ext h h' := ⟨K.1, fun a c q => K.2.1 a c q nin0⟩
theorem Sta.keep {Z : State} {h : Heap} {C f d : String} {v : Value} {h' : Heap} {ws : List Addr} (F : Sta Z h C f d v) (K : Keep h h' ws) (q : ∀ x ∈ ws, ∃ c : Cell, h[x]? = some c ∧ c.vm.isStatics = false) : Sta Z h' C f d v := by
  obtain ⟨cf, i, k, f, st, cell, h1, h2, h3, h4, h5, h6, h7⟩ := F
  exact ⟨cf, i, k, f, st, cell, h1, h2, h3, h4, K.2.1 st cell h5 (fun z => by obtain ⟨c, e1, e2⟩ := q st z; cases e1.symm.trans h5; rw [e2] at h6; cases h6), h6, h7⟩
theorem Ins.keep {Z : State} {h : Heap} {a : Addr} {C : String} {b : Bool} {h' : Heap} {ws : List Addr} (F : Ins Z h a C b) (K : Keep h h' ws) : Ins Z h' a C b := by
  obtain ⟨cell, cT, h1, h2, h3⟩ := F
  obtain ⟨c', q, r1, r2, -⟩ := K.2.2 a cell h1
  exact ⟨c', cT, q, h2, by rw [r1, r2]; exact h3⟩
end Jvm.RoadKit
namespace Jvm.Pilot.@@N@@
open Jvm Jvm.ClassFile Sem Op Lib Jvm.Free Jvm.Stand Jvm.LawKit Jvm.RoadKit Bundle Jvm.Pilot.@@N@@.Jvm.D
/-- what a walk is about: all that is fixed while one body runs -/
abbrev Wk : Type := Program × Launch × Env × Room × State × MethodId × Array Value × List Frame × Method × Code × State × Nat
def Cx (w : Wk) (R : Room) (Z : State) (n0 : Nat) (own : String) (bytes : ByteArray) (mx : Nat) (rt : Option FieldType) (nm : String) : Prop :=
  match w with
  | ⟨p, _, _, R', s, m, _, _, meth, c, Z', k⟩ => p.tables.exec = Jvm.exec ∧ c.code = bytes ∧ c.maxLocals = mx ∧ s.vm.findClass own = some m.cls ∧ Z.Warmed39 s.vm ∧ meth.sig.returnType = rt ∧ meth.name = nm ∧ meth.locks = false ∧ R' = R ∧ Z' = Z ∧ k = n0 ∧ n0 ≤ s.heap.size
def At1 (w : Wk) (T : State) (h : Heap) (k n : Nat) : Prop :=
  match w with
  | ⟨p, l, e, R, s, m, args, below, meth, c, _, n0⟩ => ∃ locs, Stand p l e R s m args below meth c T locs k n ∧ T.heap = h ∧ Fr n0 locs
def Go (w : Wk) (Q : Option Value → Heap → Prop) (T : State) (pc : Nat) (L : Array Slot) (st : List Value) : Prop :=
  match w with
  | ⟨p, _, e, R, s, m, _, below, _, _, _, n0⟩ => ∃ s₂ o, Steps p.tables e below (T.setTop (mkF m pc L st)) s₂ ∧ s₂.status = .running ∧ Ended s₂ below o ∧ ∃ v Lc, o = .returned v ∧ (Q v s₂.heap ∧ Fr n0 Lc) ∧ FrameEnd s o s₂ Lc R.cells R.slots
def Dc (bytes : ByteArray) (pc : Nat) (i : Instr) (n pc' : Nat) : Prop := decode bytes pc = .ok (i, n) ∧ pc + n = pc'
/-- a callee's contract -/
def Con (l : Launch) (Z : State) (y : MethodName) (bytes : ByteArray) (mx : Nat) (rt : Option FieldType) (R : Room) (as' : Array Value) (h0 : Heap) (n0 : Nat) (Q : Option Value → Heap → Prop) : Prop :=
  ∀ ws, MetFree l y (head1 (Jvm.Cond.code y bytes mx rt :: ws) R) (fun a U => a = as' ∧ Z.Warmed39 U.vm ∧ U.heap = h0) (fun _ _ _ _ _ => True) (fun _ U o U' => ∃ v L, o = .returned v ∧ (Q v U'.heap ∧ Fr n0 L) ∧ FrameEnd U o U' L R.cells R.slots)
def RI (P : Int32 → Heap → Prop) : Option Value → Heap → Prop := fun v h => ∃ z : Int32, v = some (.int z) ∧ P z h
def RL (P : Int64 → Heap → Prop) : Option Value → Heap → Prop := fun v h => ∃ z : Int64, v = some (.long z) ∧ P z h
def RR (P : Value → Heap → Prop) : Option Value → Heap → Prop := fun v h => ∃ z : Value, v = some z ∧ z.isRef = true ∧ P z h
def RV (P : Heap → Prop) : Option Value → Heap → Prop := fun v h => v = none ∧ P h
/-- Java's x >>> y -/
def iU (x y : Int32) : Int32 := (x.toUInt32 >>> (y &&& 31).toUInt32).toInt32
def lU (x : Int64) (y : Int32) : Int64 := (x.toUInt64 >>> (y &&& 0x3f).toInt64.toUInt64).toInt64
section Own
variable {w : Wk} {R : Room} {Z : State} {n0 : Nat} {own : String} {bytes : ByteArray} {mx : Nat} {rt : Option FieldType} {nm : String} {T : State} {h : Heap} {k n : Nat} {Q : Option Value → Heap → Prop} {pc pc' : Nat} {L L' : Array Slot} {st st' : List Value}
theorem con_intro {l : Launch} {y : MethodName} {as' : Array Value} {h0 : Heap} (hp : plainFor y = true) (hef : ∀ m, entryFrame m as' mx = mkF m 0 L []) (hz : n0 ≤ h0.size)
    (body : ∀ w T, Cx w R Z n0 y.cls bytes mx rt y.name → At1 w T h0 0 0 → Go w Q T 0 L []) : Con l Z y bytes mx rt R as' h0 n0 Q := by
  intro ws
  refine MetFree.of_bodySF hp hisR ?_
  intro p e s m args below meth c s₁ Bd hml0 hP hK
  obtain ⟨rfl, hZ, hh⟩ := hP
  have X0 : Stand p l e R s m args below meth c s₁ [] 0 0 := Stand.of_body Bd
  have e0 : s₁.heap = h0 := by rw [← hh, Bd.state]; rfl
  have B := body ⟨p, l, e, R, s, m, args, below, meth, c, Z, n0⟩ s₁ ⟨Bd.exec, Bd.bytes, hml0, findClass_of_methodNamed Bd.named, hZ, Bd.returns, (name_of_methodNamed Bd.named Bd.method).1, Bd.notSynchronized, rfl, rfl, rfl, by rw [hh]; exact hz⟩ ⟨[], X0, e0, Fr.nil n0⟩
  obtain ⟨s₂, o, h1, h2⟩ := B
  exact ⟨s₂, o, castTop (hef m) h1, h2⟩
theorem go_step (K : Cx w R Z n0 own bytes mx rt nm) (H : At1 w T h k n)
    (hs : ∀ (p : Program) (e : Env) (m : MethodId) (below : List Frame) (c : Code), p.tables.exec = Jvm.exec → c.code = bytes → At T m c below → ∀ t, Steps p.tables e below (T.setTop (mkF m pc' L' st')) t → Steps p.tables e below (T.setTop (mkF m pc L st)) t)
    (G : Go w Q T pc' L' st') : Go w Q T pc L st := by
  obtain ⟨p, l, e, R', s, m, args, below, meth, c, Z', k0⟩ := w
  obtain ⟨hx, hby, -⟩ := K
  obtain ⟨locs, X, -⟩ := H
  obtain ⟨s₂, o, h1, h2⟩ := G
  exact ⟨s₂, o, hs p e m below c hx hby X.here _ h1, h2⟩
theorem dcb {c : Code} {i : Instr} {q : Nat} (hby : c.code = bytes) (d : Dc bytes pc i q pc') : decode c.code pc = .ok (i, q) := by rw [hby]; exact d.1
theorem go_iadd {x y : Int32} (K : Cx w R Z n0 own bytes mx rt nm) (H : At1 w T h k n) (d : Dc bytes pc .iadd 1 pc') (G : ∀ z : Int32, z = x + y → Go w Q T pc' L (.int z :: st)) : Go w Q T pc L (.int y :: .int x :: st) := by
  obtain ⟨d1, rfl⟩ := d
  exact go_step K H (fun p e m below c hx hby hA t kk => XS.iadd hA hx rfl (by rw [hby]; exact d1) rfl kk) (G _ rfl)
theorem go_ladd {x y : Int64} (K : Cx w R Z n0 own bytes mx rt nm) (H : At1 w T h k n) (d : Dc bytes pc .ladd 1 pc') (G : ∀ z : Int64, z = x + y → Go w Q T pc' L (.long z :: st)) : Go w Q T pc L (.long y :: .long x :: st) := by
  obtain ⟨d1, rfl⟩ := d
  exact go_step K H (fun p e m below c hx hby hA t kk => XS.ladd hA hx rfl (by rw [hby]; exact d1) rfl kk) (G _ rfl)
theorem go_isub {x y : Int32} (K : Cx w R Z n0 own bytes mx rt nm) (H : At1 w T h k n) (d : Dc bytes pc .isub 1 pc') (G : ∀ z : Int32, z = x - y → Go w Q T pc' L (.int z :: st)) : Go w Q T pc L (.int y :: .int x :: st) := by
  obtain ⟨d1, rfl⟩ := d
  exact go_step K H (fun p e m below c hx hby hA t kk => XS.isub hA hx rfl (by rw [hby]; exact d1) rfl kk) (G _ rfl)
theorem go_lsub {x y : Int64} (K : Cx w R Z n0 own bytes mx rt nm) (H : At1 w T h k n) (d : Dc bytes pc .lsub 1 pc') (G : ∀ z : Int64, z = x - y → Go w Q T pc' L (.long z :: st)) : Go w Q T pc L (.long y :: .long x :: st) := by
  obtain ⟨d1, rfl⟩ := d
  exact go_step K H (fun p e m below c hx hby hA t kk => XS.lsub hA hx rfl (by rw [hby]; exact d1) rfl kk) (G _ rfl)
theorem go_imul {x y : Int32} (K : Cx w R Z n0 own bytes mx rt nm) (H : At1 w T h k n) (d : Dc bytes pc .imul 1 pc') (G : ∀ z : Int32, z = x * y → Go w Q T pc' L (.int z :: st)) : Go w Q T pc L (.int y :: .int x :: st) := by
  obtain ⟨d1, rfl⟩ := d
  exact go_step K H (fun p e m below c hx hby hA t kk => XS.imul hA hx rfl (by rw [hby]; exact d1) rfl kk) (G _ rfl)
theorem go_lmul {x y : Int64} (K : Cx w R Z n0 own bytes mx rt nm) (H : At1 w T h k n) (d : Dc bytes pc .lmul 1 pc') (G : ∀ z : Int64, z = x * y → Go w Q T pc' L (.long z :: st)) : Go w Q T pc L (.long y :: .long x :: st) := by
  obtain ⟨d1, rfl⟩ := d
  exact go_step K H (fun p e m below c hx hby hA t kk => XS.lmul hA hx rfl (by rw [hby]; exact d1) rfl kk) (G _ rfl)
theorem go_iand {x y : Int32} (K : Cx w R Z n0 own bytes mx rt nm) (H : At1 w T h k n) (d : Dc bytes pc .iand 1 pc') (G : ∀ z : Int32, z = x &&& y → Go w Q T pc' L (.int z :: st)) : Go w Q T pc L (.int y :: .int x :: st) := by
  obtain ⟨d1, rfl⟩ := d
  exact go_step K H (fun p e m below c hx hby hA t kk => XS.iand hA hx rfl (by rw [hby]; exact d1) rfl kk) (G _ rfl)
theorem go_land {x y : Int64} (K : Cx w R Z n0 own bytes mx rt nm) (H : At1 w T h k n) (d : Dc bytes pc .land 1 pc') (G : ∀ z : Int64, z = x &&& y → Go w Q T pc' L (.long z :: st)) : Go w Q T pc L (.long y :: .long x :: st) := by
  obtain ⟨d1, rfl⟩ := d
  exact go_step K H (fun p e m below c hx hby hA t kk => XS.land hA hx rfl (by rw [hby]; exact d1) rfl kk) (G _ rfl)
theorem go_ior {x y : Int32} (K : Cx w R Z n0 own bytes mx rt nm) (H : At1 w T h k n) (d : Dc bytes pc .ior 1 pc') (G : ∀ z : Int32, z = x ||| y → Go w Q T pc' L (.int z :: st)) : Go w Q T pc L (.int y :: .int x :: st) := by
  obtain ⟨d1, rfl⟩ := d
  exact go_step K H (fun p e m below c hx hby hA t kk => XS.ior hA hx rfl (by rw [hby]; exact d1) rfl kk) (G _ rfl)
theorem go_lor {x y : Int64} (K : Cx w R Z n0 own bytes mx rt nm) (H : At1 w T h k n) (d : Dc bytes pc .lor 1 pc') (G : ∀ z : Int64, z = x ||| y → Go w Q T pc' L (.long z :: st)) : Go w Q T pc L (.long y :: .long x :: st) := by
  obtain ⟨d1, rfl⟩ := d
  exact go_step K H (fun p e m below c hx hby hA t kk => XS.lor hA hx rfl (by rw [hby]; exact d1) rfl kk) (G _ rfl)
theorem go_ixor {x y : Int32} (K : Cx w R Z n0 own bytes mx rt nm) (H : At1 w T h k n) (d : Dc bytes pc .ixor 1 pc') (G : ∀ z : Int32, z = x ^^^ y → Go w Q T pc' L (.int z :: st)) : Go w Q T pc L (.int y :: .int x :: st) := by
  obtain ⟨d1, rfl⟩ := d
  exact go_step K H (fun p e m below c hx hby hA t kk => XS.ixor hA hx rfl (by rw [hby]; exact d1) rfl kk) (G _ rfl)
theorem go_lxor {x y : Int64} (K : Cx w R Z n0 own bytes mx rt nm) (H : At1 w T h k n) (d : Dc bytes pc .lxor 1 pc') (G : ∀ z : Int64, z = x ^^^ y → Go w Q T pc' L (.long z :: st)) : Go w Q T pc L (.long y :: .long x :: st) := by
  obtain ⟨d1, rfl⟩ := d
  exact go_step K H (fun p e m below c hx hby hA t kk => XS.lxor hA hx rfl (by rw [hby]; exact d1) rfl kk) (G _ rfl)
theorem go_ishl {x y : Int32} (K : Cx w R Z n0 own bytes mx rt nm) (H : At1 w T h k n) (d : Dc bytes pc .ishl 1 pc') (G : ∀ z : Int32, z = x <<< (y &&& 31) → Go w Q T pc' L (.int z :: st)) : Go w Q T pc L (.int y :: .int x :: st) := by
  obtain ⟨d1, rfl⟩ := d
  exact go_step K H (fun p e m below c hx hby hA t kk => XS.ishl hA hx rfl (by rw [hby]; exact d1) rfl kk) (G _ rfl)
theorem go_ishr {x y : Int32} (K : Cx w R Z n0 own bytes mx rt nm) (H : At1 w T h k n) (d : Dc bytes pc .ishr 1 pc') (G : ∀ z : Int32, z = x >>> (y &&& 31) → Go w Q T pc' L (.int z :: st)) : Go w Q T pc L (.int y :: .int x :: st) := by
  obtain ⟨d1, rfl⟩ := d
  exact go_step K H (fun p e m below c hx hby hA t kk => XS.ishr hA hx rfl (by rw [hby]; exact d1) rfl kk) (G _ rfl)
theorem go_iushr {x y : Int32} (K : Cx w R Z n0 own bytes mx rt nm) (H : At1 w T h k n) (d : Dc bytes pc .iushr 1 pc') (G : ∀ z : Int32, z = iU x y → Go w Q T pc' L (.int z :: st)) : Go w Q T pc L (.int y :: .int x :: st) := by
  obtain ⟨d1, rfl⟩ := d
  exact go_step K H (fun p e m below c hx hby hA t kk => XS.iushr hA hx rfl (by rw [hby]; exact d1) rfl kk) (G _ rfl)
theorem go_lshl {x : Int64} {y : Int32} (K : Cx w R Z n0 own bytes mx rt nm) (H : At1 w T h k n) (d : Dc bytes pc .lshl 1 pc') (G : ∀ z : Int64, z = x <<< (y &&& 0x3f).toInt64 → Go w Q T pc' L (.long z :: st)) : Go w Q T pc L (.int y :: .long x :: st) := by
  obtain ⟨d1, rfl⟩ := d
  exact go_step K H (fun p e m below c hx hby hA t kk => XS.lshl hA hx rfl (by rw [hby]; exact d1) rfl kk) (G _ rfl)
theorem go_lshr {x : Int64} {y : Int32} (K : Cx w R Z n0 own bytes mx rt nm) (H : At1 w T h k n) (d : Dc bytes pc .lshr 1 pc') (G : ∀ z : Int64, z = x >>> (y &&& 0x3f).toInt64 → Go w Q T pc' L (.long z :: st)) : Go w Q T pc L (.int y :: .long x :: st) := by
  obtain ⟨d1, rfl⟩ := d
  exact go_step K H (fun p e m below c hx hby hA t kk => XS.lshr hA hx rfl (by rw [hby]; exact d1) rfl kk) (G _ rfl)
theorem go_lushr {x : Int64} {y : Int32} (K : Cx w R Z n0 own bytes mx rt nm) (H : At1 w T h k n) (d : Dc bytes pc .lushr 1 pc') (G : ∀ z : Int64, z = lU x y → Go w Q T pc' L (.long z :: st)) : Go w Q T pc L (.int y :: .long x :: st) := by
  obtain ⟨d1, rfl⟩ := d
  exact go_step K H (fun p e m below c hx hby hA t kk => XS.lushr hA hx rfl (by rw [hby]; exact d1) rfl kk) (G _ rfl)
theorem go_idiv {x y : Int32} (K : Cx w R Z n0 own bytes mx rt nm) (H : At1 w T h k n) (d : Dc bytes pc .idiv 1 pc') (hy : y ≠ 0) (G : ∀ z : Int32, z = x / y → Go w Q T pc' L (.int z :: st)) : Go w Q T pc L (.int y :: .int x :: st) := by
  obtain ⟨d1, rfl⟩ := d
  exact go_step K H (fun p e m below c hx hby hA t kk => XS.idiv hA hx rfl (by rw [hby]; exact d1) rfl hy kk) (G _ rfl)
theorem go_irem (K : Cx w R Z n0 own bytes mx rt nm) (H : At1 w T h k n) {x y : Int32} (d : Dc bytes pc .irem 1 pc') (hy : y ≠ 0) (G : ∀ z : Int32, z = x % y → Go w Q T pc' L (.int z :: st)) : Go w Q T pc L (.int y :: .int x :: st) := by
  obtain ⟨d1, rfl⟩ := d
  exact go_step K H (fun p e m below c hx hby hA t kk => XS.irem hA hx rfl (by rw [hby]; exact d1) rfl hy (by rw [irem_eq_mod]; exact kk)) (G _ rfl)
theorem go_ldiv {x y : Int64} (K : Cx w R Z n0 own bytes mx rt nm) (H : At1 w T h k n) (d : Dc bytes pc .ldiv 1 pc') (hy : y ≠ 0) (G : ∀ z : Int64, z = x / y → Go w Q T pc' L (.long z :: st)) : Go w Q T pc L (.long y :: .long x :: st) := by
  obtain ⟨d1, rfl⟩ := d
  exact go_step K H (fun p e m below c hx hby hA t kk => XS.ldiv hA hx rfl (by rw [hby]; exact d1) rfl hy kk) (G _ rfl)
theorem go_lrem {x y : Int64} (K : Cx w R Z n0 own bytes mx rt nm) (H : At1 w T h k n) (d : Dc bytes pc .lrem 1 pc') (hy : y ≠ 0) (G : ∀ z : Int64, z = x - (x / y) * y → Go w Q T pc' L (.long z :: st)) : Go w Q T pc L (.long y :: .long x :: st) := by
  obtain ⟨d1, rfl⟩ := d
  exact go_step K H (fun p e m below c hx hby hA t kk => XS.lrem hA hx rfl (by rw [hby]; exact d1) rfl hy kk) (G _ rfl)
theorem go_ineg {x : Int32} (K : Cx w R Z n0 own bytes mx rt nm) (H : At1 w T h k n) (d : Dc bytes pc .ineg 1 pc') (G : ∀ z : Int32, z = -x → Go w Q T pc' L (.int z :: st)) : Go w Q T pc L (.int x :: st) := by
  obtain ⟨d1, rfl⟩ := d
  exact go_step K H (fun p e m below c hx hby hA t kk => XS.ineg hA hx rfl (by rw [hby]; exact d1) rfl kk) (G _ rfl)
theorem go_lneg {x : Int64} (K : Cx w R Z n0 own bytes mx rt nm) (H : At1 w T h k n) (d : Dc bytes pc .lneg 1 pc') (G : ∀ z : Int64, z = -x → Go w Q T pc' L (.long z :: st)) : Go w Q T pc L (.long x :: st) := by
  obtain ⟨d1, rfl⟩ := d
  exact go_step K H (fun p e m below c hx hby hA t kk => XS.lneg hA hx rfl (by rw [hby]; exact d1) rfl kk) (G _ rfl)
theorem go_i2l {x : Int32} (K : Cx w R Z n0 own bytes mx rt nm) (H : At1 w T h k n) (d : Dc bytes pc .i2l 1 pc') (G : ∀ z : Int64, z = x.toInt64 → Go w Q T pc' L (.long z :: st)) : Go w Q T pc L (.int x :: st) := by
  obtain ⟨d1, rfl⟩ := d
  exact go_step K H (fun p e m below c hx hby hA t kk => XS.i2l hA hx rfl (by rw [hby]; exact d1) rfl kk) (G _ rfl)
theorem go_l2i {x : Int64} (K : Cx w R Z n0 own bytes mx rt nm) (H : At1 w T h k n) (d : Dc bytes pc .l2i 1 pc') (G : ∀ z : Int32, z = x.toInt32 → Go w Q T pc' L (.int z :: st)) : Go w Q T pc L (.long x :: st) := by
  obtain ⟨d1, rfl⟩ := d
  exact go_step K H (fun p e m below c hx hby hA t kk => XS.l2i hA hx rfl (by rw [hby]; exact d1) rfl kk) (G _ rfl)
theorem go_i2b {x : Int32} (K : Cx w R Z n0 own bytes mx rt nm) (H : At1 w T h k n) (d : Dc bytes pc .i2b 1 pc') (G : ∀ z : Int32, z = x.toInt8.toInt32 → Go w Q T pc' L (.int z :: st)) : Go w Q T pc L (.int x :: st) := by
  obtain ⟨d1, rfl⟩ := d
  exact go_step K H (fun p e m below c hx hby hA t kk => XS.i2b hA hx rfl (by rw [hby]; exact d1) rfl kk) (G _ rfl)
theorem go_i2c {x : Int32} (K : Cx w R Z n0 own bytes mx rt nm) (H : At1 w T h k n) (d : Dc bytes pc .i2c 1 pc') (G : ∀ z : Int32, z = x.toUInt32.toUInt16.toUInt32.toInt32 → Go w Q T pc' L (.int z :: st)) : Go w Q T pc L (.int x :: st) := by
  obtain ⟨d1, rfl⟩ := d
  exact go_step K H (fun p e m below c hx hby hA t kk => XS.i2c hA hx rfl (by rw [hby]; exact d1) rfl kk) (G _ rfl)
theorem go_i2s {x : Int32} (K : Cx w R Z n0 own bytes mx rt nm) (H : At1 w T h k n) (d : Dc bytes pc .i2s 1 pc') (G : ∀ z : Int32, z = x.toInt16.toInt32 → Go w Q T pc' L (.int z :: st)) : Go w Q T pc L (.int x :: st) := by
  obtain ⟨d1, rfl⟩ := d
  exact go_step K H (fun p e m below c hx hby hA t kk => XS.i2s hA hx rfl (by rw [hby]; exact d1) rfl kk) (G _ rfl)
theorem go_lcmp {x y : Int64} (K : Cx w R Z n0 own bytes mx rt nm) (H : At1 w T h k n) (d : Dc bytes pc .lcmp 1 pc') (G : ∀ z : Int32, z = lcmpW x y → Go w Q T pc' L (.int z :: st)) : Go w Q T pc L (.long y :: .long x :: st) := by
  obtain ⟨d1, rfl⟩ := d
  exact go_step K H (fun p e m below c hx hby hA t kk => XS.lcmp hA hx rfl (by rw [hby]; exact d1) rfl kk) (G _ rfl)
theorem go_iloadN {j : Fin 4} {v : Int32} (K : Cx w R Z n0 own bytes mx rt nm) (H : At1 w T h k n) (d : Dc bytes pc (.iload_n j) 1 pc') (hl : L[j.val]? = some (.val (.int v))) (G : Go w Q T pc' L (.int v :: st)) : Go w Q T pc L st := by
  obtain ⟨d1, rfl⟩ := d
  exact go_step K H (fun p e m below c hx hby hA t kk => XS.iloadN hA hx rfl (by rw [hby]; exact d1) hl kk) G
theorem go_iload {j : Nat} {v : Int32} (K : Cx w R Z n0 own bytes mx rt nm) (H : At1 w T h k n) (d : Dc bytes pc (.iload j) 2 pc') (hl : L[j]? = some (.val (.int v))) (G : Go w Q T pc' L (.int v :: st)) : Go w Q T pc L st := by
  obtain ⟨d1, rfl⟩ := d
  exact go_step K H (fun p e m below c hx hby hA t kk => XS.iload hA hx rfl (by rw [hby]; exact d1) hl kk) G
theorem go_lloadN {j : Fin 4} {v : Int64} (K : Cx w R Z n0 own bytes mx rt nm) (H : At1 w T h k n) (d : Dc bytes pc (.lload_n j) 1 pc') (hl : L[j.val]? = some (.val (.long v))) (G : Go w Q T pc' L (.long v :: st)) : Go w Q T pc L st := by
  obtain ⟨d1, rfl⟩ := d
  exact go_step K H (fun p e m below c hx hby hA t kk => XS.lloadN hA hx rfl (by rw [hby]; exact d1) hl kk) G
theorem go_lload {j : Nat} {v : Int64} (K : Cx w R Z n0 own bytes mx rt nm) (H : At1 w T h k n) (d : Dc bytes pc (.lload j) 2 pc') (hl : L[j]? = some (.val (.long v))) (G : Go w Q T pc' L (.long v :: st)) : Go w Q T pc L st := by
  obtain ⟨d1, rfl⟩ := d
  exact go_step K H (fun p e m below c hx hby hA t kk => XS.lload hA hx rfl (by rw [hby]; exact d1) hl kk) G
theorem go_aloadN {j : Fin 4} {v : Value} (K : Cx w R Z n0 own bytes mx rt nm) (H : At1 w T h k n) (d : Dc bytes pc (.aload_n j) 1 pc') (hl : L[j.val]? = some (.val v)) (hv : v.isRef = true) (G : Go w Q T pc' L (v :: st)) : Go w Q T pc L st := by
  obtain ⟨d1, rfl⟩ := d
  exact go_step K H (fun p e m below c hx hby hA t kk => XS.aloadN hA hx rfl (by rw [hby]; exact d1) hl hv kk) G
theorem go_aload {j : Nat} {v : Value} (K : Cx w R Z n0 own bytes mx rt nm) (H : At1 w T h k n) (d : Dc bytes pc (.aload j) 2 pc') (hl : L[j]? = some (.val v)) (hv : v.isRef = true) (G : Go w Q T pc' L (v :: st)) : Go w Q T pc L st := by
  obtain ⟨d1, rfl⟩ := d
  exact go_step K H (fun p e m below c hx hby hA t kk => XS.aload hA hx rfl (by rw [hby]; exact d1) hl hv kk) G
theorem go_istoreN {j : Fin 4} {v : Int32} (K : Cx w R Z n0 own bytes mx rt nm) (H : At1 w T h k n) (d : Dc bytes pc (.istore_n j) 1 pc') (hl : storeLocals L j.val (.int v) = some L') (G : Go w Q T pc' L' st) : Go w Q T pc L (.int v :: st) := by
  obtain ⟨d1, rfl⟩ := d
  exact go_step K H (fun p e m below c hx hby hA t kk => XS.istoreN hA hx rfl (by rw [hby]; exact d1) rfl hl kk) G
theorem go_istore {j : Nat} {v : Int32} (K : Cx w R Z n0 own bytes mx rt nm) (H : At1 w T h k n) (d : Dc bytes pc (.istore j) 2 pc') (hl : storeLocals L j (.int v) = some L') (G : Go w Q T pc' L' st) : Go w Q T pc L (.int v :: st) := by
  obtain ⟨d1, rfl⟩ := d
  exact go_step K H (fun p e m below c hx hby hA t kk => XS.istore hA hx rfl (by rw [hby]; exact d1) rfl hl kk) G
theorem go_lstoreN {j : Fin 4} {v : Int64} (K : Cx w R Z n0 own bytes mx rt nm) (H : At1 w T h k n) (d : Dc bytes pc (.lstore_n j) 1 pc') (hl : storeLocals L j.val (.long v) = some L') (G : Go w Q T pc' L' st) : Go w Q T pc L (.long v :: st) := by
  obtain ⟨d1, rfl⟩ := d
  exact go_step K H (fun p e m below c hx hby hA t kk => XS.lstoreN hA hx rfl (by rw [hby]; exact d1) rfl hl kk) G
theorem go_lstore {j : Nat} {v : Int64} (K : Cx w R Z n0 own bytes mx rt nm) (H : At1 w T h k n) (d : Dc bytes pc (.lstore j) 2 pc') (hl : storeLocals L j (.long v) = some L') (G : Go w Q T pc' L' st) : Go w Q T pc L (.long v :: st) := by
  obtain ⟨d1, rfl⟩ := d
  exact go_step K H (fun p e m below c hx hby hA t kk => XS.lstore hA hx rfl (by rw [hby]; exact d1) rfl hl kk) G
theorem go_astoreN {j : Fin 4} {v : Value} (K : Cx w R Z n0 own bytes mx rt nm) (H : At1 w T h k n) (d : Dc bytes pc (.astore_n j) 1 pc') (hv : v.isRef = true) (hl : storeLocals L j.val v = some L') (G : Go w Q T pc' L' st) : Go w Q T pc L (v :: st) := by
  obtain ⟨d1, rfl⟩ := d
  exact go_step K H (fun p e m below c hx hby hA t kk => XS.astoreN hA hx rfl (by rw [hby]; exact d1) rfl hv hl kk) G
theorem go_astore {j : Nat} {v : Value} (K : Cx w R Z n0 own bytes mx rt nm) (H : At1 w T h k n) (d : Dc bytes pc (.astore j) 2 pc') (hv : v.isRef = true) (hl : storeLocals L j v = some L') (G : Go w Q T pc' L' st) : Go w Q T pc L (v :: st) := by
  obtain ⟨d1, rfl⟩ := d
  exact go_step K H (fun p e m below c hx hby hA t kk => XS.astore hA hx rfl (by rw [hby]; exact d1) rfl hv hl kk) G
theorem go_iinc {j : Nat} {cst : Int} {x z : Int32} (K : Cx w R Z n0 own bytes mx rt nm) (H : At1 w T h k n) (d : Dc bytes pc (.iinc j cst) 3 pc') (hl : L[j]? = some (.val (.int x))) (hz : z = x + Int32.ofInt cst) (hl' : storeLocals L j (.int z) = some L') (G : Go w Q T pc' L' st) : Go w Q T pc L st := by
  obtain ⟨d1, rfl⟩ := d
  exact go_step K H (fun p e m below c hx hby hA t kk => XS.iinc hA hx rfl (by rw [hby]; exact d1) hl (by rw [← hz]; exact hl') kk) G
theorem go_iconst {i : Int} (z : Int32) (K : Cx w R Z n0 own bytes mx rt nm) (H : At1 w T h k n) (d : Dc bytes pc (.iconst i) 1 pc') (hz : Int32.ofInt i = z) (G : Go w Q T pc' L (.int z :: st)) : Go w Q T pc L st := by
  obtain ⟨d1, rfl⟩ := d
  exact go_step K H (fun p e m below c hx hby hA t kk => XS.iconst hA hx rfl (by rw [hby]; exact d1) (by rw [hz]; exact kk)) G
theorem go_bipush {i : Int} (z : Int32) (K : Cx w R Z n0 own bytes mx rt nm) (H : At1 w T h k n) (d : Dc bytes pc (.bipush i) 2 pc') (hz : (Int8.ofInt i).toInt32 = z) (G : Go w Q T pc' L (.int z :: st)) : Go w Q T pc L st := by
  obtain ⟨d1, rfl⟩ := d
  exact go_step K H (fun p e m below c hx hby hA t kk => XS.bipush hA hx rfl (by rw [hby]; exact d1) (by rw [hz]; exact kk)) G
theorem go_sipush {i : Int} (z : Int32) (K : Cx w R Z n0 own bytes mx rt nm) (H : At1 w T h k n) (d : Dc bytes pc (.sipush i) 3 pc') (hz : (Int16.ofInt i).toInt32 = z) (G : Go w Q T pc' L (.int z :: st)) : Go w Q T pc L st := by
  obtain ⟨d1, rfl⟩ := d
  exact go_step K H (fun p e m below c hx hby hA t kk => XS.sipush hA hx rfl (by rw [hby]; exact d1) (by rw [hz]; exact kk)) G
theorem go_lconst {i : Fin 2} (z : Int64) (K : Cx w R Z n0 own bytes mx rt nm) (H : At1 w T h k n) (d : Dc bytes pc (.lconst i) 1 pc') (hz : Int64.ofNat i = z) (G : Go w Q T pc' L (.long z :: st)) : Go w Q T pc L st := by
  obtain ⟨d1, rfl⟩ := d
  exact go_step K H (fun p e m below c hx hby hA t kk => XS.lconst hA hx rfl (by rw [hby]; exact d1) (by rw [hz]; exact kk)) G
theorem go_null  (K : Cx w R Z n0 own bytes mx rt nm) (H : At1 w T h k n) (d : Dc bytes pc .aconst_null 1 pc') (G : Go w Q T pc' L (.null :: st)) : Go w Q T pc L st := by
  obtain ⟨d1, rfl⟩ := d
  exact go_step K H (fun p e m below c hx hby hA t kk => XS.aconstNull hA hx rfl (by rw [hby]; exact d1) kk) G
theorem go_dup {x : Value} (K : Cx w R Z n0 own bytes mx rt nm) (H : At1 w T h k n) (d : Dc bytes pc .dup 1 pc') (hc : x.category = 1) (G : Go w Q T pc' L (x :: x :: st)) : Go w Q T pc L (x :: st) := by
  obtain ⟨d1, rfl⟩ := d
  exact go_step K H (fun p e m below c hx hby hA t kk => XS.dup hA hx rfl (by rw [hby]; exact d1) rfl hc kk) G
theorem go_pop {x : Value} (K : Cx w R Z n0 own bytes mx rt nm) (H : At1 w T h k n) (d : Dc bytes pc .pop 1 pc') (hc : x.category = 1) (G : Go w Q T pc' L st) : Go w Q T pc L (x :: st) := by
  obtain ⟨d1, rfl⟩ := d
  exact go_step K H (fun p e m below c hx hby hA t kk => XS.pop hA hx rfl (by rw [hby]; exact d1) rfl hc kk) G
theorem go_dupX1 {x y : Value} (K : Cx w R Z n0 own bytes mx rt nm) (H : At1 w T h k n) (d : Dc bytes pc .dup_x1 1 pc') (hc : x.category = 1) (hc' : y.category = 1) (G : Go w Q T pc' L (x :: y :: x :: st)) : Go w Q T pc L (x :: y :: st) := by
  obtain ⟨d1, rfl⟩ := d
  exact go_step K H (fun p e m below c hx hby hA t kk => XS.dupX1 hA hx rfl (by rw [hby]; exact d1) rfl hc hc' kk) G
theorem go_dup2 {x y : Value} (K : Cx w R Z n0 own bytes mx rt nm) (H : At1 w T h k n) (d : Dc bytes pc .dup2 1 pc') (hc : x.category = 1) (hc' : y.category = 1) (G : Go w Q T pc' L (x :: y :: x :: y :: st)) : Go w Q T pc L (x :: y :: st) := by
  obtain ⟨d1, rfl⟩ := d
  exact go_step K H (fun p e m below c hx hby hA t kk => Jvm.Free.XT.dup2 hA hx rfl (by rw [hby]; exact d1) rfl hc hc' kk) G
theorem go_dup2L {x : Int64} (K : Cx w R Z n0 own bytes mx rt nm) (H : At1 w T h k n) (d : Dc bytes pc .dup2 1 pc') (G : Go w Q T pc' L (.long x :: .long x :: st)) : Go w Q T pc L (.long x :: st) := by
  obtain ⟨d1, rfl⟩ := d
  exact go_step K H (fun p e m below c hx hby hA t kk => Jvm.Free.XT.dup2L hA hx rfl (by rw [hby]; exact d1) rfl kk) G
def Jp (bytes : ByteArray) (pc : Nat) (i : Int → Instr) (yes no : Nat) : Prop := ∃ o : Int, decode bytes pc = .ok (i o, 3) ∧ 0 ≤ (pc : Int) + o ∧ ((pc : Int) + o).toNat = yes ∧ pc + 3 = no
theorem go_goto (K : Cx w R Z n0 own bytes mx rt nm) (H : At1 w T h k n) {no : Nat} (d : Jp bytes pc .goto pc' no) (G : Go w Q T pc' L st) : Go w Q T pc L st := by
  obtain ⟨o, d1, d2, d3, d4⟩ := d
  exact go_step K H (fun p e m below c hx hby hA t kk => XS.goto hA hx rfl rfl (by rw [hby]; exact d1) d2 d3 kk) G
theorem go_icmp_lt (K : Cx w R Z n0 own bytes mx rt nm) (H : At1 w T h k n) {x y : Int32} {yes no : Nat} (d : Jp bytes pc (.if_icmp .lt) yes no) (G1 : x < y → Go w Q T yes L st) (G2 : ¬ x < y → Go w Q T no L st) : Go w Q T pc L (.int y :: .int x :: st) := by
  obtain ⟨o, d1, d2, d3, rfl⟩ := d
  by_cases q : x < y
  · exact go_step K H (fun p e m below c hx hby hA t kk => XS.icmpYes hA hx rfl rfl (by rw [hby]; exact d1) rfl (tlt q).1 d2 d3 kk) (G1 q)
  · exact go_step K H (fun p e m below c hx hby hA t kk => XS.icmpNo hA hx rfl (by rw [hby]; exact d1) rfl (flt q).1 kk) (G2 q)
theorem go_if_lt (K : Cx w R Z n0 own bytes mx rt nm) (H : At1 w T h k n) {x : Int32} {yes no : Nat} (d : Jp bytes pc (.ifCond .lt) yes no) (G1 : x < (0 : Int32) → Go w Q T yes L st) (G2 : ¬ x < (0 : Int32) → Go w Q T no L st) : Go w Q T pc L (.int x :: st) := by
  obtain ⟨o, d1, d2, d3, rfl⟩ := d
  by_cases q : x < (0 : Int32)
  · exact go_step K H (fun p e m below c hx hby hA t kk => XS.ifYes hA hx rfl rfl (by rw [hby]; exact d1) rfl ((if0 _ _).trans (tlt q).1) d2 d3 kk) (G1 q)
  · exact go_step K H (fun p e m below c hx hby hA t kk => XS.ifNo hA hx rfl (by rw [hby]; exact d1) rfl ((if0 _ _).trans (flt q).1) kk) (G2 q)
theorem go_icmp_ge (K : Cx w R Z n0 own bytes mx rt nm) (H : At1 w T h k n) {x y : Int32} {yes no : Nat} (d : Jp bytes pc (.if_icmp .ge) yes no) (G1 : ¬ x < y → Go w Q T yes L st) (G2 : x < y → Go w Q T no L st) : Go w Q T pc L (.int y :: .int x :: st) := by
  obtain ⟨o, d1, d2, d3, rfl⟩ := d
  by_cases q : ¬ x < y
  · exact go_step K H (fun p e m below c hx hby hA t kk => XS.icmpYes hA hx rfl rfl (by rw [hby]; exact d1) rfl (flt q).2.1 d2 d3 kk) (G1 q)
  · exact go_step K H (fun p e m below c hx hby hA t kk => XS.icmpNo hA hx rfl (by rw [hby]; exact d1) rfl (tlt (Decidable.not_not.mp q)).2.1 kk) (G2 (Decidable.not_not.mp q))
theorem go_if_ge (K : Cx w R Z n0 own bytes mx rt nm) (H : At1 w T h k n) {x : Int32} {yes no : Nat} (d : Jp bytes pc (.ifCond .ge) yes no) (G1 : ¬ x < (0 : Int32) → Go w Q T yes L st) (G2 : x < (0 : Int32) → Go w Q T no L st) : Go w Q T pc L (.int x :: st) := by
  obtain ⟨o, d1, d2, d3, rfl⟩ := d
  by_cases q : ¬ x < (0 : Int32)
  · exact go_step K H (fun p e m below c hx hby hA t kk => XS.ifYes hA hx rfl rfl (by rw [hby]; exact d1) rfl ((if0 _ _).trans (flt q).2.1) d2 d3 kk) (G1 q)
  · exact go_step K H (fun p e m below c hx hby hA t kk => XS.ifNo hA hx rfl (by rw [hby]; exact d1) rfl ((if0 _ _).trans (tlt (Decidable.not_not.mp q)).2.1) kk) (G2 (Decidable.not_not.mp q))
theorem go_icmp_gt (K : Cx w R Z n0 own bytes mx rt nm) (H : At1 w T h k n) {x y : Int32} {yes no : Nat} (d : Jp bytes pc (.if_icmp .gt) yes no) (G1 : y < x → Go w Q T yes L st) (G2 : ¬ y < x → Go w Q T no L st) : Go w Q T pc L (.int y :: .int x :: st) := by
  obtain ⟨o, d1, d2, d3, rfl⟩ := d
  by_cases q : y < x
  · exact go_step K H (fun p e m below c hx hby hA t kk => XS.icmpYes hA hx rfl rfl (by rw [hby]; exact d1) rfl (tlt q).2.2.1 d2 d3 kk) (G1 q)
  · exact go_step K H (fun p e m below c hx hby hA t kk => XS.icmpNo hA hx rfl (by rw [hby]; exact d1) rfl (flt q).2.2.1 kk) (G2 q)
theorem go_if_gt (K : Cx w R Z n0 own bytes mx rt nm) (H : At1 w T h k n) {x : Int32} {yes no : Nat} (d : Jp bytes pc (.ifCond .gt) yes no) (G1 : (0 : Int32) < x → Go w Q T yes L st) (G2 : ¬ (0 : Int32) < x → Go w Q T no L st) : Go w Q T pc L (.int x :: st) := by
  obtain ⟨o, d1, d2, d3, rfl⟩ := d
  by_cases q : (0 : Int32) < x
  · exact go_step K H (fun p e m below c hx hby hA t kk => XS.ifYes hA hx rfl rfl (by rw [hby]; exact d1) rfl ((if0 _ _).trans (tlt q).2.2.1) d2 d3 kk) (G1 q)
  · exact go_step K H (fun p e m below c hx hby hA t kk => XS.ifNo hA hx rfl (by rw [hby]; exact d1) rfl ((if0 _ _).trans (flt q).2.2.1) kk) (G2 q)
theorem go_icmp_le (K : Cx w R Z n0 own bytes mx rt nm) (H : At1 w T h k n) {x y : Int32} {yes no : Nat} (d : Jp bytes pc (.if_icmp .le) yes no) (G1 : ¬ y < x → Go w Q T yes L st) (G2 : y < x → Go w Q T no L st) : Go w Q T pc L (.int y :: .int x :: st) := by
  obtain ⟨o, d1, d2, d3, rfl⟩ := d
  by_cases q : ¬ y < x
  · exact go_step K H (fun p e m below c hx hby hA t kk => XS.icmpYes hA hx rfl rfl (by rw [hby]; exact d1) rfl (flt q).2.2.2 d2 d3 kk) (G1 q)
  · exact go_step K H (fun p e m below c hx hby hA t kk => XS.icmpNo hA hx rfl (by rw [hby]; exact d1) rfl (tlt (Decidable.not_not.mp q)).2.2.2 kk) (G2 (Decidable.not_not.mp q))
theorem go_if_le (K : Cx w R Z n0 own bytes mx rt nm) (H : At1 w T h k n) {x : Int32} {yes no : Nat} (d : Jp bytes pc (.ifCond .le) yes no) (G1 : ¬ (0 : Int32) < x → Go w Q T yes L st) (G2 : (0 : Int32) < x → Go w Q T no L st) : Go w Q T pc L (.int x :: st) := by
  obtain ⟨o, d1, d2, d3, rfl⟩ := d
  by_cases q : ¬ (0 : Int32) < x
  · exact go_step K H (fun p e m below c hx hby hA t kk => XS.ifYes hA hx rfl rfl (by rw [hby]; exact d1) rfl ((if0 _ _).trans (flt q).2.2.2) d2 d3 kk) (G1 q)
  · exact go_step K H (fun p e m below c hx hby hA t kk => XS.ifNo hA hx rfl (by rw [hby]; exact d1) rfl ((if0 _ _).trans (tlt (Decidable.not_not.mp q)).2.2.2) kk) (G2 (Decidable.not_not.mp q))
theorem go_icmp_eq (K : Cx w R Z n0 own bytes mx rt nm) (H : At1 w T h k n) {x y : Int32} {yes no : Nat} (d : Jp bytes pc (.if_icmp .eq) yes no) (G1 : x = y → Go w Q T yes L st) (G2 : ¬ x = y → Go w Q T no L st) : Go w Q T pc L (.int y :: .int x :: st) := by
  obtain ⟨o, d1, d2, d3, rfl⟩ := d
  by_cases q : x = y
  · exact go_step K H (fun p e m below c hx hby hA t kk => XS.icmpYes hA hx rfl rfl (by rw [hby]; exact d1) rfl (teq q).1 d2 d3 kk) (G1 q)
  · exact go_step K H (fun p e m below c hx hby hA t kk => XS.icmpNo hA hx rfl (by rw [hby]; exact d1) rfl (feq q).1 kk) (G2 q)
theorem go_if_eq (K : Cx w R Z n0 own bytes mx rt nm) (H : At1 w T h k n) {x : Int32} {yes no : Nat} (d : Jp bytes pc (.ifCond .eq) yes no) (G1 : x = (0 : Int32) → Go w Q T yes L st) (G2 : ¬ x = (0 : Int32) → Go w Q T no L st) : Go w Q T pc L (.int x :: st) := by
  obtain ⟨o, d1, d2, d3, rfl⟩ := d
  by_cases q : x = (0 : Int32)
  · exact go_step K H (fun p e m below c hx hby hA t kk => XS.ifYes hA hx rfl rfl (by rw [hby]; exact d1) rfl ((if0 _ _).trans (teq q).1) d2 d3 kk) (G1 q)
  · exact go_step K H (fun p e m below c hx hby hA t kk => XS.ifNo hA hx rfl (by rw [hby]; exact d1) rfl ((if0 _ _).trans (feq q).1) kk) (G2 q)
theorem go_icmp_ne (K : Cx w R Z n0 own bytes mx rt nm) (H : At1 w T h k n) {x y : Int32} {yes no : Nat} (d : Jp bytes pc (.if_icmp .ne) yes no) (G1 : ¬ x = y → Go w Q T yes L st) (G2 : x = y → Go w Q T no L st) : Go w Q T pc L (.int y :: .int x :: st) := by
  obtain ⟨o, d1, d2, d3, rfl⟩ := d
  by_cases q : ¬ x = y
  · exact go_step K H (fun p e m below c hx hby hA t kk => XS.icmpYes hA hx rfl rfl (by rw [hby]; exact d1) rfl (feq q).2 d2 d3 kk) (G1 q)
  · exact go_step K H (fun p e m below c hx hby hA t kk => XS.icmpNo hA hx rfl (by rw [hby]; exact d1) rfl (teq (Decidable.not_not.mp q)).2 kk) (G2 (Decidable.not_not.mp q))
theorem go_if_ne (K : Cx w R Z n0 own bytes mx rt nm) (H : At1 w T h k n) {x : Int32} {yes no : Nat} (d : Jp bytes pc (.ifCond .ne) yes no) (G1 : ¬ x = (0 : Int32) → Go w Q T yes L st) (G2 : x = (0 : Int32) → Go w Q T no L st) : Go w Q T pc L (.int x :: st) := by
  obtain ⟨o, d1, d2, d3, rfl⟩ := d
  by_cases q : ¬ x = (0 : Int32)
  · exact go_step K H (fun p e m below c hx hby hA t kk => XS.ifYes hA hx rfl rfl (by rw [hby]; exact d1) rfl ((if0 _ _).trans (feq q).2) d2 d3 kk) (G1 q)
  · exact go_step K H (fun p e m below c hx hby hA t kk => XS.ifNo hA hx rfl (by rw [hby]; exact d1) rfl ((if0 _ _).trans (teq (Decidable.not_not.mp q)).2) kk) (G2 (Decidable.not_not.mp q))
theorem go_ifnull_yes (K : Cx w R Z n0 own bytes mx rt nm) (H : At1 w T h k n) {yes no : Nat} (d : Jp bytes pc .ifnull yes no) (G : Go w Q T yes L st) : Go w Q T pc L (.null :: st) := by
  obtain ⟨o, d1, d2, d3, rfl⟩ := d
  exact go_step K H (fun p e m below c hx hby hA t kk => XS.ifnullYes hA hx rfl rfl (by rw [hby]; exact d1) rfl d2 d3 kk) G
theorem go_ifnull_no (K : Cx w R Z n0 own bytes mx rt nm) (H : At1 w T h k n) {a : Addr} {yes no : Nat} (d : Jp bytes pc .ifnull yes no) (G : Go w Q T no L st) : Go w Q T pc L (.ref a :: st) := by
  obtain ⟨o, d1, d2, d3, rfl⟩ := d
  exact go_step K H (fun p e m below c hx hby hA t kk => XS.ifnullNo hA hx rfl (by rw [hby]; exact d1) rfl kk) G
theorem go_ifnonnull_yes (K : Cx w R Z n0 own bytes mx rt nm) (H : At1 w T h k n) {a : Addr} {yes no : Nat} (d : Jp bytes pc .ifnonnull yes no) (G : Go w Q T yes L st) : Go w Q T pc L (.ref a :: st) := by
  obtain ⟨o, d1, d2, d3, rfl⟩ := d
  exact go_step K H (fun p e m below c hx hby hA t kk => XS.ifnonnullYes hA hx rfl rfl (by rw [hby]; exact d1) rfl d2 d3 kk) G
theorem go_ifnonnull_no (K : Cx w R Z n0 own bytes mx rt nm) (H : At1 w T h k n) {yes no : Nat} (d : Jp bytes pc .ifnonnull yes no) (G : Go w Q T no L st) : Go w Q T pc L (.null :: st) := by
  obtain ⟨o, d1, d2, d3, rfl⟩ := d
  exact go_step K H (fun p e m below c hx hby hA t kk => XS.ifnonnullNo hA hx rfl (by rw [hby]; exact d1) rfl kk) G
theorem go_acmp_eq (K : Cx w R Z n0 own bytes mx rt nm) (H : At1 w T h k n) {x y : Value} (h1 : x.isRef = true) (h2 : y.isRef = true) {yes no : Nat} (d : Jp bytes pc (.if_acmp .eq) yes no) (G1 : x = y → Go w Q T yes L st) (G2 : ¬ x = y → Go w Q T no L st) : Go w Q T pc L (y :: x :: st) := by
  obtain ⟨p, l, e, R', s, m, args, below, meth, c, Z', k0⟩ := w
  obtain ⟨hx, hby, -⟩ := K
  obtain ⟨locs, X, -⟩ := H
  obtain ⟨o, d1, d2, d3, rfl⟩ := d
  by_cases q : x = y
  · obtain ⟨s₂, o2, g1, g2⟩ := G1 q
    exact ⟨s₂, o2, Jvm.RoadKit.acmp X hx rfl h1 h2 (pc' := yes) (same := true) rfl (by rw [hby]; exact d1) rfl (decide_eq_true q) d2 (by simp [acV, d3]) g1, g2⟩
  · obtain ⟨s₂, o2, g1, g2⟩ := G2 q
    exact ⟨s₂, o2, Jvm.RoadKit.acmp X hx rfl h1 h2 (pc' := pc + 3) (same := false) rfl (by rw [hby]; exact d1) rfl (decide_eq_false q) d2 (by simp [acV]) g1, g2⟩
theorem go_acmp_ne (K : Cx w R Z n0 own bytes mx rt nm) (H : At1 w T h k n) {x y : Value} (h1 : x.isRef = true) (h2 : y.isRef = true) {yes no : Nat} (d : Jp bytes pc (.if_acmp .ne) yes no) (G1 : ¬ x = y → Go w Q T yes L st) (G2 : x = y → Go w Q T no L st) : Go w Q T pc L (y :: x :: st) := by
  obtain ⟨p, l, e, R', s, m, args, below, meth, c, Z', k0⟩ := w
  obtain ⟨hx, hby, -⟩ := K
  obtain ⟨locs, X, -⟩ := H
  obtain ⟨o, d1, d2, d3, rfl⟩ := d
  by_cases q : x = y
  · obtain ⟨s₂, o2, g1, g2⟩ := G2 q
    exact ⟨s₂, o2, Jvm.RoadKit.acmp X hx rfl h1 h2 (pc' := pc + 3) (same := true) rfl (by rw [hby]; exact d1) rfl (decide_eq_true q) d2 (by simp [acV]) g1, g2⟩
  · obtain ⟨s₂, o2, g1, g2⟩ := G1 q
    exact ⟨s₂, o2, Jvm.RoadKit.acmp X hx rfl h1 h2 (pc' := yes) (same := false) rfl (by rw [hby]; exact d1) rfl (decide_eq_false q) d2 (by simp [acV, d3]) g1, g2⟩
/-- a step that hands on to a new state of the walk -/
theorem go_move {T' : State} (K : Cx w R Z n0 own bytes mx rt nm)
    (hs : ∀ (p : Program) (e : Env) (m : MethodId) (below : List Frame), (∃ l s args meth c, w = ⟨p, l, e, R, s, m, args, below, meth, c, Z, n0⟩) → ∀ t, Steps p.tables e below (T'.setTop (mkF m pc' L' st')) t → Steps p.tables e below (T.setTop (mkF m pc L st)) t)
    (G : Go w Q T' pc' L' st') : Go w Q T pc L st := by
  obtain ⟨p, l, e, R', s, m, args, below, meth, c, Z', k0⟩ := w
  obtain ⟨-, -, -, -, -, -, -, -, rfl, rfl, rfl, -⟩ := K
  obtain ⟨s₂, o, h1, h2⟩ := G
  exact ⟨s₂, o, hs p e m below ⟨l, s, args, meth, c, rfl⟩ _ h1, h2⟩
/-- one law a body's end -/
theorem go_leave (K : Cx w R Z n0 own bytes mx rt nm) (H : At1 w T h k n) {v : Option Value} (hv : rt = none → v = none) (hk : k ≤ R.cells) (hn : n ≤ R.slots)
    (hs : ∀ (p : Program) (l : Launch) (e : Env) (s : State) (m : MethodId) (args : Array Value) (below : List Frame) (meth : Method) (c : Code) (locs : List Loc), Stand p l e R s m args below meth c T locs k n → p.tables.exec = Jvm.exec → c.code = bytes → meth.sig.returnType = rt → ∀ fs, (∀ (f : JFrame) (acts : List Action), f.method = m → f.locked = none → f.entered = [] → (doReturn e (T.setTop f) acts v).1 = T.setFrames fs) → Steps p.tables e below (T.setTop (mkF m pc L st)) (T.setFrames fs))
    (hq : Q v h) : Go w Q T pc L st := by
  obtain ⟨p, l, e, R', s, m, args, below, meth, c, Z', k0⟩ := w
  obtain ⟨hx, hby, hml, hown, hZ, hret, hnm, hlk, rfl, rfl, rfl, h00⟩ := K
  obtain ⟨locs, X, eT, N⟩ := H
  obtain ⟨fs, hr, hrun, hended, hW, hsame⟩ := X.leave (v := v) (fun q => hv (hret ▸ q)) hlk
  exact ⟨_, _, hs p l e s m args below meth c locs X hx hby hret fs hr, hrun, hended, v, locs, rfl, ⟨by show Q v T.heap; rw [eT]; exact hq, N⟩, ⟨v, rfl⟩, hW, hsame.mono hk hn⟩
theorem go_ret (K : Cx w R Z n0 own bytes mx rt nm) (H : At1 w T h k n) {P : Heap → Prop} (d : Dc bytes pc .return_ 1 pc') (hr : rt = none) (hk : k ≤ R.cells) (hn : n ≤ R.slots) (hq : P h) : Go w (RV P) T pc L [] :=
  go_leave K H (fun _ => rfl) hk hn (fun p l e s m args below meth c locs X hx hby hret fs hl => X.returnOut hx (hret.trans hr) (dcb hby d) hl) ⟨rfl, hq⟩
theorem go_retV (K : Cx w R Z n0 own bytes mx rt nm) (H : At1 w T h k n) {v : Value} {t : FieldType} {i : Instr} (d : Dc bytes pc i 1 pc') (hr : rt = some t) (hnar : narrow t v = v)
    (hi : (i = .ireturn ∧ (t = .int ∨ t = .boolean ∨ t = .byte ∨ t = .char ∨ t = .short) ∧ ∃ z, v = .int z) ∨ (i = .lreturn ∧ t = .long ∧ ∃ z, v = .long z) ∨ (i = .dreturn ∧ t = .double ∧ ∃ z, v = .double z) ∨ (i = .freturn ∧ t = .float ∧ ∃ z, v = .float z) ∨ (i = .areturn ∧ t.isReference = true ∧ v.isRef = true))
    (hk : k ≤ R.cells) (hn : n ≤ R.slots) (hq : Q (some v) h) : Go w Q T pc L (v :: st) :=
  go_leave K H (fun q => by rw [hr] at q; cases q) hk hn (fun p l e s m args below meth c locs X hx hby hret fs hl => retOut X hx (hret.trans hr) hnar hi (dcb hby d) hl) hq
theorem go_iret (K : Cx w R Z n0 own bytes mx rt nm) (H : At1 w T h k n) {P : Int32 → Heap → Prop} {z : Int32} (d : Dc bytes pc .ireturn 1 pc') (hr : rt = some .int) (hk : k ≤ R.cells) (hn : n ≤ R.slots) (hq : P z h) : Go w (RI P) T pc L (.int z :: st) :=
  go_retV K H d hr rfl (Or.inl ⟨rfl, Or.inl rfl, z, rfl⟩) hk hn ⟨z, rfl, hq⟩
theorem go_zret (K : Cx w R Z n0 own bytes mx rt nm) (H : At1 w T h k n) {P : Int32 → Heap → Prop} {z : Int32} (d : Dc bytes pc .ireturn 1 pc') (hr : rt = some .boolean) (hz : nar .boolean z = z) (hk : k ≤ R.cells) (hn : n ≤ R.slots) (hq : P z h) : Go w (RI P) T pc L (.int z :: st) :=
  go_retV K H d hr (by show Value.int (nar .boolean z) = _; rw [hz]) (Or.inl ⟨rfl, Or.inr (Or.inl rfl), z, rfl⟩) hk hn ⟨z, rfl, hq⟩
theorem go_lret (K : Cx w R Z n0 own bytes mx rt nm) (H : At1 w T h k n) {P : Int64 → Heap → Prop} {z : Int64} (d : Dc bytes pc .lreturn 1 pc') (hr : rt = some .long) (hk : k ≤ R.cells) (hn : n ≤ R.slots) (hq : P z h) : Go w (RL P) T pc L (.long z :: st) :=
  go_retV K H d hr rfl (Or.inr (Or.inl ⟨rfl, rfl, z, rfl⟩)) hk hn ⟨z, rfl, hq⟩
theorem go_aret (K : Cx w R Z n0 own bytes mx rt nm) (H : At1 w T h k n) {P : Value → Heap → Prop} {z : Value} {t : FieldType} (d : Dc bytes pc .areturn 1 pc') (hr : rt = some t) (ht : t.isReference = true) (hz : z.isRef = true) (hk : k ≤ R.cells) (hn : n ≤ R.slots) (hq : P z h) : Go w (RR P) T pc L (z :: st) :=
  go_retV K H d hr (by rcases ref_cases hz with rfl | ⟨a, rfl⟩ <;> (cases t <;> first | rfl | (simp [FieldType.isReference] at ht))) (Or.inr (Or.inr (Or.inr (Or.inr ⟨rfl, ht, hz⟩)))) hk hn ⟨z, rfl, hz, hq⟩
theorem go_ldcI {a0 : Array Value} {idx : Nat} (z : Int32) (K : Cx w R Z n0 own bytes mx rt nm) (H : At1 w T h k n) (d : Dc bytes pc (.ldc idx) 2 pc') (w1 : (Cond.constant own idx z).before a0 Z = true) (G : Go w Q T pc' L (.int z :: st)) : Go w Q T pc L st := by
  obtain ⟨p, l, e, R', s, m, args, below, meth, c, Z', k0⟩ := w
  obtain ⟨hx, hby, hml, hown, hZ, -⟩ := K
  obtain ⟨locs, X, -⟩ := H
  obtain ⟨s₂, o, g1, g2⟩ := G
  obtain ⟨d1, rfl⟩ := d
  exact ⟨s₂, o, X.ldcInt hx hown (mvT hZ w1) rfl (by rw [hby]; exact d1) _ g1, g2⟩
theorem go_ldcwI {a0 : Array Value} {idx : Nat} (z : Int32) (K : Cx w R Z n0 own bytes mx rt nm) (H : At1 w T h k n) (d : Dc bytes pc (.ldc_w idx) 3 pc') (w1 : (Cond.constant own idx z).before a0 Z = true) (G : Go w Q T pc' L (.int z :: st)) : Go w Q T pc L st := by
  obtain ⟨p, l, e, R', s, m, args, below, meth, c, Z', k0⟩ := w
  obtain ⟨hx, hby, hml, hown, hZ, -⟩ := K
  obtain ⟨locs, X, -⟩ := H
  obtain ⟨s₂, o, g1, g2⟩ := G
  obtain ⟨d1, rfl⟩ := d
  exact ⟨s₂, o, X.ldcwInt hx hown (mvT hZ w1) rfl (by rw [hby]; exact d1) _ g1, g2⟩
theorem go_ldcL {a0 : Array Value} {idx : Nat} (z : Int64) (K : Cx w R Z n0 own bytes mx rt nm) (H : At1 w T h k n) (d : Dc bytes pc (.ldc2_w idx) 3 pc') (w1 : (Cond.constantLong own idx z).before a0 Z = true) (G : Go w Q T pc' L (.long z :: st)) : Go w Q T pc L st := by
  obtain ⟨p, l, e, R', s, m, args, below, meth, c, Z', k0⟩ := w
  obtain ⟨hx, hby, hml, hown, hZ, -⟩ := K
  obtain ⟨locs, X, -⟩ := H
  obtain ⟨s₂, o, g1, g2⟩ := G
  obtain ⟨d1, rfl⟩ := d
  exact ⟨s₂, o, X.ldc2Long hx hown (mvT hZ w1) rfl (by rw [hby]; exact d1) _ g1, g2⟩
theorem go_getfield {a0 : Array Value} {R0 O f ds host : String} {idx : Nat} {a : Addr} {v : Value} (K : Cx w R Z n0 own bytes mx rt nm) (H : At1 w T h k n) (d : Dc bytes pc (.getfield idx) 3 pc') (w1 : (Cond.fieldLink own idx R0 f ds).before a0 Z = true ∨ (Cond.fieldLinkNest own idx R0 f ds host).before a0 Z = true) (via : Via Z R0 O f ds) (F : Fld Z h a O f ds v)
    (G : ∀ T', At1 w T' h k n → Go w Q T' pc' L (v :: st)) : Go w Q T pc L (.ref a :: st) := by
  obtain ⟨p, l, e, R', s, m, args, below, meth, c, Z', k0⟩ := w
  obtain ⟨hx, hby, hml, hown, hZ, -⟩ := K
  obtain ⟨locs, X, eT, N⟩ := H
  obtain ⟨d1, rfl⟩ := d
  obtain ⟨T', X', e', stp⟩ := getF X hx hZ hown w1 via eT F (g := mkF m pc L (.ref a :: st)) rfl rfl (by rw [hby]; exact d1)
  obtain ⟨s₂, o, g1, g2⟩ := G T' ⟨locs, X', e', N⟩
  exact ⟨s₂, o, stp _ g1, g2⟩
theorem go_getstatic {a0 : Array Value} {R0 O f ds host : String} {idx : Nat} {v : Value} (K : Cx w R Z n0 own bytes mx rt nm) (H : At1 w T h k n) (d : Dc bytes pc (.getstatic idx) 3 pc') (w1 : (Cond.fieldLink own idx R0 f ds).before a0 Z = true ∨ (Cond.fieldLinkNest own idx R0 f ds host).before a0 Z = true) (via : Via Z R0 O f ds) (F : Sta Z h O f ds v)
    (G : ∀ T', At1 w T' h k n → Go w Q T' pc' L (v :: st)) : Go w Q T pc L st := by
  obtain ⟨p, l, e, R', s, m, args, below, meth, c, Z', k0⟩ := w
  obtain ⟨hx, hby, hml, hown, hZ, -⟩ := K
  obtain ⟨locs, X, eT, N⟩ := H
  obtain ⟨d1, rfl⟩ := d
  obtain ⟨T', X', e', stp⟩ := getS2 X hx hZ hown w1 via eT F (g := mkF m pc L st) rfl (by rw [hby]; exact d1)
  obtain ⟨s₂, o, g1, g2⟩ := G T' ⟨locs, X', e', N⟩
  exact ⟨s₂, o, stp _ g1, g2⟩
theorem go_putfield {a0 : Array Value} {R0 O f ds host C : String} {idx kk : Nat} {a : Addr} {v old : Value} {ty : FieldType} (K : Cx w R Z n0 own bytes mx rt nm) (H : At1 w T h k n) (d : Dc bytes pc (.putfield idx) 3 pc') (w1 : (Cond.fieldLink own idx R0 f ds).before a0 Z = true ∨ (Cond.fieldLinkNest own idx R0 f ds host).before a0 Z = true) (via : Via Z R0 O f ds)
    (F : Fld Z h a O f ds old) (E : Exa Z h a C) (Ly : (Cond.lays C O f ds).before a0 Z = true ∨ ((Cond.laysFinal C O f ds).before a0 Z = true ∧ own = O ∧ nm = "<init>")) (wi : (Cond.instantiable C kk).before a0 Z = true)
    (hty : parseFieldDescriptor ds = some ty) (hn : narrow ty v = v) (hf : fits ty v = true) (ha : n0 ≤ a)
    (G : ∀ T' h', At1 w T' h' k n → Wr h h' a (Jvm.RoadKit.slotOf Z O f ds) v → Go w Q T' pc' L st) : Go w Q T pc L (v :: .ref a :: st) := by
  obtain ⟨p, l, e, R', s, m, args, below, meth, c, Z', k0⟩ := w
  obtain ⟨hx, hby, hml, hown, hZ, hret, hnm, hlk, rfl, rfl, rfl, h00⟩ := K
  obtain ⟨locs, X, eT, N⟩ := H
  obtain ⟨d1, rfl⟩ := d
  obtain ⟨T', h', X', e', W, stp⟩ := putF X hx hZ hown w1 via eT F E (Ly.imp id fun q => ⟨q.1, q.2.1, hnm.trans q.2.2⟩) wi hty hn hf (g := mkF m pc L (v :: .ref a :: st)) rfl rfl (by rw [hby]; exact d1)
  obtain ⟨s₂, o, g1, g2⟩ := G T' h' ⟨_, X', e', Fr.snoc X' N ha⟩ W
  exact ⟨s₂, o, stp _ g1, g2⟩
theorem go_putfieldN {a0 : Array Value} {R0 O f ds C : String} {idx kk : Nat} {a : Addr} {v v' old : Value} {ty : FieldType} (K : Cx w R Z n0 own bytes mx rt nm) (H : At1 w T h k n) (d : Dc bytes pc (.putfield idx) 3 pc') (w1 : (Cond.fieldLink own idx R0 f ds).before a0 Z = true) (via : Via Z R0 O f ds)
    (F : Fld Z h a O f ds old) (E : Exa Z h a C) (Ly : (Cond.lays C O f ds).before a0 Z = true ∨ ((Cond.laysFinal C O f ds).before a0 Z = true ∧ own = O ∧ nm = "<init>")) (wi : (Cond.instantiable C kk).before a0 Z = true)
    (hty : parseFieldDescriptor ds = some ty) (hn : narrow ty v = v') (hf : fits ty v' = true) (ha : n0 ≤ a)
    (G : ∀ T' h', At1 w T' h' k n → Wr h h' a (Jvm.RoadKit.slotOf Z O f ds) v' → Go w Q T' pc' L st) : Go w Q T pc L (v :: .ref a :: st) := by
  obtain ⟨p, l, e, R', s, m, args, below, meth, c, Z', k0⟩ := w
  obtain ⟨hx, hby, hml, hown, hZ, hret, hnm, hlk, rfl, rfl, rfl, h00⟩ := K
  obtain ⟨locs, X, eT, N⟩ := H
  obtain ⟨d1, rfl⟩ := d
  obtain ⟨T', h', X', e', W, stp⟩ := putFN X hx hZ hown w1 via eT F E (Ly.imp id fun q => ⟨q.1, q.2.1, hnm.trans q.2.2⟩) wi hty hn hf (g := mkF m pc L (v :: .ref a :: st)) rfl rfl (by rw [hby]; exact d1)
  obtain ⟨s₂, o, g1, g2⟩ := G T' h' ⟨_, X', e', Fr.snoc X' N ha⟩ W
  exact ⟨s₂, o, stp _ g1, g2⟩
theorem go_new {a0 : Array Value} {C : String} {idx sl : Nat} (K : Cx w R Z n0 own bytes mx rt nm) (H : At1 w T h k n) (d : Dc bytes pc (.new idx) 3 pc') (w1 : (Cond.classLink own idx C).before a0 Z = true) (w2 : (Cond.instantiable C sl).before a0 Z = true) (w3 : (Cond.initialized C).before a0 Z = true) (hk : k + 1 ≤ R.cells) (hn : n + sl ≤ R.slots)
    (G : ∀ T' h' a, At1 w T' h' (k + 1) (n + sl) → a = h.size → n0 ≤ a → Ext h h' → Exa Z h' a C → (∀ {O f ds : String} {ty : FieldType}, Laid Z a0 C O f ds → parseFieldDescriptor ds = some ty → Fld Z h' a O f ds (defaultValue ty)) → Go w Q T' pc' L (.ref a :: st)) : Go w Q T pc L st := by
  obtain ⟨p, l, e, R', s, m, args, below, meth, c, Z', k0⟩ := w
  obtain ⟨hx, hby, hml, hown, hZ, hret, hnm, hlk, rfl, rfl, rfl, h00⟩ := K
  obtain ⟨locs, X, eT, N⟩ := H
  obtain ⟨d1, rfl⟩ := d
  obtain ⟨T', h', X', e', E, A, D, -, stp⟩ := newO X hx hZ hown w1 w2 w3 eT (g := mkF m pc L st) rfl (by rw [hby]; exact d1) hk hn
  obtain ⟨s₂, o, g1, g2⟩ := G T' h' h.size ⟨_, X', e', N⟩ rfl (by rw [← eT]; exact Nat.le_trans h00 X.same.2.1) E A D
  exact ⟨s₂, o, stp _ g1, g2⟩
theorem go_initO {a0 : Array Value} {idx : Nat} {a : Addr} (K : Cx w R Z n0 own bytes mx rt nm) (H : At1 w T h k n) (d : Dc bytes pc (.invokespecial idx) 3 pc') (w1 : (Cond.methodLink own idx Lib.objectInit).before a0 Z = true) (w2 : (Cond.instanceMethod Lib.objectInit).before a0 Z = true) (w3 : (Cond.code Lib.objectInit ⟨#[0xb1]⟩ 1 none).before a0 Z = true)
    (hL : L.size = mx) (hf : 1 ≤ R.frames) {W : Nat} (hW : (st.map fun v => v.category).sum = W) (hl : W + 12 ≤ R.locals)
    (G : ∀ T', At1 w T' h k n → Go w Q T' pc' L st) : Go w Q T pc L (.ref a :: st) := by
  obtain ⟨p, l, e, R', s, m, args, below, meth, c, Z', k0⟩ := w
  obtain ⟨hx, hby, hml, hown, hZ, hret, hnm, hlk, rfl, rfl, rfl, h00⟩ := K
  obtain ⟨locs, X, eT, N⟩ := H
  obtain ⟨d1, rfl⟩ := d
  obtain ⟨T', X', e', stp⟩ := initO X hx hZ hown w1 w2 w3 eT (g := mkF m pc L (.ref a :: st)) rfl (hL.trans hml.symm) rfl (by rw [hby]; exact d1) hf (W := W) (by show 2 * 0 + _ ≤ _; rw [hW]; omega) hl
  obtain ⟨s₂, o, g1, g2⟩ := G T' ⟨locs, X', e', N⟩
  exact ⟨s₂, o, stp _ g1, g2⟩
/-- an array: all its components -/
def VA (Z : State) (h : Heap) (a : Addr) (ty : FieldType) (vs : List Value) : Prop := ∃ c : Cell, Arr Z h a c ty ∧ c.slots.toList = vs ∧ vs.length < 2 ^ 31
def IA (Z : State) (h : Heap) (a : Addr) (xs : List Int32) : Prop := VA Z h a .int (xs.map Value.int)
def JA (Z : State) (h : Heap) (a : Addr) (xs : List Int64) : Prop := VA Z h a .long (xs.map Value.long)
theorem VA.ext {a : Addr} {ty : FieldType} {vs : List Value} {h' : Heap} (A : VA Z h a ty vs) (E : Ext h h') : VA Z h' a ty vs := by obtain ⟨c, A, r⟩ := A; exact ⟨c, A.ext E, r⟩
theorem VA.other {a b : Addr} {ty : FieldType} {vs : List Value} {h' : Heap} {sl : Nat} {v : Value} (A : VA Z h a ty vs) (W : Wr h h' b sl v) (q : a ≠ b) : VA Z h' a ty vs := by obtain ⟨c, A, r⟩ := A; exact ⟨c, A.other W q, r⟩
theorem VA.keep {a : Addr} {ty : FieldType} {vs : List Value} {h' : Heap} {ws : List Addr} (A : VA Z h a ty vs) (K : Keep h h' ws) (q : a ∉ ws) : VA Z h' a ty vs := by obtain ⟨c, A, r⟩ := A; exact ⟨c, ⟨K.2.1 a c A.1 q, A.2⟩, r⟩
theorem VA.lt {a : Addr} {ty : FieldType} {vs : List Value} (A : VA Z h a ty vs) : a < h.size := by obtain ⟨c, A, r⟩ := A; exact A.lt
theorem VA.len {a : Addr} {ty : FieldType} {vs : List Value} (A : VA Z h a ty vs) : vs.length < 2 ^ 31 := by obtain ⟨c, A, r1, r2⟩ := A; exact r2
theorem VA.set {a : Addr} {ty : FieldType} {vs : List Value} {h' : Heap} {i : Nat} {v : Value} (A : VA Z h a ty vs) (W : Wr h h' a i v) : VA Z h' a ty (vs.set i v) := by
  obtain ⟨c, A, r1, r2⟩ := A
  exact ⟨_, A.same W, by simp [Cell.setSlot, r1], by simpa using r2⟩
theorem IA.ext {a : Addr} {xs : List Int32} {h' : Heap} (A : IA Z h a xs) (E : Ext h h') : IA Z h' a xs := VA.ext A E
theorem IA.other {a b : Addr} {xs : List Int32} {h' : Heap} {sl : Nat} {v : Value} (A : IA Z h a xs) (W : Wr h h' b sl v) (q : a ≠ b) : IA Z h' a xs := VA.other A W q
theorem IA.keep {a : Addr} {xs : List Int32} {h' : Heap} {ws : List Addr} (A : IA Z h a xs) (K : Keep h h' ws) (q : a ∉ ws) : IA Z h' a xs := VA.keep A K q
theorem IA.lt {a : Addr} {xs : List Int32} (A : IA Z h a xs) : a < h.size := VA.lt A
theorem IA.len {a : Addr} {xs : List Int32} (A : IA Z h a xs) : xs.length < 2 ^ 31 := by simpa using VA.len A
theorem IA.set {a : Addr} {xs : List Int32} {h' : Heap} {i : Nat} {x : Int32} (A : IA Z h a xs) (W : Wr h h' a i (.int x)) : IA Z h' a (xs.set i x) := by
  have q := VA.set A W
  rw [← List.map_set] at q; exact q
theorem JA.ext {a : Addr} {xs : List Int64} {h' : Heap} (A : JA Z h a xs) (E : Ext h h') : JA Z h' a xs := VA.ext A E
theorem JA.other {a b : Addr} {xs : List Int64} {h' : Heap} {sl : Nat} {v : Value} (A : JA Z h a xs) (W : Wr h h' b sl v) (q : a ≠ b) : JA Z h' a xs := VA.other A W q
theorem JA.keep {a : Addr} {xs : List Int64} {h' : Heap} {ws : List Addr} (A : JA Z h a xs) (K : Keep h h' ws) (q : a ∉ ws) : JA Z h' a xs := VA.keep A K q
theorem JA.lt {a : Addr} {xs : List Int64} (A : JA Z h a xs) : a < h.size := VA.lt A
theorem JA.len {a : Addr} {xs : List Int64} (A : JA Z h a xs) : xs.length < 2 ^ 31 := by simpa using VA.len A
theorem JA.set {a : Addr} {xs : List Int64} {h' : Heap} {i : Nat} {x : Int64} (A : JA Z h a xs) (W : Wr h h' a i (.long x)) : JA Z h' a (xs.set i x) := by
  have q := VA.set A W
  rw [← List.map_set] at q; exact q
theorem idx_nat {j : Int32} {i : Nat} (hj : j.toInt = (i : Int)) : ¬ j < 0 ∧ j.toNatClampNeg = i := by
  constructor
  · rw [Int32.lt_iff_toInt_lt, hj]; show ¬ ((i : Int) < 0); omega
  · simp only [Int32.toNatClampNeg, hj]; omega
theorem slot_at {c : Cell} {vs : List Value} {i : Nat} {v : Value} (r : c.slots.toList = vs) (hi : vs[i]? = some v) : c.slots[i]? = some v := by rw [← Array.getElem?_toList, r]; exact hi
theorem inb_at {c : Cell} {vs : List Value} {j : Int32} {i : Nat} (r : c.slots.toList = vs) (hj : j.toInt = (i : Int)) (hi : i < vs.length) : ¬ (j < 0 ∨ c.slots.size ≤ j.toNatClampNeg) := by
  obtain ⟨h1, h2⟩ := idx_nat hj
  have e : c.slots.size = vs.length := by rw [← r]; simp
  rw [h2, e]
  rintro (q | q)
  · exact h1 q
  · omega
theorem lt_of_at {α : Type} {vs : List α} {i : Nat} {v : α} (hi : vs[i]? = some v) : i < vs.length := (List.getElem?_eq_some_iff.mp hi).1
theorem go_newarray {a0 : Array Value} {aty : ArrayType} {m : Int32} (cap : Nat) (K : Cx w R Z n0 own bytes mx rt nm) (H : At1 w T h k n) (d : Dc bytes pc (.newarray aty) 2 pc') (w1 : (Cond.arrayClass (newarray.typeOf aty)).before a0 Z = true) (hm : ¬ m < 0) (hcap : m.toNatClampNeg ≤ cap) (hb : cap * 8 ≤ 536870912) (hk : k + 1 ≤ R.cells) (hn : n + cap ≤ R.slots)
    (G : ∀ T' h' a, At1 w T' h' (k + 1) (n + cap) → a = h.size → n0 ≤ a → Ext h h' → VA Z h' a (newarray.typeOf aty) (List.replicate m.toNatClampNeg (defaultValue (newarray.typeOf aty))) → Go w Q T' pc' L (.ref a :: st)) : Go w Q T pc L (.int m :: st) := by
  obtain ⟨p, l, e, R', s, mm, args, below, meth, c, Z', k0⟩ := w
  obtain ⟨hx, hby, hml, hown, hZ, hret, hnm, hlk, rfl, rfl, rfl, h00⟩ := K
  obtain ⟨locs, X, eT, N⟩ := H
  obtain ⟨d1, rfl⟩ := d
  obtain ⟨T', h', cA, X', e', E, A, stp⟩ := newP X hx hZ w1 eT (g := mkF mm pc L (.int m :: st)) rfl (by rw [hby]; exact d1) rfl hm hcap hb hk hn
  obtain ⟨s₂, o, g1, g2⟩ := G T' h' h.size ⟨_, X', e', N⟩ rfl (by rw [← eT]; exact Nat.le_trans h00 X.same.2.1) E ⟨_, A, by simp [newA], by simpa using (back32 hm).2⟩
  exact ⟨s₂, o, stp _ g1, g2⟩
theorem go_arraylength {a : Addr} {ty : FieldType} {vs : List Value} (K : Cx w R Z n0 own bytes mx rt nm) (H : At1 w T h k n) (d : Dc bytes pc .arraylength 1 pc') (A : VA Z h a ty vs) (G : ∀ z : Int32, z.toInt = (vs.length : Int) → Go w Q T pc' L (.int z :: st)) : Go w Q T pc L (.ref a :: st) := by
  obtain ⟨p, l, e, R', s, m, args, below, meth, c, Z', k0⟩ := w
  obtain ⟨hx, hby, hml, hown, hZ, -⟩ := K
  obtain ⟨locs, X, eT, N⟩ := H
  obtain ⟨d1, rfl⟩ := d
  obtain ⟨cl, A, r1, r2⟩ := A
  have e : cl.slots.size = vs.length := by rw [← r1]; simp
  obtain ⟨s₂, o, g1, g2⟩ := G cl.slots.size.toInt32 (by rw [e]; exact len_toInt r2)
  exact ⟨s₂, o, X.arraylength hx (by rw [eT]; exact A.1) (State.isArrayOf_alike hZ.alike A.2.1) (g := mkF m pc L (.ref a :: st)) rfl rfl (by rw [hby]; exact d1) _ g1, g2⟩
theorem go_iaload {a : Addr} {vs : List Value} {j : Int32} (i : Nat) {v : Value} (K : Cx w R Z n0 own bytes mx rt nm) (H : At1 w T h k n) (d : Dc bytes pc .iaload 1 pc') (A : VA Z h a .int vs) (hj : j.toInt = (i : Int)) (hi : vs[i]? = some v) (G : Go w Q T pc' L (v :: st)) : Go w Q T pc L (.int j :: .ref a :: st) := by
  obtain ⟨p, l, e, R', s, m, args, below, meth, c, Z', k0⟩ := w
  obtain ⟨hx, hby, hml, hown, hZ, -⟩ := K
  obtain ⟨locs, X, eT, N⟩ := H
  obtain ⟨d1, rfl⟩ := d
  obtain ⟨cl, A, r1, r2⟩ := A
  obtain ⟨s₂, o, g1, g2⟩ := G
  exact ⟨s₂, o, X.iaload hx (by rw [eT]; exact A.1) (State.isArrayOf_alike hZ.alike A.2.1) A.2.2 (inb_at r1 hj (lt_of_at hi)) (by rw [(idx_nat hj).2]; exact slot_at r1 hi) (g := mkF m pc L (.int j :: .ref a :: st)) rfl rfl (by rw [hby]; exact d1) _ g1, g2⟩
theorem go_laload {a : Addr} {vs : List Value} {j : Int32} (i : Nat) {v : Value} (K : Cx w R Z n0 own bytes mx rt nm) (H : At1 w T h k n) (d : Dc bytes pc .laload 1 pc') (A : VA Z h a .long vs) (hj : j.toInt = (i : Int)) (hi : vs[i]? = some v) (G : Go w Q T pc' L (v :: st)) : Go w Q T pc L (.int j :: .ref a :: st) := by
  obtain ⟨p, l, e, R', s, m, args, below, meth, c, Z', k0⟩ := w
  obtain ⟨hx, hby, hml, hown, hZ, -⟩ := K
  obtain ⟨locs, X, eT, N⟩ := H
  obtain ⟨d1, rfl⟩ := d
  obtain ⟨cl, A, r1, r2⟩ := A
  obtain ⟨s₂, o, g1, g2⟩ := G
  exact ⟨s₂, o, X.laload hx (by rw [eT]; exact A.1) (State.isArrayOf_alike hZ.alike A.2.1) A.2.2 (inb_at r1 hj (lt_of_at hi)) (by rw [(idx_nat hj).2]; exact slot_at r1 hi) (g := mkF m pc L (.int j :: .ref a :: st)) rfl rfl (by rw [hby]; exact d1) _ g1, g2⟩
theorem go_caload {a : Addr} {vs : List Value} {j : Int32} (i : Nat) {v : Value} (K : Cx w R Z n0 own bytes mx rt nm) (H : At1 w T h k n) (d : Dc bytes pc .caload 1 pc') (A : VA Z h a .char vs) (hj : j.toInt = (i : Int)) (hi : vs[i]? = some v) (G : Go w Q T pc' L (v :: st)) : Go w Q T pc L (.int j :: .ref a :: st) := by
  obtain ⟨p, l, e, R', s, m, args, below, meth, c, Z', k0⟩ := w
  obtain ⟨hx, hby, hml, hown, hZ, -⟩ := K
  obtain ⟨locs, X, eT, N⟩ := H
  obtain ⟨d1, rfl⟩ := d
  obtain ⟨cl, A, r1, r2⟩ := A
  obtain ⟨s₂, o, g1, g2⟩ := G
  exact ⟨s₂, o, X.caload hx (by rw [eT]; exact A.1) (State.isArrayOf_alike hZ.alike A.2.1) A.2.2 (inb_at r1 hj (lt_of_at hi)) (by rw [(idx_nat hj).2]; exact slot_at r1 hi) (g := mkF m pc L (.int j :: .ref a :: st)) rfl rfl (by rw [hby]; exact d1) _ g1, g2⟩
theorem go_baload {a : Addr} {vs : List Value} {j : Int32} (i : Nat) {v : Value} (K : Cx w R Z n0 own bytes mx rt nm) (H : At1 w T h k n) (d : Dc bytes pc .baload 1 pc') (A : VA Z h a .byte vs) (hj : j.toInt = (i : Int)) (hi : vs[i]? = some v) (G : Go w Q T pc' L (v :: st)) : Go w Q T pc L (.int j :: .ref a :: st) := by
  obtain ⟨p, l, e, R', s, m, args, below, meth, c, Z', k0⟩ := w
  obtain ⟨hx, hby, hml, hown, hZ, -⟩ := K
  obtain ⟨locs, X, eT, N⟩ := H
  obtain ⟨d1, rfl⟩ := d
  obtain ⟨cl, A, r1, r2⟩ := A
  obtain ⟨s₂, o, g1, g2⟩ := G
  exact ⟨s₂, o, X.baloadBytes hx (by rw [eT]; exact A.1) (State.isArrayOf_alike hZ.alike A.2.1) A.2.2 (inb_at r1 hj (lt_of_at hi)) (by rw [(idx_nat hj).2]; exact slot_at r1 hi) (g := mkF m pc L (.int j :: .ref a :: st)) rfl rfl (by rw [hby]; exact d1) _ g1, g2⟩
theorem go_aaload {a : Addr} {ty : FieldType} {vs : List Value} {j : Int32} (i : Nat) {v : Value} (K : Cx w R Z n0 own bytes mx rt nm) (H : At1 w T h k n) (d : Dc bytes pc .aaload 1 pc') (A : VA Z h a ty vs) (hty : ty.isReference = true) (hj : j.toInt = (i : Int)) (hi : vs[i]? = some v) (G : Go w Q T pc' L (v :: st)) : Go w Q T pc L (.int j :: .ref a :: st) := by
  obtain ⟨p, l, e, R', s, m, args, below, meth, c, Z', k0⟩ := w
  obtain ⟨hx, hby, hml, hown, hZ, -⟩ := K
  obtain ⟨locs, X, eT, N⟩ := H
  obtain ⟨d1, rfl⟩ := d
  obtain ⟨cl, A, r1, r2⟩ := A
  obtain ⟨s₂, o, g1, g2⟩ := G
  exact ⟨s₂, o, X.aaload hx (by rw [eT]; exact A.1) (State.isArrayOf_alike hZ.alike A.2.1) hty A.2.2 (inb_at r1 hj (lt_of_at hi)) (by rw [(idx_nat hj).2]; exact slot_at r1 hi) (g := mkF m pc L (.int j :: .ref a :: st)) rfl rfl (by rw [hby]; exact d1) _ g1, g2⟩
theorem go_iastore {a : Addr} {vs : List Value} {j : Int32} {x : Int32} (i : Nat) (K : Cx w R Z n0 own bytes mx rt nm) (H : At1 w T h k n) (d : Dc bytes pc .iastore 1 pc') (A : VA Z h a .int vs) (hj : j.toInt = (i : Int)) (hi : i < vs.length) (ha : n0 ≤ a) (G : ∀ T' h', At1 w T' h' k n → Wr h h' a i (.int x) → Go w Q T' pc' L st) : Go w Q T pc L (.int x :: .int j :: .ref a :: st) := by
  obtain ⟨p, l, e, R', s, m, args, below, meth, c, Z', k0⟩ := w
  obtain ⟨hx, hby, hml, hown, hZ, hret, hnm, hlk, rfl, rfl, rfl, h00⟩ := K
  obtain ⟨locs, X, eT, N⟩ := H
  obtain ⟨d1, rfl⟩ := d
  obtain ⟨cl, A, r1, r2⟩ := A
  obtain ⟨T', h', X', e', W, stp⟩ := stI X hx hZ eT A (inb_at r1 hj hi) (g := mkF m pc L (.int x :: .int j :: .ref a :: st)) rfl rfl (by rw [hby]; exact d1)
  obtain ⟨s₂, o, g1, g2⟩ := G T' h' ⟨_, X', e', Fr.snoc X' N ha⟩ (by rw [← (idx_nat hj).2]; exact W)
  exact ⟨s₂, o, stp _ g1, g2⟩
theorem go_lastore {a : Addr} {vs : List Value} {j : Int32} {x : Int64} (i : Nat) (K : Cx w R Z n0 own bytes mx rt nm) (H : At1 w T h k n) (d : Dc bytes pc .lastore 1 pc') (A : VA Z h a .long vs) (hj : j.toInt = (i : Int)) (hi : i < vs.length) (ha : n0 ≤ a) (G : ∀ T' h', At1 w T' h' k n → Wr h h' a i (.long x) → Go w Q T' pc' L st) : Go w Q T pc L (.long x :: .int j :: .ref a :: st) := by
  obtain ⟨p, l, e, R', s, m, args, below, meth, c, Z', k0⟩ := w
  obtain ⟨hx, hby, hml, hown, hZ, hret, hnm, hlk, rfl, rfl, rfl, h00⟩ := K
  obtain ⟨locs, X, eT, N⟩ := H
  obtain ⟨d1, rfl⟩ := d
  obtain ⟨cl, A, r1, r2⟩ := A
  obtain ⟨T', h', X', e', W, stp⟩ := stJ X hx hZ eT A (inb_at r1 hj hi) (g := mkF m pc L (.long x :: .int j :: .ref a :: st)) rfl rfl (by rw [hby]; exact d1)
  obtain ⟨s₂, o, g1, g2⟩ := G T' h' ⟨_, X', e', Fr.snoc X' N ha⟩ (by rw [← (idx_nat hj).2]; exact W)
  exact ⟨s₂, o, stp _ g1, g2⟩
theorem go_castore {a : Addr} {vs : List Value} {j : Int32} {x : Int32} (i : Nat) (K : Cx w R Z n0 own bytes mx rt nm) (H : At1 w T h k n) (d : Dc bytes pc .castore 1 pc') (A : VA Z h a .char vs) (hj : j.toInt = (i : Int)) (hi : i < vs.length) (ha : n0 ≤ a) (G : ∀ T' h', At1 w T' h' k n → Wr h h' a i (.int (nar .char x)) → Go w Q T' pc' L st) : Go w Q T pc L (.int x :: .int j :: .ref a :: st) := by
  obtain ⟨p, l, e, R', s, m, args, below, meth, c, Z', k0⟩ := w
  obtain ⟨hx, hby, hml, hown, hZ, hret, hnm, hlk, rfl, rfl, rfl, h00⟩ := K
  obtain ⟨locs, X, eT, N⟩ := H
  obtain ⟨d1, rfl⟩ := d
  obtain ⟨cl, A, r1, r2⟩ := A
  obtain ⟨T', h', X', e', W, stp⟩ := stC X hx hZ eT A (inb_at r1 hj hi) (g := mkF m pc L (.int x :: .int j :: .ref a :: st)) rfl rfl (by rw [hby]; exact d1)
  obtain ⟨s₂, o, g1, g2⟩ := G T' h' ⟨_, X', e', Fr.snoc X' N ha⟩ (by rw [← (idx_nat hj).2]; exact W)
  exact ⟨s₂, o, stp _ g1, g2⟩
theorem go_bastore {a : Addr} {vs : List Value} {j : Int32} {x : Int32} (i : Nat) (K : Cx w R Z n0 own bytes mx rt nm) (H : At1 w T h k n) (d : Dc bytes pc .bastore 1 pc') (A : VA Z h a .byte vs) (hj : j.toInt = (i : Int)) (hi : i < vs.length) (ha : n0 ≤ a) (G : ∀ T' h', At1 w T' h' k n → Wr h h' a i (.int x.toInt8.toInt32) → Go w Q T' pc' L st) : Go w Q T pc L (.int x :: .int j :: .ref a :: st) := by
  obtain ⟨p, l, e, R', s, m, args, below, meth, c, Z', k0⟩ := w
  obtain ⟨hx, hby, hml, hown, hZ, hret, hnm, hlk, rfl, rfl, rfl, h00⟩ := K
  obtain ⟨locs, X, eT, N⟩ := H
  obtain ⟨d1, rfl⟩ := d
  obtain ⟨cl, A, r1, r2⟩ := A
  obtain ⟨T', h', X', e', W, stp⟩ := stB X hx hZ eT A (inb_at r1 hj hi) (g := mkF m pc L (.int x :: .int j :: .ref a :: st)) rfl rfl (by rw [hby]; exact d1)
  obtain ⟨s₂, o, g1, g2⟩ := G T' h' ⟨_, X', e', Fr.snoc X' N ha⟩ (by rw [← (idx_nat hj).2]; exact W)
  exact ⟨s₂, o, stp _ g1, g2⟩
theorem at_nat {α : Type} {xs : List α} {j : Int32} (h0 : 0 ≤ j.toInt) (h1 : j.toInt < xs.length) : ∃ (i : Nat) (x : α), j.toInt = (i : Int) ∧ xs[i]? = some x :=
  ⟨j.toInt.toNat, _, (Int.toNat_of_nonneg h0).symm, List.getElem?_eq_getElem (by omega)⟩
theorem go_iaI {a : Addr} {xs : List Int32} {j : Int32} (K : Cx w R Z n0 own bytes mx rt nm) (H : At1 w T h k n) (d : Dc bytes pc .iaload 1 pc') (A : IA Z h a xs) (h0 : 0 ≤ j.toInt) (h1 : j.toInt < xs.length) (G : ∀ (i : Nat) (x : Int32), j.toInt = (i : Int) → xs[i]? = some x → Go w Q T pc' L (.int x :: st)) : Go w Q T pc L (.int j :: .ref a :: st) := by
  obtain ⟨i, x, e, hx⟩ := at_nat h0 h1
  exact go_iaload i K H d A e (by rw [List.getElem?_map, hx]; rfl) (G i x e hx)
theorem go_laJ {a : Addr} {xs : List Int64} {j : Int32} (K : Cx w R Z n0 own bytes mx rt nm) (H : At1 w T h k n) (d : Dc bytes pc .laload 1 pc') (A : JA Z h a xs) (h0 : 0 ≤ j.toInt) (h1 : j.toInt < xs.length) (G : ∀ (i : Nat) (x : Int64), j.toInt = (i : Int) → xs[i]? = some x → Go w Q T pc' L (.long x :: st)) : Go w Q T pc L (.int j :: .ref a :: st) := by
  obtain ⟨i, x, e, hx⟩ := at_nat h0 h1
  exact go_laload i K H d A e (by rw [List.getElem?_map, hx]; rfl) (G i x e hx)
theorem go_iasI {a : Addr} {xs : List Int32} {j x : Int32} (K : Cx w R Z n0 own bytes mx rt nm) (H : At1 w T h k n) (d : Dc bytes pc .iastore 1 pc') (A : IA Z h a xs) (h0 : 0 ≤ j.toInt) (h1 : j.toInt < xs.length) (ha : n0 ≤ a) (G : ∀ T' h' (i : Nat), At1 w T' h' k n → j.toInt = (i : Int) → Wr h h' a i (.int x) → IA Z h' a (xs.set i x) → Go w Q T' pc' L st) : Go w Q T pc L (.int x :: .int j :: .ref a :: st) := by
  have e : j.toInt = (j.toInt.toNat : Int) := (Int.toNat_of_nonneg h0).symm
  exact go_iastore j.toInt.toNat K H d A e (by rw [List.length_map]; omega) ha fun T' h' H' W => G T' h' _ H' e W (IA.set A W)
theorem go_lasJ {a : Addr} {xs : List Int64} {j : Int32} {x : Int64} (K : Cx w R Z n0 own bytes mx rt nm) (H : At1 w T h k n) (d : Dc bytes pc .lastore 1 pc') (A : JA Z h a xs) (h0 : 0 ≤ j.toInt) (h1 : j.toInt < xs.length) (ha : n0 ≤ a) (G : ∀ T' h' (i : Nat), At1 w T' h' k n → j.toInt = (i : Int) → Wr h h' a i (.long x) → JA Z h' a (xs.set i x) → Go w Q T' pc' L st) : Go w Q T pc L (.long x :: .int j :: .ref a :: st) := by
  have e : j.toInt = (j.toInt.toNat : Int) := (Int.toNat_of_nonneg h0).symm
  exact go_lastore j.toInt.toNat K H d A e (by rw [List.length_map]; omega) ha fun T' h' H' W => G T' h' _ H' e W (JA.set A W)
/-- an array of references over C: all its components -/
def OA (Z : State) (h : Heap) (a : Addr) (C : String) (vs : List Value) : Prop := ∃ c : Cell, Arr Z h a c (.object C) ∧ c.slots.toList = vs ∧ vs.length < 2 ^ 31 ∧ Ovr Z c.cls C
theorem OA.va {a : Addr} {C : String} {vs : List Value} (A : OA Z h a C vs) : VA Z h a (.object C) vs := by obtain ⟨c, A, r1, r2, -⟩ := A; exact ⟨c, A, r1, r2⟩
theorem OA.ext {a : Addr} {C : String} {vs : List Value} {h' : Heap} (A : OA Z h a C vs) (E : Ext h h') : OA Z h' a C vs := by obtain ⟨c, A, r⟩ := A; exact ⟨c, A.ext E, r⟩
theorem OA.other {a b : Addr} {C : String} {vs : List Value} {h' : Heap} {sl : Nat} {v : Value} (A : OA Z h a C vs) (W : Wr h h' b sl v) (q : a ≠ b) : OA Z h' a C vs := by obtain ⟨c, A, r⟩ := A; exact ⟨c, A.other W q, r⟩
theorem OA.keep {a : Addr} {C : String} {vs : List Value} {h' : Heap} {ws : List Addr} (A : OA Z h a C vs) (K : Keep h h' ws) (q : a ∉ ws) : OA Z h' a C vs := by obtain ⟨c, A, r⟩ := A; exact ⟨c, ⟨K.2.1 a c A.1 q, A.2⟩, r⟩
theorem OA.lt {a : Addr} {C : String} {vs : List Value} (A : OA Z h a C vs) : a < h.size := A.va.lt
theorem OA.set {a : Addr} {C : String} {vs : List Value} {h' : Heap} {i : Nat} {v : Value} (A : OA Z h a C vs) (W : Wr h h' a i v) : OA Z h' a C (vs.set i v) := by
  obtain ⟨c, A, r1, r2, r3⟩ := A
  exact ⟨_, A.same W, by simp [Cell.setSlot, r1], by simpa using r2, r3⟩
theorem go_anewarray {a0 : Array Value} {C : String} {idx : Nat} {m : Int32} (cap : Nat) (K : Cx w R Z n0 own bytes mx rt nm) (H : At1 w T h k n) (d : Dc bytes pc (.anewarray idx) 3 pc') (w1 : (Cond.classLink own idx C).before a0 Z = true) (w2 : (Cond.arrayOver (.object C)).before a0 Z = true) (hm : ¬ m < 0) (hcap : m.toNatClampNeg ≤ cap) (hb : cap * 8 ≤ 536870912) (hk : k + 1 ≤ R.cells) (hn : n + cap ≤ R.slots)
    (G : ∀ T' h' a, At1 w T' h' (k + 1) (n + cap) → a = h.size → n0 ≤ a → Ext h h' → OA Z h' a C (List.replicate m.toNatClampNeg .null) → Go w Q T' pc' L (.ref a :: st)) : Go w Q T pc L (.int m :: st) := by
  obtain ⟨p, l, e, R', s, mm, args, below, meth, c, Z', k0⟩ := w
  obtain ⟨hx, hby, hml, hown, hZ, hret, hnm, hlk, rfl, rfl, rfl, h00⟩ := K
  obtain ⟨locs, X, eT, N⟩ := H
  obtain ⟨d1, rfl⟩ := d
  obtain ⟨T', h', cA, X', e', E, A, O, stp⟩ := newR X hx hZ hown w1 w2 eT (g := mkF mm pc L (.int m :: st)) rfl (by rw [hby]; exact d1) rfl hm hcap hb hk hn
  obtain ⟨s₂, o, g1, g2⟩ := G T' h' h.size ⟨_, X', e', N⟩ rfl (by rw [← eT]; exact Nat.le_trans h00 X.same.2.1) E ⟨_, A, by simp [newA, defaultValue], by simpa using (back32 hm).2, O⟩
  exact ⟨s₂, o, stp _ g1, g2⟩
theorem go_aastore {a : Addr} {C : String} {vs : List Value} {j : Int32} {v : Value} (i : Nat) (K : Cx w R Z n0 own bytes mx rt nm) (H : At1 w T h k n) (d : Dc bytes pc .aastore 1 pc') (A : OA Z h a C vs) (hv : v = .null ∨ ∃ y, v = .ref y ∧ Ins Z h y C true) (hj : j.toInt = (i : Int)) (hi : i < vs.length) (ha : n0 ≤ a) (G : ∀ T' h', At1 w T' h' k n → Wr h h' a i v → OA Z h' a C (vs.set i v) → Go w Q T' pc' L st) : Go w Q T pc L (v :: .int j :: .ref a :: st) := by
  obtain ⟨p, l, e, R', s, m, args, below, meth, c, Z', k0⟩ := w
  obtain ⟨hx, hby, hml, hown, hZ, hret, hnm, hlk, rfl, rfl, rfl, h00⟩ := K
  obtain ⟨locs, X, eT, N⟩ := H
  obtain ⟨d1, rfl⟩ := d
  have A' := A
  obtain ⟨cl, A, r1, r2, r3⟩ := A
  have S : Sto Z' h a v := by
    rcases hv with rfl | ⟨y, rfl, I⟩
    · exact Or.inl rfl
    · exact Sto.of A r3 I
  obtain ⟨T', h', X', e', W, stp⟩ := stR X hx hZ eT A (inb_at r1 hj hi) rfl S (g := mkF m pc L (v :: .int j :: .ref a :: st)) rfl rfl (by rw [hby]; exact d1)
  have W' : Wr h h' a i v := by rw [← (idx_nat hj).2]; exact W
  obtain ⟨s₂, o, g1, g2⟩ := G T' h' ⟨_, X', e', Fr.snoc X' N ha⟩ W' (A'.set W')
  exact ⟨s₂, o, stp _ g1, g2⟩
theorem go_checkcast {a0 : Array Value} {C : String} {idx : Nat} {a : Addr} (K : Cx w R Z n0 own bytes mx rt nm) (H : At1 w T h k n) (d : Dc bytes pc (.checkcast idx) 3 pc') (w1 : (Cond.classLink own idx C).before a0 Z = true) (F : Ins Z h a C true)
    (G : ∀ T', At1 w T' h k n → Go w Q T' pc' L (.ref a :: st)) : Go w Q T pc L (.ref a :: st) := by
  obtain ⟨p, l, e, R', s, m, args, below, meth, c, Z', k0⟩ := w
  obtain ⟨hx, hby, hml, hown, hZ, -⟩ := K
  obtain ⟨locs, X, eT, N⟩ := H
  obtain ⟨d1, rfl⟩ := d
  obtain ⟨T', X', e', stp⟩ := castY X hx hZ hown w1 eT F (g := mkF m pc L (.ref a :: st)) rfl rfl (by rw [hby]; exact d1)
  obtain ⟨s₂, o, g1, g2⟩ := G T' ⟨locs, X', e', N⟩
  exact ⟨s₂, o, stp _ g1, g2⟩
theorem go_instY {a0 : Array Value} {C : String} {idx : Nat} {a : Addr} (K : Cx w R Z n0 own bytes mx rt nm) (H : At1 w T h k n) (d : Dc bytes pc (.instanceof idx) 3 pc') (w1 : (Cond.classLink own idx C).before a0 Z = true) (F : Ins Z h a C true)
    (G : ∀ T', At1 w T' h k n → Go w Q T' pc' L (.int 1 :: st)) : Go w Q T pc L (.ref a :: st) := by
  obtain ⟨p, l, e, R', s, m, args, below, meth, c, Z', k0⟩ := w
  obtain ⟨hx, hby, hml, hown, hZ, -⟩ := K
  obtain ⟨locs, X, eT, N⟩ := H
  obtain ⟨d1, rfl⟩ := d
  obtain ⟨T', X', e', stp⟩ := instY X hx hZ hown w1 eT F (g := mkF m pc L (.ref a :: st)) rfl rfl (by rw [hby]; exact d1)
  obtain ⟨s₂, o, g1, g2⟩ := G T' ⟨locs, X', e', N⟩
  exact ⟨s₂, o, stp _ g1, g2⟩
theorem eqI_v {t : Term} {z : Int32} {args : Array Value} {s : State} (h : (Cond.eq t (.int z)).value args s none s [] = some true) : t.eval args s none [] s = some (.int z) := by
  obtain ⟨x, y, h1, h2, k1, k2⟩ := cmp_v (Or.inl h)
  cases (Term.int_eval z).symm.trans h2
  obtain ⟨q, rfl⟩ := k2
  rw [h1, gotT (Cond.eq_ints h1 h2) h]
theorem len_size {t : Term} {z : Int32} {a : Addr} {c : Cell} {args : Array Value} {s : State} (h : (Term.length t).eval args s none [] s = some (.int z)) (ht : t.eval args s none [] s = some (.ref a)) (hc : s.heap[a]? = some c) : (c.slots.size : Int) = z.toInt := by
  obtain ⟨a', c', e1, e2, e3⟩ := Term.length_spec h
  cases ht.symm.trans e1
  cases hc.symm.trans (State.arrayAt?_spec e2).1
  by_cases q : c.slots.size < 2 ^ 31
  · cases e3; exact (len_toInt q).symm
  · simp [Term.eval, ht, e2, q] at h
theorem elem_val {t : Term} {z : Int32} {a : Addr} {c : Cell} {args : Array Value} {s : State} {j : Int32} (h : (Term.elem t (.int j)).eval args s none [] s = some (.int z)) (ht : t.eval args s none [] s = some (.ref a)) (hc : s.heap[a]? = some c) : c.slots[j.toNatClampNeg]? = some (.int z) := (elem_in h ht (Term.int_eval j) hc).2
theorem go_instNull {idx : Nat} (K : Cx w R Z n0 own bytes mx rt nm) (H : At1 w T h k n) (d : Dc bytes pc (.instanceof idx) 3 pc') (G : Go w Q T pc' L (.int 0 :: st)) : Go w Q T pc L (.null :: st) := by
  obtain ⟨p, l, e, R', s, m, args, below, meth, c, Z', k0⟩ := w
  obtain ⟨hx, hby, -⟩ := K
  obtain ⟨locs, X, eT, N⟩ := H
  obtain ⟨d1, rfl⟩ := d
  obtain ⟨s₂, o, g1, g2⟩ := G
  exact ⟨s₂, o, X.instanceofNull hx (g := mkF m pc L (.null :: st)) rfl rfl (by rw [hby]; exact d1) _ g1, g2⟩
theorem go_instNo {a0 : Array Value} {C C' : String} {idx : Nat} {a : Addr} (K : Cx w R Z n0 own bytes mx rt nm) (H : At1 w T h k n) (d : Dc bytes pc (.instanceof idx) 3 pc') (w1 : (Cond.classLink own idx C).before a0 Z = true) (E : Exa Z h a C') (F : ∃ c t, Z.vm.findClass C' = some c ∧ Z.vm.findClass C = some t ∧ Z.vm.assignable c t = false)
    (G : ∀ T', At1 w T' h k n → Go w Q T' pc' L (.int 0 :: st)) : Go w Q T pc L (.ref a :: st) := by
  obtain ⟨p, l, e, R', s, m, args, below, meth, c, Z', k0⟩ := w
  obtain ⟨hx, hby, hml, hown, hZ, -⟩ := K
  obtain ⟨locs, X, eT, N⟩ := H
  obtain ⟨d1, rfl⟩ := d
  obtain ⟨T', X', e', stp⟩ := instNo X hx hZ hown w1 eT E F (g := mkF m pc L (.ref a :: st)) rfl rfl (by rw [hby]; exact d1)
  obtain ⟨s₂, o, g1, g2⟩ := G T' ⟨locs, X', e', N⟩
  exact ⟨s₂, o, stp _ g1, g2⟩
theorem ns_root {a0 : Array Value} {O C : String} {j : Nat} (w1 : (Cond.noSuperclass O).before a0 Z = true) (wk : (Cond.instantiable C j).before a0 Z = true) (hn : O ≠ C) : NS Z O C := by
  obtain ⟨c, k, h1, h2, h3, -, -⟩ := Cond.noSuperclass_spec w1
  obtain ⟨t, kt, g1, -⟩ := Cond.instantiable_spec wk
  have ne := ids_ne h1 g1 hn
  refine ⟨c, t, h1, g1, fun fuel => ?_⟩
  cases fuel with
  | zero => rfl
  | succ f => simp [Vm.isSubclassAux, ne, h2, h3]
theorem ns_no {a0 : Array Value} {C S C' : String} {j : Nat} (w1 : (Cond.superclass C S).before a0 Z = true) (wk : (Cond.instantiable C' j).before a0 Z = true) (n : NS Z C C') (hn : C ≠ C') : ∃ c t, Z.vm.findClass C = some c ∧ Z.vm.findClass C' = some t ∧ Z.vm.assignable c t = false := by
  obtain ⟨c, t, h0, g0, n3⟩ := n
  obtain ⟨p, k, kp, h1, h2, h3, h4, h5, -, h7⟩ := Cond.superclass_spec h0 w1
  obtain ⟨q, k', g1, g2, g3, g4, -⟩ := Cond.instantiable_spec wk
  cases g0.symm.trans g1
  have ne := ids_ne h0 g0 hn
  refine ⟨c, _, h0, g0, ?_⟩
  show Z.vm.assignableAux (255 + 1) c _ = false
  simp [Vm.assignableAux, ne, h2, g2, h5, g3, (Bool.or_eq_false_iff.mp g4).1, Vm.isSubclass, n3]
theorem VA.arv {a : Addr} {ty : FieldType} {vs : List Value} (A : VA Z h a ty vs) (dv : Value) (hf : ∀ v ∈ vs, fits ty v = true) : ∃ cid, Arv Z h a cid ty (Nat.toInt32 vs.length) vs dv := by
  obtain ⟨c, A, r1, r2⟩ := A
  have hs : c.slots.size = vs.length := by rw [← r1]; simp
  have hn : (Nat.toInt32 vs.length).toNatClampNeg = vs.length := by simp only [Int32.toNatClampNeg, len_toInt r2]; rfl
  refine ⟨c.cls, c, A, rfl, by rw [hn, hs], ?_, fun i hi => ?_, fun i hi => ?_⟩
  · rw [Int32.lt_iff_toInt_lt, len_toInt r2]; show ¬ ((vs.length : Int) < 0); omega
  · rw [hs] at hi
    rw [← Array.getElem?_toList, r1, List.getD_eq_getElem?_getD, List.getElem?_eq_getElem hi]; rfl
  · rw [hs] at hi
    rw [List.getD_eq_getElem?_getD, List.getElem?_eq_getElem hi]; exact hf _ (List.getElem_mem hi)
theorem VA.of_arr {a : Addr} {ty : FieldType} {c : Cell} {vs : List Value} (A : Arr Z h a c ty) (hs : c.slots.size = vs.length) (hl : vs.length < 2 ^ 31) (he : ∀ i, i < vs.length → c.slots[i]? = vs[i]?) : VA Z h a ty vs := by
  refine ⟨c, A, List.ext_getElem? fun i => ?_, hl⟩
  rw [Array.getElem?_toList]
  by_cases q : i < vs.length
  · exact he i q
  · rw [List.getElem?_eq_none (by omega), Array.getElem?_eq_none (by omega)]
theorem VA.of_arv {a : Addr} {ty : FieldType} {cid : ClassId} {z : Int32} {vs : List Value} {dv : Value} (A : Arv Z h a cid ty z vs dv) (hl : vs.length = z.toNatClampNeg) (hz : vs.length < 2 ^ 31) : VA Z h a ty vs := by
  obtain ⟨c, A, -, hs, -, H, -⟩ := A
  refine VA.of_arr A (by rw [hs, hl]) hz fun i hi => ?_
  rw [H i (by rw [hs, ← hl]; exact hi), List.getD_eq_getElem?_getD, List.getElem?_eq_getElem hi]; rfl
theorem go_copyI {a0 : Array Value} {idx : Nat} {a b : Addr} {xs ys : List Int32} {sp dp nn : Int32} (i j l : Nat) (K : Cx w R Z n0 own bytes mx rt nm) (H : At1 w T h k n) (d : Dc bytes pc (.invokestatic idx) 3 pc') (w1 : (Cond.methodLink own idx Jvm.Stand.acN).before a0 Z = true) (w2 : (Cond.native Jvm.Stand.acN).before a0 Z = true) (w3 : (Cond.static Jvm.Stand.acN).before a0 Z = true) (w4 : (Cond.initialized "java/lang/System").before a0 Z = true)
    (A : IA Z h a xs) (B : IA Z h b ys) (e1 : sp.toInt = (i : Int)) (e2 : dp.toInt = (j : Int)) (e3 : nn.toInt = (l : Int)) (b1 : i + l ≤ xs.length) (b2 : j + l ≤ ys.length) (ge : n0 ≤ b) (hL : L.size = mx) (hf : 1 ≤ R.frames) {W : Nat} (hW : (st.map fun v => v.category).sum = W) (hl : W + (nativeFrameWords "java/lang/System" "arraycopy" 5 + 11) ≤ R.locals)
    (G : ∀ T' h', At1 w T' h' k n → Keep h h' [b] → IA Z h' b (ys.take j ++ (xs.drop i).take l ++ ys.drop (j + l)) → Go w Q T' pc' L st) : Go w Q T pc L (.int nn :: .int dp :: .ref b :: .int sp :: .ref a :: st) := by
  obtain ⟨p, l', e, R', s, m, args, below, meth, c, Z', k0⟩ := w
  obtain ⟨hx, hby, hml, hown, hZ, hret, hnm, hlk, rfl, rfl, rfl, h00⟩ := K
  obtain ⟨locs, X, eT, N⟩ := H
  obtain ⟨d1, rfl⟩ := d
  have ft : ∀ (zs : List Int32), ∀ v ∈ zs.map Value.int, fits .int v = true := fun zs v hv => by obtain ⟨y, -, rfl⟩ := List.mem_map.mp hv; rfl
  have la := A.len
  have lb := B.len
  obtain ⟨ca, VA1⟩ := VA.arv A (.int 0) (ft xs)
  obtain ⟨cb, VB1⟩ := VA.arv B (.int 0) (ft ys)
  have la' : (Nat.toInt32 (xs.map Value.int).length).toNatClampNeg = xs.length := by simp only [List.length_map, Int32.toNatClampNeg, len_toInt la]; rfl
  have lb' : (Nat.toInt32 (ys.map Value.int).length).toNatClampNeg = ys.length := by simp only [List.length_map, Int32.toNatClampNeg, len_toInt lb]; rfl
  have hus : ((xs.drop i).take l).map Value.int = (List.range nn.toNatClampNeg).map fun q => (xs.map Value.int).getD (sp.toNatClampNeg + q) (.int 0) := by
    rw [(idx_nat e3).2, (idx_nat e1).2]
    apply List.ext_getElem?
    intro q
    rw [List.getElem?_map, List.getElem?_map]
    by_cases hq : q < l
    · rw [List.getElem?_take_of_lt hq, List.getElem?_drop, List.getElem?_range hq, List.getElem?_eq_getElem (show i + q < xs.length by omega)]
      simp [List.getD_eq_getElem?_getD, List.getElem?_eq_getElem (show i + q < xs.length by omega)]
    · rw [List.getElem?_eq_none (by simp; omega), List.getElem?_eq_none (by simp; omega)]; rfl
  obtain ⟨T', h', L2, X', e', N', K', B', stp⟩ := cpA X hx hZ hown w1 w2 w3 w4 eT VA1 VB1 (Or.inl ⟨rfl, rfl⟩) (idx_nat e1).1 (idx_nat e2).1 (idx_nat e3).1 (by rw [(idx_nat e1).2, (idx_nat e3).2, la']; exact b1) (by rw [(idx_nat e2).2, (idx_nat e3).2, lb']; exact b2) hus (by rw [(idx_nat e2).2, (idx_nat e3).2, List.length_map]; exact b2) N ge (g := mkF m pc L (.int nn :: .int dp :: .ref b :: .int sp :: .ref a :: st)) rfl (hL.trans hml.symm) rfl (by rw [hby]; exact d1) hf (W := W) (by show 2 * 0 + _ ≤ _; rw [hW]; omega) hl
  rw [(idx_nat e2).2, (idx_nat e3).2] at B'
  have B2 : IA Z' h' b (ys.take j ++ (xs.drop i).take l ++ ys.drop (j + l)) := by
    have q := VA.of_arv B' (by rw [lb']; simp; omega) (by simp; omega)
    rw [← List.map_take, ← List.map_drop, ← List.map_append, ← List.map_append] at q
    exact q
  obtain ⟨s₂, o, g1, g2⟩ := G T' h' ⟨_, X', e', N'⟩ K' B2
  exact ⟨s₂, o, stp _ g1, g2⟩
theorem f_iadd {v x y : Int32} (e : v = x + y) : (v.toInt - (x.toInt + y.toInt)) % 4294967296 = 0 := e ▸ c_iadd x y
theorem f_isub {v x y : Int32} (e : v = x - y) : (v.toInt - (x.toInt - y.toInt)) % 4294967296 = 0 := e ▸ c_isub x y
theorem f_imul {v x y : Int32} (e : v = x * y) : (v.toInt - (x.toInt * y.toInt)) % 4294967296 = 0 := e ▸ c_imul x y
theorem f_ineg {v x : Int32} (e : v = -x) : (v.toInt - (-x.toInt)) % 4294967296 = 0 := e ▸ c_ineg x
theorem f_ladd {v x y : Int64} (e : v = x + y) : (v.toInt - (x.toInt + y.toInt)) % 18446744073709551616 = 0 := e ▸ c_ladd x y
theorem f_lsub {v x y : Int64} (e : v = x - y) : (v.toInt - (x.toInt - y.toInt)) % 18446744073709551616 = 0 := e ▸ c_lsub x y
theorem f_lmul {v x y : Int64} (e : v = x * y) : (v.toInt - (x.toInt * y.toInt)) % 18446744073709551616 = 0 := e ▸ c_lmul x y
theorem f_lneg {v x : Int64} (e : v = -x) : (v.toInt - (-x.toInt)) % 18446744073709551616 = 0 := e ▸ c_lneg x
theorem f_l2i {v : Int32} {x : Int64} (e : v = x.toInt32) : (v.toInt - x.toInt) % 4294967296 = 0 := e ▸ c_l2i x
theorem f_i2l {v : Int64} {x : Int32} (e : v = x.toInt64) : v.toInt = x.toInt := e ▸ c_i2l x
theorem f_i2b {v x : Int32} (e : v = x.toInt8.toInt32) : (v.toInt - x.toInt) % 256 = 0 ∧ -128 ≤ v.toInt ∧ v.toInt < 128 := e ▸ c_i2b x
theorem f_i2s {v x : Int32} (e : v = x.toInt16.toInt32) : (v.toInt - x.toInt) % 65536 = 0 ∧ -32768 ≤ v.toInt ∧ v.toInt < 32768 := e ▸ c_i2s x
theorem f_i2c {v x : Int32} (e : v = x.toUInt32.toUInt16.toUInt32.toInt32) : (v.toInt - x.toInt) % 65536 = 0 ∧ 0 ≤ v.toInt ∧ v.toInt < 65536 := e ▸ c_i2c x
theorem f_mask {v x m : Int32} (M : Nat) (k : Nat) (e : v = x &&& m) (hk : k ≤ 31) (hm : m.toBitVec.toNat = 2 ^ k - 1) (hM : 2 ^ k = M) : v.toInt = x.toInt % (M : Nat) := by rw [e, ← hM]; exact c_mask x m k hk hm
theorem f_maskL {v x m : Int64} (M : Nat) (k : Nat) (e : v = x &&& m) (hk : k ≤ 63) (hm : m.toBitVec.toNat = 2 ^ k - 1) (hM : 2 ^ k = M) : v.toInt = x.toInt % (M : Nat) := by rw [e, ← hM]; exact c_maskL x m k hk hm
theorem f_ishr {v x q : Int32} (M : Nat) (k : Nat) (e : v = x >>> (q &&& 31)) (hk : q.toBitVec.toNat % 32 = k) (hM : 2 ^ k = M) : v.toInt = x.toInt / (M : Nat) := by rw [e, ← hM]; exact c_ishr x q k hk
theorem f_ishl {v x q : Int32} (M : Nat) (k : Nat) (e : v = x <<< (q &&& 31)) (hk : q.toBitVec.toNat % 32 = k) (hM : 2 ^ k = M) : (v.toInt - x.toInt * (M : Nat)) % 4294967296 = 0 := by rw [e, ← hM]; exact c_ishl x q k hk
theorem f_iushr {v x q : Int32} (M : Nat) (k : Nat) (e : v = iU x q) (hk : q.toBitVec.toNat % 32 = k) (h0 : 0 < k) (hM : 2 ^ k = M) : v.toInt = (x.toInt % 4294967296) / (M : Nat) := by rw [e, ← hM]; exact c_iushr x q k hk h0
theorem f_lshr {v x : Int64} {q : Int32} (M : Nat) (k : Nat) (e : v = x >>> (q &&& 0x3f).toInt64) (hk : q.toBitVec.toNat % 64 = k) (hM : 2 ^ k = M) : v.toInt = x.toInt / (M : Nat) := by rw [e, ← hM]; exact c_lshr x q k hk
theorem f_lshl {v x : Int64} {q : Int32} (M : Nat) (k : Nat) (e : v = x <<< (q &&& 0x3f).toInt64) (hk : q.toBitVec.toNat % 64 = k) (hM : 2 ^ k = M) : (v.toInt - x.toInt * (M : Nat)) % 18446744073709551616 = 0 := by rw [e, ← hM]; exact c_lshl x q k hk
theorem f_lushr {v x : Int64} {q : Int32} (M : Nat) (k : Nat) (e : v = lU x q) (hk : q.toBitVec.toNat % 64 = k) (h0 : 0 < k) (hM : 2 ^ k = M) : v.toInt = (x.toInt % 18446744073709551616) / (M : Nat) := by rw [e, ← hM]; exact c_lushr x q k hk h0
theorem f_idiv {v x y : Int32} (d : Int) (e : v = x / y) (hy : y.toInt = d) (hd : y ≠ -1) : (0 ≤ x.toInt → v.toInt = x.toInt / d) ∧ (x.toInt < 0 → v.toInt = -((-x.toInt) / d)) := e ▸ c_idiv x y d hy hd
theorem f_irem {v x y : Int32} (d : Int) (e : v = x % y) (hy : y.toInt = d) : (0 ≤ x.toInt → v.toInt = x.toInt % d) ∧ (x.toInt < 0 → v.toInt = -((-x.toInt) % d)) := e ▸ c_irem x y d hy
theorem f_ldiv {v x y : Int64} (d : Int) (e : v = x / y) (hy : y.toInt = d) (hd : y ≠ -1) : (0 ≤ x.toInt → v.toInt = x.toInt / d) ∧ (x.toInt < 0 → v.toInt = -((-x.toInt) / d)) := e ▸ c_ldiv x y d hy hd
theorem f_lrem {v x y : Int64} (d : Int) (e : v = x - (x / y) * y) (hy : y.toInt = d) : (0 ≤ x.toInt → v.toInt = x.toInt % d) ∧ (x.toInt < 0 → v.toInt = -((-x.toInt) % d)) := e ▸ c_lrem x y d hy
theorem f_lcmp {v : Int32} {x y : Int64} (e : v = lcmpW x y) : (x.toInt < y.toInt → v.toInt = -1) ∧ (x.toInt = y.toInt → v.toInt = 0) ∧ (y.toInt < x.toInt → v.toInt = 1) := e ▸ c_lcmp x y
def bI (p : Prop) [Decidable p] : Int32 := if p then 1 else 0
theorem bI_t {p : Prop} [Decidable p] (h : p) : bI p = 1 := if_pos h
theorem bI_f {p : Prop} [Decidable p] (h : ¬ p) : bI p = 0 := if_neg h
theorem bI_nar {p : Prop} [Decidable p] : nar .boolean (bI p) = bI p := by unfold bI; split <;> decide
theorem bI_iff {p q : Prop} [Decidable p] [Decidable q] (h : p ↔ q) : bI p = bI q := by simp [bI, h]
theorem bI_eq0 {p : Prop} [Decidable p] : bI p = 0 ↔ ¬ p := by unfold bI; split <;> simp_all
theorem bI_eq1 {p : Prop} [Decidable p] : bI p = 1 ↔ p := by unfold bI; split <;> simp_all
theorem bI_inj {p q : Prop} [Decidable p] [Decidable q] : bI p = bI q ↔ (p ↔ q) := by unfold bI; split <;> split <;> simp_all
theorem bI_ne0 {p : Prop} [Decidable p] : ¬ bI p = 0 ↔ p := by unfold bI; split <;> simp_all
theorem go_lookup (K : Cx w R Z n0 own bytes mx rt nm) (H : At1 w T h k n) {x : Int32} {df off : Int} {ps : Array (Int × Int)} {q yes no : Nat} (d : Dc bytes pc (.lookupswitch df ps) q pc') (hs : (ps.toList.zip (ps.toList.drop 1)).all (fun (a, next) => a.1 < next.1) = true) (hall : ∀ p ∈ ps.toList, p.2 = off) (hy0 : 0 ≤ (pc : Int) + off) (hy : ((pc : Int) + off).toNat = yes) (hn0 : 0 ≤ (pc : Int) + df) (hn : ((pc : Int) + df).toNat = no)
    (G1 : x.toInt ∈ ps.toList.map (·.1) → Go w Q T yes L st) (G2 : x.toInt ∉ ps.toList.map (·.1) → Go w Q T no L st) : Go w Q T pc L (.int x :: st) := by
  obtain ⟨p, l, e, R', s, m, args, below, meth, c, Z', k0⟩ := w
  obtain ⟨hx, hby, -⟩ := K
  obtain ⟨locs, X, -⟩ := H
  subst hy hn
  cases hf : ps.find? (·.1 == x.toInt) with
  | none =>
    have : x.toInt ∉ ps.toList.map (·.1) := by
      intro hm
      obtain ⟨a, ha, e⟩ := List.mem_map.mp hm
      have := Array.find?_eq_none.mp hf a (Array.mem_toList_iff.mp ha)
      simp [e] at this
    obtain ⟨s₂, o, g1, g2⟩ := G2 this
    exact ⟨s₂, o, X.lookupswitchMiss hx (g := mkF m pc L (.int x :: st)) rfl rfl (by rw [hby]; exact d.1) hs hf hn0 _ g1, g2⟩
  | some a =>
    obtain ⟨b, off'⟩ := a
    have hm := Array.mem_toList_iff.mpr (Array.mem_of_find?_eq_some hf)
    have hb : b = x.toInt := by simpa using Array.find?_some hf
    obtain rfl : off' = off := hall _ hm
    obtain ⟨s₂, o, g1, g2⟩ := G1 (List.mem_map.mpr ⟨_, hm, hb⟩)
    exact ⟨s₂, o, X.lookupswitchHit hx (g := mkF m pc L (.int x :: st)) rfl rfl (by rw [hby]; exact d.1) hs hf hy0 _ g1, g2⟩
theorem con_back {l : Launch} {p : Program} {e : Env} {s : State} {args : Array Value} {below : List Frame} {a0 : Array Value} {y : MethodName} {yb : ByteArray} {ym : Nat} {yr : Option FieldType} {rm : Room} {as' : Array Value} {P : Option Value → Heap → Prop} {len W : Nat}
    (C : Con l Z y yb ym yr rm as' h n0 P) (hZ : Z.Warmed39 s.vm) (wc : (Cond.code y yb ym yr).before a0 Z = true) (wz : (Cond.initialized y.cls).before a0 Z = true) (hf : rm.frames + 1 ≤ R.frames) (hl : W + (ym + 11) + rm.locals ≤ R.locals) :
    Back l R p e below s args y len W (fun A a => a = as' ∧ A.U.heap = h ∧ A.cells + rm.cells ≤ R.cells ∧ A.slots + rm.slots ≤ R.slots)
      (fun A _ v B => ∃ Lc, (P v B.U.heap ∧ Fr n0 Lc) ∧ B.locs = A.locs ++ Lc ∧ B.cells = A.cells + rm.cells ∧ B.slots = A.slots + rm.slots) :=
  backOf (Q := fun v hh Lc => P v hh ∧ Fr n0 Lc) (C []) hZ wc wz hf hl
theorem at_size (K : Cx w R Z n0 own bytes mx rt nm) (H : At1 w T h k n) : n0 ≤ h.size := by
  obtain ⟨p, l, e, R', s, m, args, below, meth, c, Z', k0⟩ := w
  obtain ⟨hx, hby, hml, hown, hZ, hret, hnm, hlk, rfl, rfl, rfl, h00⟩ := K
  obtain ⟨locs, X, eT, N⟩ := H
  rw [← eT]; exact Nat.le_trans h00 X.same.2.1
theorem go_callS {a0 : Array Value} {idx : Nat} {y : MethodName} {yb : ByteArray} {ym : Nat} {yr : Option FieldType} {rm : Room} {P : Option Value → Heap → Prop} {ps : List FieldType} {rr : Option FieldType} (argsL : List Value)
    (K : Cx w R Z n0 own bytes mx rt nm) (H : At1 w T h k n) (d : Dc bytes pc (.invokestatic idx) 3 pc') (w1 : (Cond.methodLink own idx y).before a0 Z = true) (w2 : (Cond.static y).before a0 Z = true) (w3 : (Cond.initialized y.cls).before a0 Z = true) (w4 : (Cond.code y yb ym yr).before a0 Z = true)
    (hy : y.cls ≠ "java/lang/invoke/MethodHandle" ∧ y.cls ≠ "java/lang/invoke/VarHandle") (C : ∀ l, Con l Z y yb ym yr rm argsL.toArray h n0 P) (hd : parseMethodDescriptor y.desc = some ⟨ps, rr⟩) (hlen : argsL.length = ps.length) (hs : st = argsL.reverse ++ st')
    (hL : L.size = mx) (hf : rm.frames + 1 ≤ R.frames) {W : Nat} (hW : (st'.map fun v => v.category).sum = W) (hl : W + (ym + 11) + rm.locals ≤ R.locals) (hk : k + rm.cells ≤ R.cells) (hn : n + rm.slots ≤ R.slots)
    (G : ∀ T' h' v, At1 w T' h' (k + rm.cells) (n + rm.slots) → P v h' → Go w Q T' pc' L (v.toList ++ st')) : Go w Q T pc L st := by
  obtain ⟨p, l, e, R', s, m, args, below, meth, c, Z', k0⟩ := w
  obtain ⟨hx, hby, hml, hown, hZ, hret, hnm, hlk, rfl, rfl, rfl, h00⟩ := K
  obtain ⟨locs, X, eT, N⟩ := H
  obtain ⟨d1, rfl⟩ := d
  obtain ⟨v, vm₁, ⟨T', L1, k1, n1⟩, -, X', ⟨Lc, ⟨hQ, N'⟩, l1, y1, z1⟩, stp⟩ := Jvm.LawKit.callS X hx (y := y) hown (mvT hZ w1) (mvT hZ w2) (mvT hZ w3) (mvT hZ w4) hy (con_back (W := W) (C l) hZ w4 w3 hf hl) (g := mkF m pc L st) rfl (hL.trans hml.symm) (argsL := argsL) (rest := st') (lenOf hd hlen) hs (by show 2 * 0 + _ ≤ _; rw [hW]; omega) (by rw [hby]; exact d1) (fun _ _ => ⟨rfl, eT, hk, hn⟩)
  dsimp only [Pt.U, Pt.locs, Pt.cells, Pt.slots] at X' l1 y1 z1 stp hQ
  subst l1 y1 z1
  obtain ⟨s₂, o, g1, g2⟩ := G T' T'.heap v ⟨_, X', rfl, Fr.app N N'⟩ hQ
  exact ⟨s₂, o, stp _ g1, g2⟩
theorem go_callI {a0 : Array Value} {idx : Nat} {y : MethodName} {yb : ByteArray} {ym : Nat} {rm : Room} {P : Option Value → Heap → Prop} {ps : List FieldType} {rr : Option FieldType} {a : Addr} (argsL : List Value)
    (K : Cx w R Z n0 own bytes mx rt nm) (H : At1 w T h k n) (d : Dc bytes pc (.invokespecial idx) 3 pc') (hy1 : y.name = "<init>") (w1 : (Cond.methodLink own idx y).before a0 Z = true) (w2 : (Cond.instanceMethod y).before a0 Z = true) (w3 : (Cond.initialized y.cls).before a0 Z = true) (w4 : (Cond.code y yb ym none).before a0 Z = true)
    (hy : y.cls ≠ "java/lang/invoke/MethodHandle" ∧ y.cls ≠ "java/lang/invoke/VarHandle") (C : ∀ l, Con l Z y yb ym none rm (.ref a :: argsL).toArray h n0 P) (hd : parseMethodDescriptor y.desc = some ⟨ps, rr⟩) (hlen : argsL.length = ps.length) (hs : st = argsL.reverse ++ .ref a :: st')
    (hL : L.size = mx) (hf : rm.frames + 1 ≤ R.frames) {W : Nat} (hW : (st'.map fun v => v.category).sum = W) (hl : W + (ym + 11) + rm.locals ≤ R.locals) (hk : k + rm.cells ≤ R.cells) (hn : n + rm.slots ≤ R.slots)
    (G : ∀ T' h' v, At1 w T' h' (k + rm.cells) (n + rm.slots) → P v h' → Go w Q T' pc' L (v.toList ++ st')) : Go w Q T pc L st := by
  obtain ⟨p, l, e, R', s, m, args, below, meth, c, Z', k0⟩ := w
  obtain ⟨hx, hby, hml, hown, hZ, hret, hnm, hlk, rfl, rfl, rfl, h00⟩ := K
  obtain ⟨locs, X, eT, N⟩ := H
  obtain ⟨d1, rfl⟩ := d
  obtain ⟨v, vm₁, ⟨T', L1, k1, n1⟩, -, X', ⟨Lc, ⟨hQ, N'⟩, l1, y1, z1⟩, stp⟩ := X.specialBack hx (y := y) hy1 hown (mvT hZ w1) (mvT hZ w2) (mvT hZ w4) hy (con_back (W := W) (C l) hZ w4 w3 hf hl) (g := mkF m pc L st) rfl (hL.trans hml.symm) (Steps.refl _) (a := a) (argsL := argsL) (rest := st') (lenOf hd hlen) hs (by show 2 * 0 + _ ≤ _; rw [hW]; omega) (by rw [hby]; exact d1) (fun _ _ => ⟨rfl, eT, hk, hn⟩)
  dsimp only [Pt.U, Pt.locs, Pt.cells, Pt.slots] at X' l1 y1 z1 stp hQ
  subst l1 y1 z1
  obtain ⟨s₂, o, g1, g2⟩ := G T' T'.heap v ⟨_, X', rfl, Fr.app N N'⟩ hQ
  exact ⟨s₂, o, stp.trans g1, g2⟩
theorem go_callV {a0 : Array Value} {idx : Nat} {y z : MethodName} {yb : ByteArray} {ym : Nat} {yr : Option FieldType} {rm : Room} {P : Option Value → Heap → Prop} {ps : List FieldType} {rr : Option FieldType} {a : Addr} {CC : String} (argsL : List Value)
    (K : Cx w R Z n0 own bytes mx rt nm) (H : At1 w T h k n) (d : Dc bytes pc (.invokevirtual idx) 3 pc') (E : Exa Z h a CC) (w1 : (Cond.methodLink own idx y).before a0 Z = true) (wd : (Cond.declares y).before a0 Z = true) (hnf : ∀ s : State, Z.Warmed39 s.vm → NotFace s y) (ws : (Cond.selects CC y z).before a0 Z = true) (w2 : (Cond.instanceMethod z).before a0 Z = true) (w3 : (Cond.initialized z.cls).before a0 Z = true) (w4 : (Cond.code z yb ym yr).before a0 Z = true)
    (hy : y.cls ≠ "java/lang/invoke/MethodHandle" ∧ y.cls ≠ "java/lang/invoke/VarHandle") (C : ∀ l, Con l Z z yb ym yr rm (.ref a :: argsL).toArray h n0 P) (hd : parseMethodDescriptor y.desc = some ⟨ps, rr⟩) (hlen : argsL.length = ps.length) (hs : st = argsL.reverse ++ .ref a :: st')
    (hL : L.size = mx) (hf : rm.frames + 1 ≤ R.frames) {W : Nat} (hW : (st'.map fun v => v.category).sum = W) (hl : W + (ym + 11) + rm.locals ≤ R.locals) (hk : k + rm.cells ≤ R.cells) (hn : n + rm.slots ≤ R.slots)
    (G : ∀ T' h' v, At1 w T' h' (k + rm.cells) (n + rm.slots) → P v h' → Go w Q T' pc' L (v.toList ++ st')) : Go w Q T pc L st := by
  obtain ⟨p, l, e, R', s, m, args, below, meth, c, Z', k0⟩ := w
  obtain ⟨hx, hby, hml, hown, hZ, hret, hnm, hlk, rfl, rfl, rfl, h00⟩ := K
  obtain ⟨locs, X, eT, N⟩ := H
  obtain ⟨d1, rfl⟩ := d
  obtain ⟨cq, kq, q1, q2, q3⟩ := isOf hZ eT E
  obtain ⟨v, vm₁, ⟨T', L1, k1, n1⟩, -, X', ⟨Lc, ⟨hQ, N'⟩, l1, y1, z1⟩, stp⟩ := X.virtualBack hx (y := y) (z := z) hown (mvT hZ w1) (mvT hZ wd) (hnf s hZ) (mvT hZ ws) (mvT hZ w2) hy (con_back (W := W) (C l) hZ w4 w3 hf hl) q1 q3 (g := mkF m pc L st) rfl (hL.trans hml.symm) (Steps.refl _) (argsL := argsL) (rest := st') (lenOf hd hlen) hs (by show 2 * 0 + _ ≤ _; rw [hW]; omega) (by rw [hby]; exact d1) (fun _ _ => ⟨rfl, eT, hk, hn⟩)
  dsimp only [Pt.U, Pt.locs, Pt.cells, Pt.slots] at X' l1 y1 z1 stp hQ
  subst l1 y1 z1
  obtain ⟨s₂, o, g1, g2⟩ := G T' T'.heap v ⟨_, X', rfl, Fr.app N N'⟩ hQ
  exact ⟨s₂, o, stp.trans g1, g2⟩
theorem go_callP {a0 : Array Value} {idx : Nat} {y : MethodName} {yb : ByteArray} {ym : Nat} {yr : Option FieldType} {rm : Room} {P : Option Value → Heap → Prop} {ps : List FieldType} {rr : Option FieldType} {a : Addr} {CC : String} (argsL : List Value)
    (K : Cx w R Z n0 own bytes mx rt nm) (H : At1 w T h k n) (d : Dc bytes pc (.invokevirtual idx) 3 pc') (E : Exa Z h a CC) (w1 : (Cond.methodLink own idx y).before a0 Z = true) (w2 : (Cond.instanceMethod y).before a0 Z = true) (ws : (Cond.selects y.cls y y).before a0 Z = true) (wp : (Cond.privateMethod y).before a0 Z = true) (w3 : (Cond.initialized y.cls).before a0 Z = true) (w4 : (Cond.code y yb ym yr).before a0 Z = true)
    (hy : y.cls ≠ "java/lang/invoke/MethodHandle" ∧ y.cls ≠ "java/lang/invoke/VarHandle") (C : ∀ l, Con l Z y yb ym yr rm (.ref a :: argsL).toArray h n0 P) (hd : parseMethodDescriptor y.desc = some ⟨ps, rr⟩) (hlen : argsL.length = ps.length) (hs : st = argsL.reverse ++ .ref a :: st')
    (hL : L.size = mx) (hf : rm.frames + 1 ≤ R.frames) {W : Nat} (hW : (st'.map fun v => v.category).sum = W) (hl : W + (ym + 11) + rm.locals ≤ R.locals) (hk : k + rm.cells ≤ R.cells) (hn : n + rm.slots ≤ R.slots)
    (G : ∀ T' h' v, At1 w T' h' (k + rm.cells) (n + rm.slots) → P v h' → Go w Q T' pc' L (v.toList ++ st')) : Go w Q T pc L st := by
  obtain ⟨p, l, e, R', s, m, args, below, meth, c, Z', k0⟩ := w
  obtain ⟨hx, hby, hml, hown, hZ, hret, hnm, hlk, rfl, rfl, rfl, h00⟩ := K
  obtain ⟨locs, X, eT, N⟩ := H
  obtain ⟨d1, rfl⟩ := d
  obtain ⟨cq, q1, q2⟩ := E.cell
  obtain ⟨v, vm₁, ⟨T', L1, k1, n1⟩, -, X', ⟨Lc, ⟨hQ, N'⟩, l1, y1, z1⟩, stp⟩ := X.privateBack hx (y := y) hown (mvT hZ w1) (mvT hZ w2) (mvT hZ ws) (Cond.privateMethod_at (mvP hZ wp (args := #[]))) (mvT hZ w4) hy (con_back (W := W) (C l) hZ w4 w3 hf hl) (g := mkF m pc L st) rfl (hL.trans hml.symm) (Steps.refl _) (a := a) (by rw [eT]; exact q1) q2 (argsL := argsL) (rest := st') (lenOf hd hlen) hs (by show 2 * 0 + _ ≤ _; rw [hW]; omega) (by rw [hby]; exact d1) (fun _ _ => ⟨rfl, eT, hk, hn⟩)
  dsimp only [Pt.U, Pt.locs, Pt.cells, Pt.slots] at X' l1 y1 z1 stp hQ
  subst l1 y1 z1
  obtain ⟨s₂, o, g1, g2⟩ := G T' T'.heap v ⟨_, X', rfl, Fr.app N N'⟩ hQ
  exact ⟨s₂, o, stp.trans g1, g2⟩
theorem go_callF {a0 : Array Value} {idx cnt : Nat} {y z : MethodName} {yb : ByteArray} {ym : Nat} {yr : Option FieldType} {rm : Room} {P : Option Value → Heap → Prop} {ps : List FieldType} {rr : Option FieldType} {a : Addr} {CC : String} (argsL : List Value)
    (K : Cx w R Z n0 own bytes mx rt nm) (H : At1 w T h k n) (d : Dc bytes pc (.invokeinterface idx cnt) 5 pc') (E : Exa Z h a CC) (w1 : (Cond.methodLink own idx y).before a0 Z = true) (wd : (Cond.declares y).before a0 Z = true) (wf : (Cond.interfaceMethod y.cls y.cls y.name y.desc).before a0 Z = true) (ws : (Cond.selects CC y z).before a0 Z = true) (w2 : (Cond.instanceMethod z).before a0 Z = true) (wp : (Cond.publicMethod z).before a0 Z = true) (wu : (Cond.unhidden CC y.name y.desc).before a0 Z = true) (wc : (Cond.castable CC y.cls).before a0 Z = true) (w3 : (Cond.initialized z.cls).before a0 Z = true) (w4 : (Cond.code z yb ym yr).before a0 Z = true)
    (hy : y.cls ≠ "java/lang/invoke/MethodHandle" ∧ y.cls ≠ "java/lang/invoke/VarHandle") (C : ∀ l, Con l Z z yb ym yr rm (.ref a :: argsL).toArray h n0 P) (hd : parseMethodDescriptor y.desc = some ⟨ps, rr⟩) (hlen : argsL.length = ps.length) (hs : st = argsL.reverse ++ .ref a :: st')
    (hL : L.size = mx) (hf : rm.frames + 1 ≤ R.frames) {W : Nat} (hW : (st'.map fun v => v.category).sum = W) (hl : W + (ym + 11) + rm.locals ≤ R.locals) (hk : k + rm.cells ≤ R.cells) (hn : n + rm.slots ≤ R.slots)
    (G : ∀ T' h' v, At1 w T' h' (k + rm.cells) (n + rm.slots) → P v h' → Go w Q T' pc' L (v.toList ++ st')) : Go w Q T pc L st := by
  obtain ⟨p, l, e, R', s, m, args, below, meth, c, Z', k0⟩ := w
  obtain ⟨hx, hby, hml, hown, hZ, hret, hnm, hlk, rfl, rfl, rfl, h00⟩ := K
  obtain ⟨locs, X, eT, N⟩ := H
  obtain ⟨d1, rfl⟩ := d
  obtain ⟨cq, kq, q1, q2, q3⟩ := isOf hZ eT E
  obtain ⟨v, vm₁, ⟨T', L1, k1, n1⟩, -, X', ⟨Lc, ⟨hQ, N'⟩, l1, y1, z1⟩, stp⟩ := X.interfaceBack hx (xi := y) (y := z) hown (mvT hZ w1) (mvT hZ wd) (mvT hZ wf (by simp [Cond.onTables, Cond.keepsFace, Cond.keeps, Cond.steady, Cond.faceAtom, hy.1, hy.2])) (mvT hZ ws) (mvT hZ w2) (mvT hZ wp) (mvT hZ wu) (mvT hZ wc) hy (con_back (W := W) (C l) hZ w4 w3 hf hl) q1 q2 q3 (g := mkF m pc L st) rfl (hL.trans hml.symm) (Steps.refl _) (argsL := argsL) (rest := st') (lenOf hd hlen) hs (by show 2 * 0 + _ ≤ _; rw [hW]; omega) (by rw [hby]; exact d1) (fun _ _ => ⟨rfl, eT, hk, hn⟩)
  dsimp only [Pt.U, Pt.locs, Pt.cells, Pt.slots] at X' l1 y1 z1 stp hQ
  subst l1 y1 z1
  obtain ⟨s₂, o, g1, g2⟩ := G T' T'.heap v ⟨_, X', rfl, Fr.app N N'⟩ hQ
  exact ⟨s₂, o, stp.trans g1, g2⟩
theorem ref_at {a0 a1 : Array Value} {U : State} {idx : Nat} {y : MethodName} (hU : Z.Warmed39 U.vm) (hy : y.cls ≠ "java/lang/invoke/MethodHandle" ∧ y.cls ≠ "java/lang/invoke/VarHandle") (w2 : (Cond.instanceMethod y).before a0 Z = true) (w1 : (Cond.methodRef own idx y).before a0 Z = true) : (Cond.methodRef own idx y).before a1 U = true := by
  obtain ⟨mk, _, hn, -⟩ := Cond.instanceMethod_spec w2
  have q := Cond.methodRef_warmed39 hU hn hy w1
  simp only [Cond.before, Cond.holds, Cond.value] at q ⊢
  exact q
theorem go_callIR {a0 : Array Value} {idx : Nat} {y : MethodName} {yb : ByteArray} {ym : Nat} {rm : Room} {P : Option Value → Heap → Prop} {ps : List FieldType} {rr : Option FieldType} {a : Addr} (argsL : List Value)
    (K : Cx w R Z n0 own bytes mx rt nm) (H : At1 w T h k n) (d : Dc bytes pc (.invokespecial idx) 3 pc') (hy1 : y.name = "<init>") (w1 : (Cond.methodRef own idx y).before a0 Z = true) (w2 : (Cond.instanceMethod y).before a0 Z = true) (w3 : (Cond.initialized y.cls).before a0 Z = true) (w4 : (Cond.code y yb ym none).before a0 Z = true)
    (hy : y.cls ≠ "java/lang/invoke/MethodHandle" ∧ y.cls ≠ "java/lang/invoke/VarHandle") (C : ∀ l, Con l Z y yb ym none rm (.ref a :: argsL).toArray h n0 P) (hd : parseMethodDescriptor y.desc = some ⟨ps, rr⟩) (hlen : argsL.length = ps.length) (hs : st = argsL.reverse ++ .ref a :: st')
    (hL : L.size = mx) (hf : rm.frames + 1 ≤ R.frames) {W : Nat} (hW : (st'.map fun v => v.category).sum = W) (hl : W + (ym + 11) + rm.locals ≤ R.locals) (hk : k + rm.cells ≤ R.cells) (hn : n + rm.slots ≤ R.slots)
    (G : ∀ T' h' v, At1 w T' h' (k + rm.cells) (n + rm.slots) → P v h' → Go w Q T' pc' L (v.toList ++ st')) : Go w Q T pc L st := by
  obtain ⟨p, l, e, R', s, m, args, below, meth, c, Z', k0⟩ := w
  obtain ⟨hx, hby, hml, hown, hZ, hret, hnm, hlk, rfl, rfl, rfl, h00⟩ := K
  obtain ⟨locs, X, eT, N⟩ := H
  obtain ⟨d1, rfl⟩ := d
  have S : SCall p l e R' s m args below meth c idx y := SCall.of_ready hx hy1 (mvT hZ w2) (mvT hZ w4) (fun U r hU hnr => by
    have hA := hU.alike
    have hUZ : Z'.Warmed39 U.vm := wtrans hZ hU
    have hnU : U.methodNamed? y = some r := by
      have q : (s.setVm U.vm).methodNamed? y = some r := by rw [State.methodNamed?_setVm hA]; exact hnr
      exact q
    have hoU : U.vm.findClass own = some m.cls := by rw [hA.findClass]; exact hown
    obtain ⟨m', c', e1, e2, e3, e4⟩ := Cond.methodRef_named (first := U) (o := none) (idx := []) (args := args) e hoU (ref_at hUZ hy w2 w1)
    have e5 : U.methodFound? y.cls y.name y.desc = some r := State.methodFound?_of_named hnU hy
    cases e1.symm.trans e5
    cases e3.symm.trans (findClass_of_methodNamed hnU)
    exact ⟨e4, e2⟩)
  obtain ⟨v, vm₁, ⟨T', L1, k1, n1⟩, -, X', ⟨Lc, ⟨hQ, N'⟩, l1, y1, z1⟩, stp⟩ := S X (con_back (W := W) (C l) hZ w4 w3 hf hl) (g := mkF m pc L st) rfl (hL.trans hml.symm) (Steps.refl _) (a := a) (argsL := argsL) (rest := st') (lenOf hd hlen) hs (by show 2 * 0 + _ ≤ _; rw [hW]; omega) (by rw [hby]; exact d1) (fun _ _ => ⟨rfl, eT, hk, hn⟩)
  dsimp only [Pt.U, Pt.locs, Pt.cells, Pt.slots] at X' l1 y1 z1 stp hQ
  subst l1 y1 z1
  obtain ⟨s₂, o, g1, g2⟩ := G T' T'.heap v ⟨_, X', rfl, Fr.app N N'⟩ hQ
  exact ⟨s₂, o, stp.trans g1, g2⟩
theorem sel_priv {a0 : Array Value} {y : MethodName} {j : Nat} (wi : (Cond.instantiable y.cls j).before a0 Z = true) (wp : (Cond.privateMethod y).before a0 Z = true) (w2 : (Cond.instanceMethod y).before a0 Z = true) (hy : y.cls ≠ "java/lang/invoke/MethodHandle" ∧ y.cls ≠ "java/lang/invoke/VarHandle") : (Cond.selects y.cls y y).before a0 Z = true := by
  obtain ⟨c, k, h1, h2, h3, h4, -⟩ := Cond.instantiable_spec wi
  exact selects_self_of_private h1 h2 (Bool.or_eq_false_iff.mp h4).1 (Cond.privateMethod_at wp) w2 hy
theorem nf_sel {a0 : Array Value} {CC : String} {y : MethodName} (ws : (Cond.selects CC y y).before a0 Z = true) : ∀ s : State, Z.Warmed39 s.vm → NotFace s y := fun s hZ => notFace_of_selects (args := #[]) (mvT hZ ws)
theorem own_comes {Post : Tables → Env → Array Value → State → Outcome → State → Prop} {ck sk : Nat} (hpost : ∀ tb e args s v u, (limb_1_1.after args s (.returned v) u = true ∧ limb_1_2.after args s (.returned v) u = true) → FrameEnd s (.returned v) u (Jvm.fieldLocs frame_1_writes args s ++ Jvm.arrayLocs frame_1_arrays args s ++ Jvm.staticLocs frame_1_statics s) ck sk → Post tb e args s (.returned v) u) (h1 : room_1.cells ≤ ck) (h2 : room_1.slots ≤ sk)
    (hl : ∀ (l : Launch) (tb : Tables) (e : Env) (s : State) (args : Array Value), heapFits s = true → rest_1 tb e args s → (Jvm.Cond.and given_1 narrow_1).value args s none s [] = some true → (∀ d ∈ tables_1, d.before args s = true) → Con l s x code maxLocals ret room_1 args s.heap s.heap.size (RI fun z _ => z = 1)) :
    ArmFor flags0 classFile x code maxLocals ret World_1 tables_1 room_1 Calls_1 rest_1 Pre_1 Post := by
  intro l hfl _ _ p e ha hc hk s m args below hf hA hF happ hP
  obtain ⟨hcalls, hrest, hpre⟩ := hP
  obtain ⟨-, -, -, hnamed, -, -, -, hat⟩ := (Spec.applies_iff hf).mp happ
  have hg := Cond.before_iff.mp (show (Jvm.Cond.and given_1 narrow_1).before args s = true from hpre)
  have hw := fun d (hd : d ∈ tables_1) => atoms_spec (ws := Jvm.Cond.code x code maxLocals ret :: tables_1) hat d (List.mem_cons_of_mem _ hd)
  obtain ⟨n, o, g1, g2, g3, v, L, rfl, ⟨⟨z, rfl, rfl⟩, N⟩, hq⟩ := hl l _ _ s args hF hrest hg hw tables_1 p e ha hc hk s m _ below hf ((Spec.applies_iff_loose hf).mp happ).1 ⟨rfl, State.Warmed39.refl s, rfl⟩ trivial
  exact ⟨n, _, g1, g2, g3, hpost _ _ _ _ _ _ ⟨Cond.after_iff.mpr rfl, Cond.after_iff.mpr (eq_i res_at (Term.int_eval (1)) rfl)⟩ ⟨hq.1, hq.2.1, (hq.2.2.sift fun y hy => Or.inr (N y hy)).mono h1 h2⟩⟩
end Own
end Jvm.Pilot.@@N@@
namespace Jvm.Pilot.@@N@@
open Jvm Jvm.ClassFile Sem Op Lib Jvm.Free Jvm.Stand Jvm.LawKit Jvm.RoadKit Bundle Jvm.Pilot.@@N@@.Jvm.D
def Cl (Z : State) (h : Heap) (a : Addr) (m n : Int32) : Prop := Exa Z h a "com/example/admit/admit/Claim" ∧ Fld Z h a "com/example/admit/admit/Claim" "member" "I" (.int m) ∧ Fld Z h a "com/example/admit/admit/Claim" "number" "I" (.int n)
theorem Cl.ext {Z : State} {h h' : Heap} {a : Addr} {m n : Int32} (O : Cl Z h a m n) (E : Ext h h') : Cl Z h' a m n := ⟨O.1.ext E, O.2.1.ext E, O.2.2.ext E⟩
theorem Cl.keep {Z : State} {h h' : Heap} {a b : Addr} {m n : Int32} (O : Cl Z h a m n) (K : Keep h h' [b]) (q : a ≠ b) : Cl Z h' a m n := ⟨O.1.keep K, O.2.1.keep K (ninS q nin0), O.2.2.keep K (ninS q nin0)⟩
theorem Cl.ne {Z : State} {h : Heap} {a b : Addr} {m n : Int32} (O : Cl Z h a m n) (q : b = h.size) : a ≠ b := Nat.ne_of_lt (q ▸ O.1.lt)
def IC (Z : State) (h : Heap) (ca : Addr) (vs : List Value) : Prop := Sta Z h "java/lang/Integer$IntegerCache" "high" "I" (.int 127) ∧ Sta Z h "java/lang/Integer$IntegerCache" "cache" "[Ljava/lang/Integer;" (.ref ca) ∧ VA Z h ca (.object "java/lang/Integer") vs ∧ vs.length = 256 ∧ ∀ i, i < 256 → ∃ a, vs[i]? = some (.ref a) ∧ Exa Z h a "java/lang/Integer"
theorem IC.ext {Z : State} {h h' : Heap} {ca : Addr} {vs : List Value} (O : IC Z h ca vs) (E : Ext h h') : IC Z h' ca vs := ⟨O.1.ext E, O.2.1.ext E, O.2.2.1.ext E, O.2.2.2.1, fun i hi => by obtain ⟨a, e1, e2⟩ := O.2.2.2.2 i hi; exact ⟨a, e1, e2.ext E⟩⟩
theorem IC.keep {Z : State} {h h' : Heap} {ca b : Addr} {vs : List Value} {D : String} (O : IC Z h ca vs) (K : Keep h h' [b]) (q : ca ≠ b) (B : Exa Z h b D) : IC Z h' ca vs := by
  have hs : ∀ x ∈ [b], ∃ c : Cell, h[x]? = some c ∧ c.vm.isStatics = false := fun x hx => by cases List.mem_singleton.mp hx; obtain ⟨c, _, e1, -, -, e4, -⟩ := B; exact ⟨c, e1, e4⟩
  exact ⟨O.1.keep K hs, O.2.1.keep K hs, O.2.2.1.keep K (ninS q nin0), O.2.2.2.1, fun i hi => by obtain ⟨a, e1, e2⟩ := O.2.2.2.2 i hi; exact ⟨a, e1, e2.keep K⟩⟩
theorem all_at {t : Term} {b : Jvm.Cond} {args : Array Value} {s : State} {a : Addr} {c : Cell} (h : (Jvm.Cond.all t b).value args s none s [] = some true) (ht : t.eval args s none [] s = some (.ref a)) (hc : s.heap[a]? = some c) {i : Nat} (hi : i < c.slots.size) : b.value args s none s [i] = some true := by
  cases hq : s.arrayAt? a with
  | none => rw [Cond.all_of_no_array ht hq] at h; cases h
  | some c' => obtain ⟨hc', -⟩ := State.arrayAt?_spec hq; cases hc.symm.trans hc'; exact Jvm.Example.Scan.all_true ht hq h i hi
theorem d0_0 : Dc prog_4_method_1_code 0 (.aload_n 0) 1 1 := ⟨by decide +kernel, rfl⟩
theorem d0_1 : Dc prog_4_method_1_code 1 (.invokespecial 1) 3 4 := ⟨by decide +kernel, rfl⟩
theorem d0_4 : Dc prog_4_method_1_code 4 (.aload_n 0) 1 5 := ⟨by decide +kernel, rfl⟩
theorem d0_5 : Dc prog_4_method_1_code 5 (.iload_n 1) 1 6 := ⟨by decide +kernel, rfl⟩
theorem d0_6 : Dc prog_4_method_1_code 6 (.putfield 7) 3 9 := ⟨by decide +kernel, rfl⟩
theorem d0_9 : Dc prog_4_method_1_code 9 (.aload_n 0) 1 10 := ⟨by decide +kernel, rfl⟩
theorem d0_10 : Dc prog_4_method_1_code 10 (.iload_n 2) 1 11 := ⟨by decide +kernel, rfl⟩
theorem d0_11 : Dc prog_4_method_1_code 11 (.putfield 13) 3 14 := ⟨by decide +kernel, rfl⟩
theorem d0_14 : Dc prog_4_method_1_code 14 .return_ 1 15 := ⟨by decide +kernel, rfl⟩
theorem d1_0 : Dc prog_4_method_5_code 0 (.aload_n 1) 1 1 := ⟨by decide +kernel, rfl⟩
theorem d1_1 : Dc prog_4_method_5_code 1 (.instanceof 8) 3 4 := ⟨by decide +kernel, rfl⟩
theorem d1_4 : Jp prog_4_method_5_code 4 (.ifCond .ne) 9 7 := ⟨5, by decide +kernel, by decide, by decide, rfl⟩
theorem d1_7 : Dc prog_4_method_5_code 7 (.iconst 0) 1 8 := ⟨by decide +kernel, rfl⟩
theorem d1_8 : Dc prog_4_method_5_code 8 .ireturn 1 9 := ⟨by decide +kernel, rfl⟩
theorem d1_9 : Dc prog_4_method_5_code 9 (.aload_n 1) 1 10 := ⟨by decide +kernel, rfl⟩
theorem d1_10 : Dc prog_4_method_5_code 10 (.checkcast 8) 3 13 := ⟨by decide +kernel, rfl⟩
theorem d1_13 : Dc prog_4_method_5_code 13 (.astore_n 2) 1 14 := ⟨by decide +kernel, rfl⟩
theorem d1_14 : Dc prog_4_method_5_code 14 (.aload_n 0) 1 15 := ⟨by decide +kernel, rfl⟩
theorem d1_15 : Dc prog_4_method_5_code 15 (.getfield 7) 3 18 := ⟨by decide +kernel, rfl⟩
theorem d1_18 : Dc prog_4_method_5_code 18 (.aload_n 2) 1 19 := ⟨by decide +kernel, rfl⟩
theorem d1_19 : Dc prog_4_method_5_code 19 (.getfield 7) 3 22 := ⟨by decide +kernel, rfl⟩
theorem d1_22 : Jp prog_4_method_5_code 22 (.if_icmp .ne) 40 25 := ⟨18, by decide +kernel, by decide, by decide, rfl⟩
theorem d1_25 : Dc prog_4_method_5_code 25 (.aload_n 0) 1 26 := ⟨by decide +kernel, rfl⟩
theorem d1_26 : Dc prog_4_method_5_code 26 (.getfield 13) 3 29 := ⟨by decide +kernel, rfl⟩
theorem d1_29 : Dc prog_4_method_5_code 29 (.aload_n 2) 1 30 := ⟨by decide +kernel, rfl⟩
theorem d1_30 : Dc prog_4_method_5_code 30 (.getfield 13) 3 33 := ⟨by decide +kernel, rfl⟩
theorem d1_33 : Jp prog_4_method_5_code 33 (.if_icmp .ne) 40 36 := ⟨7, by decide +kernel, by decide, by decide, rfl⟩
theorem d1_36 : Dc prog_4_method_5_code 36 (.iconst 1) 1 37 := ⟨by decide +kernel, rfl⟩
theorem d1_37 : Jp prog_4_method_5_code 37 .goto 41 40 := ⟨4, by decide +kernel, by decide, by decide, rfl⟩
theorem d1_40 : Dc prog_4_method_5_code 40 (.iconst 0) 1 41 := ⟨by decide +kernel, rfl⟩
theorem d1_41 : Dc prog_4_method_5_code 41 .ireturn 1 42 := ⟨by decide +kernel, rfl⟩
theorem d2_0 : Dc prog_4_method_6_code 0 (.bipush 31) 2 2 := ⟨by decide +kernel, rfl⟩
theorem d2_2 : Dc prog_4_method_6_code 2 (.aload_n 0) 1 3 := ⟨by decide +kernel, rfl⟩
theorem d2_3 : Dc prog_4_method_6_code 3 (.getfield 7) 3 6 := ⟨by decide +kernel, rfl⟩
theorem d2_6 : Dc prog_4_method_6_code 6 .imul 1 7 := ⟨by decide +kernel, rfl⟩
theorem d2_7 : Dc prog_4_method_6_code 7 (.aload_n 0) 1 8 := ⟨by decide +kernel, rfl⟩
theorem d2_8 : Dc prog_4_method_6_code 8 (.getfield 13) 3 11 := ⟨by decide +kernel, rfl⟩
theorem d2_11 : Dc prog_4_method_6_code 11 .iadd 1 12 := ⟨by decide +kernel, rfl⟩
theorem d2_12 : Dc prog_4_method_6_code 12 .ireturn 1 13 := ⟨by decide +kernel, rfl⟩
theorem d3_0 : Dc jdk_18_method_1_code 0 (.aload_n 0) 1 1 := ⟨by decide +kernel, rfl⟩
theorem d3_1 : Dc jdk_18_method_1_code 1 (.invokespecial 1) 3 4 := ⟨by decide +kernel, rfl⟩
theorem d3_4 : Dc jdk_18_method_1_code 4 .return_ 1 5 := ⟨by decide +kernel, rfl⟩
theorem d4_0 : Dc jdk_33_method_23_code 0 (.aload_n 0) 1 1 := ⟨by decide +kernel, rfl⟩
theorem d4_1 : Dc jdk_33_method_23_code 1 (.invokespecial 202) 3 4 := ⟨by decide +kernel, rfl⟩
theorem d4_4 : Dc jdk_33_method_23_code 4 (.aload_n 0) 1 5 := ⟨by decide +kernel, rfl⟩
theorem d4_5 : Dc jdk_33_method_23_code 5 (.iload_n 1) 1 6 := ⟨by decide +kernel, rfl⟩
theorem d4_6 : Dc jdk_33_method_23_code 6 (.putfield 205) 3 9 := ⟨by decide +kernel, rfl⟩
theorem d4_9 : Dc jdk_33_method_23_code 9 .return_ 1 10 := ⟨by decide +kernel, rfl⟩
theorem d5_0 : Dc jdk_33_method_22_code 0 (.iload_n 0) 1 1 := ⟨by decide +kernel, rfl⟩
theorem d5_1 : Dc jdk_33_method_22_code 1 (.bipush (-128)) 2 3 := ⟨by decide +kernel, rfl⟩
theorem d5_3 : Jp jdk_33_method_22_code 3 (.if_icmp .lt) 23 6 := ⟨20, by decide +kernel, by decide, by decide, rfl⟩
theorem d5_6 : Dc jdk_33_method_22_code 6 (.iload_n 0) 1 7 := ⟨by decide +kernel, rfl⟩
theorem d5_7 : Dc jdk_33_method_22_code 7 (.getstatic 191) 3 10 := ⟨by decide +kernel, rfl⟩
theorem d5_10 : Jp jdk_33_method_22_code 10 (.if_icmp .gt) 23 13 := ⟨13, by decide +kernel, by decide, by decide, rfl⟩
theorem d5_13 : Dc jdk_33_method_22_code 13 (.getstatic 195) 3 16 := ⟨by decide +kernel, rfl⟩
theorem d5_16 : Dc jdk_33_method_22_code 16 (.iload_n 0) 1 17 := ⟨by decide +kernel, rfl⟩
theorem d5_17 : Dc jdk_33_method_22_code 17 (.sipush 128) 3 20 := ⟨by decide +kernel, rfl⟩
theorem d5_20 : Dc jdk_33_method_22_code 20 .iadd 1 21 := ⟨by decide +kernel, rfl⟩
theorem d5_21 : Dc jdk_33_method_22_code 21 .aaload 1 22 := ⟨by decide +kernel, rfl⟩
theorem d5_22 : Dc jdk_33_method_22_code 22 .areturn 1 23 := ⟨by decide +kernel, rfl⟩
theorem d5_23 : Dc jdk_33_method_22_code 23 (.new 1) 3 26 := ⟨by decide +kernel, rfl⟩
theorem d5_26 : Dc jdk_33_method_22_code 26 .dup 1 27 := ⟨by decide +kernel, rfl⟩
theorem d5_27 : Dc jdk_33_method_22_code 27 (.iload_n 0) 1 28 := ⟨by decide +kernel, rfl⟩
theorem d5_28 : Dc jdk_33_method_22_code 28 (.invokespecial 199) 3 31 := ⟨by decide +kernel, rfl⟩
theorem d5_31 : Dc jdk_33_method_22_code 31 .areturn 1 32 := ⟨by decide +kernel, rfl⟩
theorem d6_0 : Dc code 0 (.iload 4) 2 2 := ⟨by decide +kernel, rfl⟩
theorem d6_2 : Dc code 2 (.iconst 1) 1 3 := ⟨by decide +kernel, rfl⟩
theorem d6_3 : Dc code 3 .iand 1 4 := ⟨by decide +kernel, rfl⟩
theorem d6_4 : Jp code 4 (.ifCond .eq) 11 7 := ⟨7, by decide +kernel, by decide, by decide, rfl⟩
theorem d6_7 : Dc code 7 (.iload_n 0) 1 8 := ⟨by decide +kernel, rfl⟩
theorem d6_8 : Jp code 8 .goto 12 11 := ⟨4, by decide +kernel, by decide, by decide, rfl⟩
theorem d6_11 : Dc code 11 (.iload_n 2) 1 12 := ⟨by decide +kernel, rfl⟩
theorem d6_12 : Dc code 12 (.istore 5) 2 14 := ⟨by decide +kernel, rfl⟩
theorem d6_14 : Dc code 14 (.iload 4) 2 16 := ⟨by decide +kernel, rfl⟩
theorem d6_16 : Dc code 16 (.iconst 2) 1 17 := ⟨by decide +kernel, rfl⟩
theorem d6_17 : Dc code 17 .iand 1 18 := ⟨by decide +kernel, rfl⟩
theorem d6_18 : Jp code 18 (.ifCond .eq) 25 21 := ⟨7, by decide +kernel, by decide, by decide, rfl⟩
theorem d6_21 : Dc code 21 (.iload_n 1) 1 22 := ⟨by decide +kernel, rfl⟩
theorem d6_22 : Jp code 22 .goto 26 25 := ⟨4, by decide +kernel, by decide, by decide, rfl⟩
theorem d6_25 : Dc code 25 (.iload_n 3) 1 26 := ⟨by decide +kernel, rfl⟩
theorem d6_26 : Dc code 26 (.istore 6) 2 28 := ⟨by decide +kernel, rfl⟩
theorem d6_28 : Dc code 28 (.iload 4) 2 30 := ⟨by decide +kernel, rfl⟩
theorem d6_30 : Dc code 30 (.iconst 2) 1 31 := ⟨by decide +kernel, rfl⟩
theorem d6_31 : Dc code 31 .iushr 1 32 := ⟨by decide +kernel, rfl⟩
theorem d6_32 : Dc code 32 (.iconst 3) 1 33 := ⟨by decide +kernel, rfl⟩
theorem d6_33 : Dc code 33 .iand 1 34 := ⟨by decide +kernel, rfl⟩
theorem d6_34 : Dc code 34 (.istore 7) 2 36 := ⟨by decide +kernel, rfl⟩
theorem d6_36 : Dc code 36 (.new 7) 3 39 := ⟨by decide +kernel, rfl⟩
theorem d6_39 : Dc code 39 .dup 1 40 := ⟨by decide +kernel, rfl⟩
theorem d6_40 : Dc code 40 (.iload_n 0) 1 41 := ⟨by decide +kernel, rfl⟩
theorem d6_41 : Dc code 41 (.iload_n 1) 1 42 := ⟨by decide +kernel, rfl⟩
theorem d6_42 : Dc code 42 (.invokespecial 9) 3 45 := ⟨by decide +kernel, rfl⟩
theorem d6_45 : Dc code 45 (.astore 8) 2 47 := ⟨by decide +kernel, rfl⟩
theorem d6_47 : Dc code 47 (.new 7) 3 50 := ⟨by decide +kernel, rfl⟩
theorem d6_50 : Dc code 50 .dup 1 51 := ⟨by decide +kernel, rfl⟩
theorem d6_51 : Dc code 51 (.iload 5) 2 53 := ⟨by decide +kernel, rfl⟩
theorem d6_53 : Dc code 53 (.iload 6) 2 55 := ⟨by decide +kernel, rfl⟩
theorem d6_55 : Dc code 55 (.invokespecial 9) 3 58 := ⟨by decide +kernel, rfl⟩
theorem d6_58 : Dc code 58 (.astore 9) 2 60 := ⟨by decide +kernel, rfl⟩
theorem d6_60 : Dc code 60 (.iload 7) 2 62 := ⟨by decide +kernel, rfl⟩
theorem d6_62 : Dc code 62 (.iconst 2) 1 63 := ⟨by decide +kernel, rfl⟩
theorem d6_63 : Jp code 63 (.if_icmp .ne) 72 66 := ⟨9, by decide +kernel, by decide, by decide, rfl⟩
theorem d6_66 : Dc code 66 .aconst_null 1 67 := ⟨by decide +kernel, rfl⟩
theorem d6_67 : Dc code 67 (.astore 10) 2 69 := ⟨by decide +kernel, rfl⟩
theorem d6_69 : Jp code 69 .goto 91 72 := ⟨22, by decide +kernel, by decide, by decide, rfl⟩
theorem d6_72 : Dc code 72 (.iload 7) 2 74 := ⟨by decide +kernel, rfl⟩
theorem d6_74 : Dc code 74 (.iconst 3) 1 75 := ⟨by decide +kernel, rfl⟩
theorem d6_75 : Jp code 75 (.if_icmp .ne) 87 78 := ⟨12, by decide +kernel, by decide, by decide, rfl⟩
theorem d6_78 : Dc code 78 (.iload_n 0) 1 79 := ⟨by decide +kernel, rfl⟩
theorem d6_79 : Dc code 79 (.invokestatic 12) 3 82 := ⟨by decide +kernel, rfl⟩
theorem d6_82 : Dc code 82 (.astore 10) 2 84 := ⟨by decide +kernel, rfl⟩
theorem d6_84 : Jp code 84 .goto 91 87 := ⟨7, by decide +kernel, by decide, by decide, rfl⟩
theorem d6_87 : Dc code 87 (.aload 9) 2 89 := ⟨by decide +kernel, rfl⟩
theorem d6_89 : Dc code 89 (.astore 10) 2 91 := ⟨by decide +kernel, rfl⟩
theorem d6_91 : Dc code 91 (.aload 8) 2 93 := ⟨by decide +kernel, rfl⟩
theorem d6_93 : Dc code 93 (.aload 10) 2 95 := ⟨by decide +kernel, rfl⟩
theorem d6_95 : Dc code 95 (.invokevirtual 18) 3 98 := ⟨by decide +kernel, rfl⟩
theorem d6_98 : Dc code 98 (.istore 11) 2 100 := ⟨by decide +kernel, rfl⟩
theorem d6_100 : Dc code 100 (.iload 7) 2 102 := ⟨by decide +kernel, rfl⟩
theorem d6_102 : Dc code 102 (.iconst 2) 1 103 := ⟨by decide +kernel, rfl⟩
theorem d6_103 : Jp code 103 (.if_icmp .lt) 117 106 := ⟨14, by decide +kernel, by decide, by decide, rfl⟩
theorem d6_106 : Dc code 106 (.iload 11) 2 108 := ⟨by decide +kernel, rfl⟩
theorem d6_108 : Jp code 108 (.ifCond .ne) 115 111 := ⟨7, by decide +kernel, by decide, by decide, rfl⟩
theorem d6_111 : Dc code 111 (.iconst 1) 1 112 := ⟨by decide +kernel, rfl⟩
theorem d6_112 : Jp code 112 .goto 116 115 := ⟨4, by decide +kernel, by decide, by decide, rfl⟩
theorem d6_116 : Dc code 116 .ireturn 1 117 := ⟨by decide +kernel, rfl⟩
theorem d6_117 : Dc code 117 (.iload_n 0) 1 118 := ⟨by decide +kernel, rfl⟩
theorem d6_118 : Dc code 118 (.iload 5) 2 120 := ⟨by decide +kernel, rfl⟩
theorem d6_120 : Jp code 120 (.if_icmp .ne) 133 123 := ⟨13, by decide +kernel, by decide, by decide, rfl⟩
theorem d6_123 : Dc code 123 (.iload_n 1) 1 124 := ⟨by decide +kernel, rfl⟩
theorem d6_124 : Dc code 124 (.iload 6) 2 126 := ⟨by decide +kernel, rfl⟩
theorem d6_126 : Jp code 126 (.if_icmp .ne) 133 129 := ⟨7, by decide +kernel, by decide, by decide, rfl⟩
theorem d6_129 : Dc code 129 (.iconst 1) 1 130 := ⟨by decide +kernel, rfl⟩
theorem d6_130 : Jp code 130 .goto 134 133 := ⟨4, by decide +kernel, by decide, by decide, rfl⟩
theorem d6_133 : Dc code 133 (.iconst 0) 1 134 := ⟨by decide +kernel, rfl⟩
theorem d6_134 : Dc code 134 (.istore 12) 2 136 := ⟨by decide +kernel, rfl⟩
theorem d6_136 : Dc code 136 (.iload 11) 2 138 := ⟨by decide +kernel, rfl⟩
theorem d6_138 : Dc code 138 (.iload 12) 2 140 := ⟨by decide +kernel, rfl⟩
theorem d6_140 : Jp code 140 (.if_icmp .eq) 145 143 := ⟨5, by decide +kernel, by decide, by decide, rfl⟩
theorem d6_145 : Dc code 145 (.aload 9) 2 147 := ⟨by decide +kernel, rfl⟩
theorem d6_147 : Dc code 147 (.aload 8) 2 149 := ⟨by decide +kernel, rfl⟩
theorem d6_149 : Dc code 149 (.invokevirtual 18) 3 152 := ⟨by decide +kernel, rfl⟩
theorem d6_152 : Dc code 152 (.iload 12) 2 154 := ⟨by decide +kernel, rfl⟩
theorem d6_154 : Jp code 154 (.if_icmp .eq) 159 157 := ⟨5, by decide +kernel, by decide, by decide, rfl⟩
theorem d6_159 : Dc code 159 (.iload 12) 2 161 := ⟨by decide +kernel, rfl⟩
theorem d6_161 : Jp code 161 (.ifCond .eq) 179 164 := ⟨18, by decide +kernel, by decide, by decide, rfl⟩
theorem d6_164 : Dc code 164 (.aload 8) 2 166 := ⟨by decide +kernel, rfl⟩
theorem d6_166 : Dc code 166 (.invokevirtual 22) 3 169 := ⟨by decide +kernel, rfl⟩
theorem d6_169 : Dc code 169 (.aload 9) 2 171 := ⟨by decide +kernel, rfl⟩
theorem d6_171 : Dc code 171 (.invokevirtual 22) 3 174 := ⟨by decide +kernel, rfl⟩
theorem d6_174 : Jp code 174 (.if_icmp .eq) 179 177 := ⟨5, by decide +kernel, by decide, by decide, rfl⟩
theorem d6_179 : Dc code 179 (.iconst 1) 1 180 := ⟨by decide +kernel, rfl⟩
theorem d6_180 : Dc code 180 .ireturn 1 181 := ⟨by decide +kernel, rfl⟩
theorem pn0 : plainFor (⟨"com/example/admit/admit/Claim", "<init>", "(II)V"⟩ : MethodName) = true := plainFor_of_name (by first | (simp [plainName, overriddenIn]; done) | decide +kernel)
theorem pn1 : plainFor (⟨"com/example/admit/admit/Claim", "equals", "(Ljava/lang/Object;)Z"⟩ : MethodName) = true := plainFor_of_name (by first | (simp [plainName, overriddenIn]; done) | decide +kernel)
theorem pn2 : plainFor (⟨"com/example/admit/admit/Claim", "hashCode", "()I"⟩ : MethodName) = true := plainFor_of_name (by first | (simp [plainName, overriddenIn]; done) | decide +kernel)
theorem pn3 : plainFor (⟨"java/lang/Number", "<init>", "()V"⟩ : MethodName) = true := plainFor_of_name (by first | (simp [plainName, overriddenIn]; done) | decide +kernel)
theorem pn4 : plainFor (⟨"java/lang/Integer", "<init>", "(I)V"⟩ : MethodName) = true := plainFor_of_name (by first | (simp [plainName, overriddenIn]; done) | decide +kernel)
theorem pd0 : parseMethodDescriptor "()V" = some ⟨[], none⟩ := by decide +kernel
theorem pn5 : plainFor (⟨"java/lang/Integer", "valueOf", "(I)Ljava/lang/Integer;"⟩ : MethodName) = true := plainFor_of_name (by first | (simp [plainName, overriddenIn]; done) | decide +kernel)
theorem pd1 : parseMethodDescriptor "(I)V" = some ⟨[.int], none⟩ := by decide +kernel
theorem pn6 : plainFor x = true := plainFor_of_name (by first | (simp [plainName, overriddenIn]; done) | decide +kernel)
theorem pd2 : parseMethodDescriptor "(II)V" = some ⟨[.int, .int], none⟩ := by decide +kernel
theorem pd3 : parseMethodDescriptor "(Ljava/lang/Object;)Z" = some ⟨[(.object "java/lang/Object")], some .boolean⟩ := by decide +kernel
theorem pd4 : parseMethodDescriptor "()I" = some ⟨[], some .int⟩ := by decide +kernel
theorem pd5 : parseMethodDescriptor "(I)Ljava/lang/Integer;" = some ⟨[.int], some (.object "java/lang/Integer")⟩ := by decide +kernel
set_option maxRecDepth 65536 in
set_option maxHeartbeats 40000000 in
theorem rm1 (Z : State) (a0 : Array Value) (hw : ∀ d ∈ tables_1, d.before a0 Z = true) (a : Addr) (u0 : Int32) (u1 : Int32) (h0 : Heap) (n0 : Nat) (Z0 : n0 ≤ h0.size) (v0 v1 : Value) (F0 : Fld Z h0 a "com/example/admit/admit/Claim" "member" "I" v0) (G0 : Fld Z h0 a "com/example/admit/admit/Claim" "number" "I" v1) (E0 : Exa Z h0 a "com/example/admit/admit/Claim") (g0 : n0 ≤ a) (l : Launch) :
    Con l Z (⟨"com/example/admit/admit/Claim", "<init>", "(II)V"⟩ : MethodName) prog_4_method_1_code 3 none ({ frames := 1, cells := 0, slots := 0, locals := 12 } : Room) #[(.ref a), (.int u0), (.int u1)] h0 n0 (RV fun h => Cl Z h a u0 u1 ∧ Keep h0 h [a]) := by
  refine con_intro pn0 (L := #[.val (.ref a), .val (.int u0), .val (.int u1)]) (fun m => by first | (simp [entryFrame, mkF, argsToLocals, Value.category, maxLocals]; done) | rfl) Z0 (fun w T K H => ?_)
  refine go_aloadN K H d0_0 rfl rfl ?_
  refine go_initO K H d0_1 (hw _ (List.mem_of_getElem? (i := 6) rfl)) (hw _ (List.mem_of_getElem? (i := 7) rfl)) (hw _ (List.mem_of_getElem? (i := 8) rfl)) rfl (by decide) (W := 0) rfl (by decide) fun T1 HT1 => ?_
  refine go_aloadN K HT1 d0_4 rfl rfl ?_
  refine go_iloadN K HT1 d0_5 rfl ?_
  refine go_putfield K HT1 d0_6 (host := "") (Or.inl (hw _ (List.mem_of_getElem? (i := 9) rfl))) Via.refl (F0) (E0) (Or.inr ⟨(hw _ (List.mem_of_getElem? (i := 10) rfl)), rfl, rfl⟩) (hw _ (List.mem_of_getElem? (i := 1) rfl)) (ty := .int) (by decide) rfl rfl (g0) fun T2 h2 H2 W2 => ?_
  have G1 := G0.other W2 (Or.inr (slot_ne (Z := Z) (a0 := a0) (Or.inr (hw _ (List.mem_of_getElem? (i := 12) rfl))) (Or.inr (hw _ (List.mem_of_getElem? (i := 10) rfl))) (by decide) (t := .int) (by decide) (t' := .int) (by decide)))
  have F1 := F0.same W2
  refine go_aloadN K H2 d0_9 rfl rfl ?_
  refine go_iloadN K H2 d0_10 rfl ?_
  refine go_putfield K H2 d0_11 (host := "") (Or.inl (hw _ (List.mem_of_getElem? (i := 11) rfl))) Via.refl (G1) (E0.wr W2) (Or.inr ⟨(hw _ (List.mem_of_getElem? (i := 12) rfl)), rfl, rfl⟩) (hw _ (List.mem_of_getElem? (i := 1) rfl)) (ty := .int) (by decide) rfl rfl (g0) fun T3 h3 H3 W3 => ?_
  exact go_ret K H3 d0_14 rfl (by decide) (by decide) (⟨⟨(E0.wr W2).wr W3, F1.other W3 (Or.inr (slot_ne (Z := Z) (a0 := a0) (Or.inr (hw _ (List.mem_of_getElem? (i := 10) rfl))) (Or.inr (hw _ (List.mem_of_getElem? (i := 12) rfl))) (by decide) (t := .int) (by decide) (t' := .int) (by decide))), G1.same W3⟩, ((Keep.refl _ _).wr W2 (Or.inl (List.mem_singleton.mpr rfl))).wr W3 (Or.inl (List.mem_singleton.mpr rfl))⟩)
set_option maxRecDepth 65536 in
set_option maxHeartbeats 40000000 in
theorem rm2 (Z : State) (a0 : Array Value) (hw : ∀ d ∈ tables_1, d.before a0 Z = true) (a : Addr) (b : Addr) (h0 : Heap) (n0 : Nat) (Z0 : n0 ≤ h0.size) (m1 k1 m2 k2 : Int32) (A : Cl Z h0 a m1 k1) (B : Cl Z h0 b m2 k2) (l : Launch) :
    Con l Z (⟨"com/example/admit/admit/Claim", "equals", "(Ljava/lang/Object;)Z"⟩ : MethodName) prog_4_method_5_code 3 (some .boolean) ({ frames := 0, cells := 0, slots := 0, locals := 0 } : Room) #[(.ref a), (.ref b)] h0 n0 (RI fun z h => z = bI (m1.toInt = m2.toInt ∧ k1.toInt = k2.toInt) ∧ h0 = h) := by
  refine con_intro pn1 (L := #[.val (.ref a), .val (.ref b), .unset]) (fun m => by first | (simp [entryFrame, mkF, argsToLocals, Value.category, maxLocals]; done) | rfl) Z0 (fun w T K H => ?_)
  refine go_aloadN K H d1_0 rfl rfl ?_
  refine go_instY K H d1_1 (hw _ (List.mem_of_getElem? (i := 18) rfl)) (Ins.self B.1) fun T1 HT1 => ?_
  refine go_if_ne K HT1 d1_4 (fun cc => ?_) (fun cc => False.elim (by exact absurd cc (by decide)))
  refine go_aloadN K HT1 d1_9 rfl rfl ?_
  refine go_checkcast K HT1 d1_10 (hw _ (List.mem_of_getElem? (i := 18) rfl)) (Ins.self B.1) fun T2 HT2 => ?_
  refine go_astoreN K HT2 d1_13 rfl (L' := #[.val (.ref a), .val (.ref b), .val (.ref b)]) rfl ?_
  refine go_aloadN K HT2 d1_14 rfl rfl ?_
  refine go_getfield K HT2 d1_15 (host := "") (Or.inl (hw _ (List.mem_of_getElem? (i := 9) rfl))) Via.refl (A.2.1) fun T3 HT3 => ?_
  refine go_aloadN K HT3 d1_18 rfl rfl ?_
  refine go_getfield K HT3 d1_19 (host := "") (Or.inl (hw _ (List.mem_of_getElem? (i := 9) rfl))) Via.refl (B.2.1) fun T4 HT4 => ?_
  refine go_icmp_ne K HT4 d1_22 (fun c22 => ?_) (fun c22 => ?_)
  · refine go_iconst (0) K HT4 d1_40 (by decide) ?_
    exact go_zret K HT4 d1_41 rfl (by decide) (by decide) (by decide) (⟨by refine (bI_f ?_).symm; (try simp only [or_true, true_or, and_true, true_and, not_true_eq_false, not_false_eq_true, Int32.lt_iff_toInt_lt, Int32.le_iff_toInt_le, ← Int32.toInt_inj, Int64.lt_iff_toInt_lt, Int64.le_iff_toInt_le, ← Int64.toInt_inj, Int32.reduceToInt, Int64.reduceToInt, ne_eq] at *) <;> omega, rfl⟩)
  · refine go_aloadN K HT4 d1_25 rfl rfl ?_
    refine go_getfield K HT4 d1_26 (host := "") (Or.inl (hw _ (List.mem_of_getElem? (i := 11) rfl))) Via.refl (A.2.2) fun T5 HT5 => ?_
    refine go_aloadN K HT5 d1_29 rfl rfl ?_
    refine go_getfield K HT5 d1_30 (host := "") (Or.inl (hw _ (List.mem_of_getElem? (i := 11) rfl))) Via.refl (B.2.2) fun T6 HT6 => ?_
    refine go_icmp_ne K HT6 d1_33 (fun c33 => ?_) (fun c33 => ?_)
    · refine go_iconst (0) K HT6 d1_40 (by decide) ?_
      exact go_zret K HT6 d1_41 rfl (by decide) (by decide) (by decide) (⟨by refine (bI_f ?_).symm; (try simp only [or_true, true_or, and_true, true_and, not_true_eq_false, not_false_eq_true, Int32.lt_iff_toInt_lt, Int32.le_iff_toInt_le, ← Int32.toInt_inj, Int64.lt_iff_toInt_lt, Int64.le_iff_toInt_le, ← Int64.toInt_inj, Int32.reduceToInt, Int64.reduceToInt, ne_eq] at *) <;> omega, rfl⟩)
    · refine go_iconst (1) K HT6 d1_36 (by decide) ?_
      refine go_goto K HT6 d1_37 ?_
      exact go_zret K HT6 d1_41 rfl (by decide) (by decide) (by decide) (⟨by refine (bI_t ?_).symm; (try simp only [or_true, true_or, and_true, true_and, not_true_eq_false, not_false_eq_true, Int32.lt_iff_toInt_lt, Int32.le_iff_toInt_le, ← Int32.toInt_inj, Int64.lt_iff_toInt_lt, Int64.le_iff_toInt_le, ← Int64.toInt_inj, Int32.reduceToInt, Int64.reduceToInt, ne_eq] at *) <;> omega, rfl⟩)
set_option maxRecDepth 65536 in
set_option maxHeartbeats 40000000 in
theorem rm3 (Z : State) (a0 : Array Value) (hw : ∀ d ∈ tables_1, d.before a0 Z = true) (a : Addr) (h0 : Heap) (n0 : Nat) (Z0 : n0 ≤ h0.size)  (l : Launch) :
    Con l Z (⟨"com/example/admit/admit/Claim", "equals", "(Ljava/lang/Object;)Z"⟩ : MethodName) prog_4_method_5_code 3 (some .boolean) ({ frames := 0, cells := 0, slots := 0, locals := 0 } : Room) #[(.ref a), .null] h0 n0 (RI fun z h => z = 0 ∧ h0 = h) := by
  refine con_intro pn1 (L := #[.val (.ref a), .val .null, .unset]) (fun m => by first | (simp [entryFrame, mkF, argsToLocals, Value.category, maxLocals]; done) | rfl) Z0 (fun w T K H => ?_)
  refine go_aloadN K H d1_0 rfl rfl ?_
  refine go_instNull K H d1_1 ?_
  refine go_if_ne K H d1_4 (fun cc => False.elim (by exact cc rfl)) (fun cc => ?_)
  refine go_iconst (0) K H d1_7 (by decide) ?_
  exact go_zret K H d1_8 rfl (by decide) (by decide) (by decide) (⟨rfl, rfl⟩)
set_option maxRecDepth 65536 in
set_option maxHeartbeats 40000000 in
theorem rm4 (Z : State) (a0 : Array Value) (hw : ∀ d ∈ tables_1, d.before a0 Z = true) (a : Addr) (b : Addr) (h0 : Heap) (n0 : Nat) (Z0 : n0 ≤ h0.size) (B : Exa Z h0 b "java/lang/Integer") (l : Launch) :
    Con l Z (⟨"com/example/admit/admit/Claim", "equals", "(Ljava/lang/Object;)Z"⟩ : MethodName) prog_4_method_5_code 3 (some .boolean) ({ frames := 0, cells := 0, slots := 0, locals := 0 } : Room) #[(.ref a), (.ref b)] h0 n0 (RI fun z h => z = 0 ∧ h0 = h) := by
  refine con_intro pn1 (L := #[.val (.ref a), .val (.ref b), .unset]) (fun m => by first | (simp [entryFrame, mkF, argsToLocals, Value.category, maxLocals]; done) | rfl) Z0 (fun w T K H => ?_)
  refine go_aloadN K H d1_0 rfl rfl ?_
  refine go_instNo K H d1_1 (hw _ (List.mem_of_getElem? (i := 18) rfl)) (B) (ns_no (hw _ (List.mem_of_getElem? (i := 46) rfl)) (hw _ (List.mem_of_getElem? (i := 1) rfl)) (NS.step (hw _ (List.mem_of_getElem? (i := 46) rfl)) (NS.step (hw _ (List.mem_of_getElem? (i := 47) rfl)) (ns_root (hw _ (List.mem_of_getElem? (i := 48) rfl)) (hw _ (List.mem_of_getElem? (i := 1) rfl)) (by decide)) (by decide)) (by decide)) (by decide)) fun T1 HT1 => ?_
  refine go_if_ne K HT1 d1_4 (fun cc => False.elim (by exact cc rfl)) (fun cc => ?_)
  refine go_iconst (0) K HT1 d1_7 (by decide) ?_
  exact go_zret K HT1 d1_8 rfl (by decide) (by decide) (by decide) (⟨rfl, rfl⟩)
set_option maxRecDepth 65536 in
set_option maxHeartbeats 40000000 in
theorem rm5 (Z : State) (a0 : Array Value) (hw : ∀ d ∈ tables_1, d.before a0 Z = true) (a : Addr) (h0 : Heap) (n0 : Nat) (Z0 : n0 ≤ h0.size) (m1 k1 : Int32) (A : Cl Z h0 a m1 k1) (l : Launch) :
    Con l Z (⟨"com/example/admit/admit/Claim", "hashCode", "()I"⟩ : MethodName) prog_4_method_6_code 1 (some .int) ({ frames := 0, cells := 0, slots := 0, locals := 0 } : Room) #[(.ref a)] h0 n0 (RI fun z h => z = 31 * m1 + k1 ∧ h0 = h) := by
  refine con_intro pn2 (L := #[.val (.ref a)]) (fun m => by first | (simp [entryFrame, mkF, argsToLocals, Value.category, maxLocals]; done) | rfl) Z0 (fun w T K H => ?_)
  refine go_bipush (31) K H d2_0 (by decide) ?_
  refine go_aloadN K H d2_2 rfl rfl ?_
  refine go_getfield K H d2_3 (host := "") (Or.inl (hw _ (List.mem_of_getElem? (i := 9) rfl))) Via.refl (A.2.1) fun T1 HT1 => ?_
  refine go_imul K HT1 d2_6 fun v2 ev2 => ?_
  refine go_aloadN K HT1 d2_7 rfl rfl ?_
  refine go_getfield K HT1 d2_8 (host := "") (Or.inl (hw _ (List.mem_of_getElem? (i := 11) rfl))) Via.refl (A.2.2) fun T3 HT3 => ?_
  refine go_iadd K HT3 d2_11 fun v4 ev4 => ?_
  exact go_iret K HT3 d2_12 rfl (by decide) (by decide) (⟨by subst_vars; rfl, rfl⟩)
set_option maxRecDepth 65536 in
set_option maxHeartbeats 40000000 in
theorem rm6 (Z : State) (a0 : Array Value) (hw : ∀ d ∈ tables_1, d.before a0 Z = true) (a : Addr) (h0 : Heap) (n0 : Nat) (Z0 : n0 ≤ h0.size)  (l : Launch) :
    Con l Z (⟨"java/lang/Number", "<init>", "()V"⟩ : MethodName) jdk_18_method_1_code 1 none ({ frames := 1, cells := 0, slots := 0, locals := 12 } : Room) #[(.ref a)] h0 n0 (RV fun h => h0 = h) := by
  refine con_intro pn3 (L := #[.val (.ref a)]) (fun m => by first | (simp [entryFrame, mkF, argsToLocals, Value.category, maxLocals]; done) | rfl) Z0 (fun w T K H => ?_)
  refine go_aloadN K H d3_0 rfl rfl ?_
  refine go_initO K H d3_1 (hw _ (List.mem_of_getElem? (i := 43) rfl)) (hw _ (List.mem_of_getElem? (i := 7) rfl)) (hw _ (List.mem_of_getElem? (i := 8) rfl)) rfl (by decide) (W := 0) rfl (by decide) fun T1 HT1 => ?_
  exact go_ret K HT1 d3_4 rfl (by decide) (by decide) (rfl)
set_option maxRecDepth 65536 in
set_option maxHeartbeats 40000000 in
theorem rm7 (Z : State) (a0 : Array Value) (hw : ∀ d ∈ tables_1, d.before a0 Z = true) (a : Addr) (u0 : Int32) (h0 : Heap) (n0 : Nat) (Z0 : n0 ≤ h0.size) (v0 : Value) (F0 : Fld Z h0 a "java/lang/Integer" "value" "I" v0) (E0 : Exa Z h0 a "java/lang/Integer") (g0 : n0 ≤ a) (l : Launch) :
    Con l Z (⟨"java/lang/Integer", "<init>", "(I)V"⟩ : MethodName) jdk_33_method_23_code 2 none ({ frames := 2, cells := 0, slots := 0, locals := 24 } : Room) #[(.ref a), (.int u0)] h0 n0 (RV fun h => Exa Z h a "java/lang/Integer" ∧ Keep h0 h [a]) := by
  refine con_intro pn4 (L := #[.val (.ref a), .val (.int u0)]) (fun m => by first | (simp [entryFrame, mkF, argsToLocals, Value.category, maxLocals]; done) | rfl) Z0 (fun w T K H => ?_)
  refine go_aloadN K H d4_0 rfl rfl ?_
  refine go_callI [] K H d4_1 rfl (hw _ (List.mem_of_getElem? (i := 37) rfl)) (hw _ (List.mem_of_getElem? (i := 38) rfl)) (hw _ (List.mem_of_getElem? (i := 41) rfl)) (hw _ (List.mem_of_getElem? (i := 42) rfl)) (st' := []) (by decide) (rm6 Z a0 hw _ _ n0 Z0) pd0 rfl rfl rfl (by decide) (W := 0) rfl (by decide) (by decide) (by decide) fun T1 h1 v1 H1 q1 => ?_
  obtain ⟨rfl, rfl⟩ := q1
  show Go w _ _ 4 #[.val (.ref a), .val (.int u0)] []
  refine go_aloadN K H1 d4_4 rfl rfl ?_
  refine go_iloadN K H1 d4_5 rfl ?_
  refine go_putfield K H1 d4_6 (host := "") (Or.inl (hw _ (List.mem_of_getElem? (i := 44) rfl))) Via.refl (F0) (E0) (Or.inr ⟨(hw _ (List.mem_of_getElem? (i := 45) rfl)), rfl, rfl⟩) (hw _ (List.mem_of_getElem? (i := 32) rfl)) (ty := .int) (by decide) rfl rfl (g0) fun T2 h2 H2 W2 => ?_
  exact go_ret K H2 d4_9 rfl (by decide) (by decide) (⟨E0.wr W2, Keep.of_wr W2⟩)
set_option maxRecDepth 65536 in
set_option maxHeartbeats 40000000 in
theorem rm8 (Z : State) (a0 : Array Value) (hw : ∀ d ∈ tables_1, d.before a0 Z = true) (u0 : Int32) (h0 : Heap) (n0 : Nat) (Z0 : n0 ≤ h0.size) (ca : Addr) (vs : List Value) (O : IC Z h0 ca vs) (l : Launch) :
    Con l Z (⟨"java/lang/Integer", "valueOf", "(I)Ljava/lang/Integer;"⟩ : MethodName) jdk_33_method_22_code 1 (some (.object "java/lang/Integer")) ({ frames := 3, cells := 1, slots := 1, locals := 48 } : Room) #[(.int u0)] h0 n0 (RR fun z h => ∃ b, z = .ref b ∧ Exa Z h b "java/lang/Integer" ∧ Ext h0 h) := by
  refine con_intro pn5 (L := #[.val (.int u0)]) (fun m => by first | (simp [entryFrame, mkF, argsToLocals, Value.category, maxLocals]; done) | rfl) Z0 (fun w T K H => ?_)
  refine go_iloadN K H d5_0 rfl ?_
  refine go_bipush (-128) K H d5_1 (by decide) ?_
  refine go_icmp_lt K H d5_3 (fun c3 => ?_) (fun c3 => ?_)
  · refine go_new K H d5_23 (hw _ (List.mem_of_getElem? (i := 31) rfl)) (hw _ (List.mem_of_getElem? (i := 32) rfl)) (hw _ (List.mem_of_getElem? (i := 27) rfl)) (by decide) (by decide) fun T1 h1 a H1 g1 l1 E1 A1 D1 => ?_
    refine go_dup K H1 d5_26 rfl ?_
    refine go_iloadN K H1 d5_27 rfl ?_
    refine go_callI [(.int u0)] K H1 d5_28 rfl (hw _ (List.mem_of_getElem? (i := 33) rfl)) (hw _ (List.mem_of_getElem? (i := 34) rfl)) (hw _ (List.mem_of_getElem? (i := 27) rfl)) (hw _ (List.mem_of_getElem? (i := 36) rfl)) (st' := [(.ref a)]) (by decide) (rm7 Z a0 hw _ _ _ n0 (at_size K H1) _ (D1 (Or.inr (hw _ (List.mem_of_getElem? (i := 45) rfl))) (ty := .int) (by decide)) A1 l1) pd1 rfl rfl rfl (by decide) (W := 1) rfl (by decide) (by decide) (by decide) fun T2 h2 v2 H2 q2 => ?_
    obtain ⟨rfl, Ex1, Kx1⟩ := q2
    show Go w _ _ 31 #[.val (.int u0)] [(.ref a)]
    exact go_aret K H2 d5_31 rfl rfl rfl (by decide) (by decide) (⟨a, rfl, Ex1, ((E1.keep []).trans Kx1 (fun x q => by cases List.mem_singleton.mp q; exact Or.inr (Nat.le_of_eq g1.symm))).toExt⟩)
  · refine go_iloadN K H d5_6 rfl ?_
    refine go_getstatic K H d5_7 (host := "") (Or.inl (hw _ (List.mem_of_getElem? (i := 29) rfl))) Via.refl (O.1) fun T3 HT3 => ?_
    refine go_icmp_gt K HT3 d5_10 (fun c10 => ?_) (fun c10 => ?_)
    · refine go_new K HT3 d5_23 (hw _ (List.mem_of_getElem? (i := 31) rfl)) (hw _ (List.mem_of_getElem? (i := 32) rfl)) (hw _ (List.mem_of_getElem? (i := 27) rfl)) (by decide) (by decide) fun T4 h4 a H4 g4 l4 E4 A4 D4 => ?_
      refine go_dup K H4 d5_26 rfl ?_
      refine go_iloadN K H4 d5_27 rfl ?_
      refine go_callI [(.int u0)] K H4 d5_28 rfl (hw _ (List.mem_of_getElem? (i := 33) rfl)) (hw _ (List.mem_of_getElem? (i := 34) rfl)) (hw _ (List.mem_of_getElem? (i := 27) rfl)) (hw _ (List.mem_of_getElem? (i := 36) rfl)) (st' := [(.ref a)]) (by decide) (rm7 Z a0 hw _ _ _ n0 (at_size K H4) _ (D4 (Or.inr (hw _ (List.mem_of_getElem? (i := 45) rfl))) (ty := .int) (by decide)) A4 l4) pd1 rfl rfl rfl (by decide) (W := 1) rfl (by decide) (by decide) (by decide) fun T5 h5 v5 H5 q5 => ?_
      obtain ⟨rfl, Ex1, Kx1⟩ := q5
      show Go w _ _ 31 #[.val (.int u0)] [(.ref a)]
      exact go_aret K H5 d5_31 rfl rfl rfl (by decide) (by decide) (⟨a, rfl, Ex1, ((E4.keep []).trans Kx1 (fun x q => by cases List.mem_singleton.mp q; exact Or.inr (Nat.le_of_eq g4.symm))).toExt⟩)
    · refine go_getstatic K HT3 d5_13 (host := "") (Or.inl (hw _ (List.mem_of_getElem? (i := 49) rfl))) Via.refl (O.2.1) fun T6 HT6 => ?_
      refine go_iloadN K HT6 d5_16 rfl ?_
      refine go_sipush (128) K HT6 d5_17 (by decide) ?_
      refine go_iadd K HT6 d5_20 fun v7 ev7 => ?_
      have fv7 := f_iadd ev7
      have rv7 := rng32 v7
      have hj : v7.toInt = ((v7.toInt.toNat : Nat) : Int) := by (try simp only [or_true, true_or, and_true, true_and, not_true_eq_false, not_false_eq_true, Int32.lt_iff_toInt_lt, Int32.le_iff_toInt_le, ← Int32.toInt_inj, Int64.lt_iff_toInt_lt, Int64.le_iff_toInt_le, ← Int64.toInt_inj, Int32.reduceToInt, Int64.reduceToInt, ne_eq] at *) <;> omega
      have hl : v7.toInt.toNat < 256 := by (try simp only [or_true, true_or, and_true, true_and, not_true_eq_false, not_false_eq_true, Int32.lt_iff_toInt_lt, Int32.le_iff_toInt_le, ← Int32.toInt_inj, Int64.lt_iff_toInt_lt, Int64.le_iff_toInt_le, ← Int64.toInt_inj, Int32.reduceToInt, Int64.reduceToInt, ne_eq] at *) <;> omega
      obtain ⟨b, e1, e2⟩ := O.2.2.2.2 _ hl
      refine go_aaload (v7.toInt.toNat) K HT6 d5_21 (O.2.2.1) rfl (hj) (e1) ?_
      exact go_aret K HT6 d5_22 rfl rfl rfl (by decide) (by decide) (⟨b, rfl, e2, Nat.le_refl _, fun _ _ q => q⟩)
set_option maxRecDepth 65536 in
set_option maxHeartbeats 40000000 in
theorem rm0 (Z : State) (a0 : Array Value) (hw : ∀ d ∈ tables_1, d.before a0 Z = true) (u0 : Int32) (u1 : Int32) (u2 : Int32) (u3 : Int32) (u4 : Int32) (h0 : Heap) (n0 : Nat) (Z0 : n0 ≤ h0.size) (ca : Addr) (vs : List Value) (IC0 : IC Z h0 ca vs) (hca : ca < n0) (l : Launch) :
    Con l Z x code maxLocals ret room_1 #[(.int u0), (.int u1), (.int u2), (.int u3), (.int u4)] h0 n0 (RI fun z _ => z = 1) := by
  refine con_intro pn6 (L := #[.val (.int u0), .val (.int u1), .val (.int u2), .val (.int u3), .val (.int u4), .unset, .unset, .unset, .unset, .unset, .unset, .unset, .unset]) (fun m => by first | (simp [entryFrame, mkF, argsToLocals, Value.category, maxLocals]; done) | rfl) Z0 (fun w T K H => ?_)
  refine go_iload K H d6_0 rfl ?_
  refine go_iconst (1) K H d6_2 (by decide) ?_
  refine go_iand K H d6_3 fun v1 ev1 => ?_
  have fv1 := f_mask 2 1 ev1 (by decide) (by decide) (by decide)
  have J12 : ∀ (m2 : Int32), Go w (RI fun z _ => z = 1) T 12 #[.val (.int u0), .val (.int u1), .val (.int u2), .val (.int u3), .val (.int u4), .unset, .unset, .unset, .unset, .unset, .unset, .unset, .unset] [(.int m2)] := by
    intro m2
    refine go_istore K H d6_12 (L' := #[.val (.int u0), .val (.int u1), .val (.int u2), .val (.int u3), .val (.int u4), .val (.int m2), .unset, .unset, .unset, .unset, .unset, .unset, .unset]) rfl ?_
    refine go_iload K H d6_14 rfl ?_
    refine go_iconst (2) K H d6_16 (by decide) ?_
    refine go_iand K H d6_17 fun v2 ev2 => ?_
    have J26 : ∀ (n2 : Int32), Go w (RI fun z _ => z = 1) T 26 #[.val (.int u0), .val (.int u1), .val (.int u2), .val (.int u3), .val (.int u4), .val (.int m2), .unset, .unset, .unset, .unset, .unset, .unset, .unset] [(.int n2)] := by
      intro n2
      refine go_istore K H d6_26 (L' := #[.val (.int u0), .val (.int u1), .val (.int u2), .val (.int u3), .val (.int u4), .val (.int m2), .val (.int n2), .unset, .unset, .unset, .unset, .unset, .unset]) rfl ?_
      refine go_iload K H d6_28 rfl ?_
      refine go_iconst (2) K H d6_30 (by decide) ?_
      refine go_iushr K H d6_31 fun v3 ev3 => ?_
      have fv3 := f_iushr 4 2 ev3 (by decide) (by decide) (by decide)
      refine go_iconst (3) K H d6_32 (by decide) ?_
      refine go_iand K H d6_33 fun v4 ev4 => ?_
      have fv4 := f_mask 4 2 ev4 (by decide) (by decide) (by decide)
      refine go_istore K H d6_34 (L' := #[.val (.int u0), .val (.int u1), .val (.int u2), .val (.int u3), .val (.int u4), .val (.int m2), .val (.int n2), .val (.int v4), .unset, .unset, .unset, .unset, .unset]) rfl ?_
      have hk : 0 ≤ v4.toInt ∧ v4.toInt ≤ 3 := by (try simp only [or_true, true_or, and_true, true_and, not_true_eq_false, not_false_eq_true, Int32.lt_iff_toInt_lt, Int32.le_iff_toInt_le, ← Int32.toInt_inj, Int64.lt_iff_toInt_lt, Int64.le_iff_toInt_le, ← Int64.toInt_inj, Int32.reduceToInt, Int64.reduceToInt, ne_eq] at *) <;> omega
      refine go_new K H d6_36 (hw _ (List.mem_of_getElem? (i := 0) rfl)) (hw _ (List.mem_of_getElem? (i := 1) rfl)) (hw _ (List.mem_of_getElem? (i := 2) rfl)) (by decide) (by decide) fun T5 h5 a H5 g5 l5 E5 A5 D5 => ?_
      have IC1 := IC0.ext E5
      refine go_dup K H5 d6_39 rfl ?_
      refine go_iloadN K H5 d6_40 rfl ?_
      refine go_iloadN K H5 d6_41 rfl ?_
      refine go_callI [(.int u0), (.int u1)] K H5 d6_42 rfl (hw _ (List.mem_of_getElem? (i := 3) rfl)) (hw _ (List.mem_of_getElem? (i := 4) rfl)) (hw _ (List.mem_of_getElem? (i := 2) rfl)) (hw _ (List.mem_of_getElem? (i := 5) rfl)) (st' := [(.ref a)]) (by decide) (rm1 Z a0 hw _ _ _ _ n0 (at_size K H5) _ _ (D5 (Or.inr (hw _ (List.mem_of_getElem? (i := 10) rfl))) (ty := .int) (by decide)) (D5 (Or.inr (hw _ (List.mem_of_getElem? (i := 12) rfl))) (ty := .int) (by decide)) A5 l5) pd2 rfl rfl rfl (by decide) (W := 1) rfl (by decide) (by decide) (by decide) fun T6 h6 v6 H6 q6 => ?_
      obtain ⟨rfl, Oa, Ka⟩ := q6
      show Go w _ _ 45 #[.val (.int u0), .val (.int u1), .val (.int u2), .val (.int u3), .val (.int u4), .val (.int m2), .val (.int n2), .val (.int v4), .unset, .unset, .unset, .unset, .unset] [(.ref a)]
      replace IC1 := IC1.keep Ka (Nat.ne_of_lt (Nat.lt_of_lt_of_le hca l5)) A5
      refine go_astore K H6 d6_45 rfl (L' := #[.val (.int u0), .val (.int u1), .val (.int u2), .val (.int u3), .val (.int u4), .val (.int m2), .val (.int n2), .val (.int v4), .val (.ref a), .unset, .unset, .unset, .unset]) rfl ?_
      refine go_new K H6 d6_47 (hw _ (List.mem_of_getElem? (i := 0) rfl)) (hw _ (List.mem_of_getElem? (i := 1) rfl)) (hw _ (List.mem_of_getElem? (i := 2) rfl)) (by decide) (by decide) fun T7 h7 b H7 g7 l7 E7 A7 D7 => ?_
      have neab := Oa.ne g7; replace Oa := Oa.ext E7; replace IC1 := IC1.ext E7
      refine go_dup K H7 d6_50 rfl ?_
      refine go_iload K H7 d6_51 rfl ?_
      refine go_iload K H7 d6_53 rfl ?_
      refine go_callI [(.int m2), (.int n2)] K H7 d6_55 rfl (hw _ (List.mem_of_getElem? (i := 3) rfl)) (hw _ (List.mem_of_getElem? (i := 4) rfl)) (hw _ (List.mem_of_getElem? (i := 2) rfl)) (hw _ (List.mem_of_getElem? (i := 5) rfl)) (st' := [(.ref b)]) (by decide) (rm1 Z a0 hw _ _ _ _ n0 (at_size K H7) _ _ (D7 (Or.inr (hw _ (List.mem_of_getElem? (i := 10) rfl))) (ty := .int) (by decide)) (D7 (Or.inr (hw _ (List.mem_of_getElem? (i := 12) rfl))) (ty := .int) (by decide)) A7 l7) pd2 rfl rfl rfl (by decide) (W := 1) rfl (by decide) (by decide) (by decide) fun T8 h8 v8 H8 q8 => ?_
      obtain ⟨rfl, Ob, Kb⟩ := q8
      show Go w _ _ 58 #[.val (.int u0), .val (.int u1), .val (.int u2), .val (.int u3), .val (.int u4), .val (.int m2), .val (.int n2), .val (.int v4), .val (.ref a), .unset, .unset, .unset, .unset] [(.ref b)]
      replace IC1 := IC1.keep Kb (Nat.ne_of_lt (Nat.lt_of_lt_of_le hca l7)) A7; replace Oa := Oa.keep Kb neab
      refine go_astore K H8 d6_58 rfl (L' := #[.val (.int u0), .val (.int u1), .val (.int u2), .val (.int u3), .val (.int u4), .val (.int m2), .val (.int n2), .val (.int v4), .val (.ref a), .val (.ref b), .unset, .unset, .unset]) rfl ?_
      refine go_iload K H8 d6_60 rfl ?_
      refine go_iconst (2) K H8 d6_62 (by decide) ?_
      refine go_icmp_ne K H8 d6_63 (fun c63 => ?_) (fun c63 => ?_)
      · refine go_iload K H8 d6_72 rfl ?_
        refine go_iconst (3) K H8 d6_74 (by decide) ?_
        refine go_icmp_ne K H8 d6_75 (fun c75 => ?_) (fun c75 => ?_)
        · refine go_aload K H8 d6_87 rfl rfl ?_
          refine go_astore K H8 d6_89 rfl (L' := #[.val (.int u0), .val (.int u1), .val (.int u2), .val (.int u3), .val (.int u4), .val (.int m2), .val (.int n2), .val (.int v4), .val (.ref a), .val (.ref b), .val (.ref b), .unset, .unset]) rfl ?_
          refine go_aload K H8 d6_91 rfl rfl ?_
          refine go_aload K H8 d6_93 rfl rfl ?_
          refine go_callV [(.ref b)] K H8 d6_95 (Oa.1) (hw _ (List.mem_of_getElem? (i := 13) rfl)) (hw _ (List.mem_of_getElem? (i := 14) rfl)) (nf_sel (hw _ (List.mem_of_getElem? (i := 16) rfl))) (hw _ (List.mem_of_getElem? (i := 16) rfl)) (hw _ (List.mem_of_getElem? (i := 15) rfl)) (hw _ (List.mem_of_getElem? (i := 2) rfl)) (hw _ (List.mem_of_getElem? (i := 17) rfl)) (st' := []) (by decide) (rm2 Z a0 hw _ _ _ n0 (at_size K H8) _ _ _ _ Oa Ob) pd3 rfl rfl rfl (by decide) (W := 0) rfl (by decide) (by decide) (by decide) fun T9 h9 v9 H9 q9 => ?_
          obtain ⟨z9, rfl, e1, rfl⟩ := q9
          show Go w _ _ 98 #[.val (.int u0), .val (.int u1), .val (.int u2), .val (.int u3), .val (.int u4), .val (.int m2), .val (.int n2), .val (.int v4), .val (.ref a), .val (.ref b), .val (.ref b), .unset, .unset] [(.int z9)]
          refine go_istore K H9 d6_98 (L' := #[.val (.int u0), .val (.int u1), .val (.int u2), .val (.int u3), .val (.int u4), .val (.int m2), .val (.int n2), .val (.int v4), .val (.ref a), .val (.ref b), .val (.ref b), .val (.int z9), .unset]) rfl ?_
          refine go_iload K H9 d6_100 rfl ?_
          refine go_iconst (2) K H9 d6_102 (by decide) ?_
          refine go_icmp_lt K H9 d6_103 (fun c103 => ?_) (fun c103 => False.elim (by (try simp only [or_true, true_or, and_true, true_and, not_true_eq_false, not_false_eq_true, Int32.lt_iff_toInt_lt, Int32.le_iff_toInt_le, ← Int32.toInt_inj, Int64.lt_iff_toInt_lt, Int64.le_iff_toInt_le, ← Int64.toInt_inj, Int32.reduceToInt, Int64.reduceToInt, ne_eq] at *) <;> omega))
          refine go_iloadN K H9 d6_117 rfl ?_
          refine go_iload K H9 d6_118 rfl ?_
          refine go_icmp_ne K H9 d6_120 (fun c120 => ?_) (fun c120 => ?_)
          · refine go_iconst (0) K H9 d6_133 (by decide) ?_
            refine go_istore K H9 d6_134 (L' := #[.val (.int u0), .val (.int u1), .val (.int u2), .val (.int u3), .val (.int u4), .val (.int m2), .val (.int n2), .val (.int v4), .val (.ref a), .val (.ref b), .val (.ref b), .val (.int z9), .val (.int 0)]) rfl ?_
            refine go_iload K H9 d6_136 rfl ?_
            refine go_iload K H9 d6_138 rfl ?_
            refine go_icmp_eq K H9 d6_140 (fun cc => ?_) (fun cc => False.elim (by exact cc (by rw [e1]; exact bI_f (by (try simp only [or_true, true_or, and_true, true_and, not_true_eq_false, not_false_eq_true, Int32.lt_iff_toInt_lt, Int32.le_iff_toInt_le, ← Int32.toInt_inj, Int64.lt_iff_toInt_lt, Int64.le_iff_toInt_le, ← Int64.toInt_inj, Int32.reduceToInt, Int64.reduceToInt, ne_eq] at *) <;> omega))))
            refine go_aload K H9 d6_145 rfl rfl ?_
            refine go_aload K H9 d6_147 rfl rfl ?_
            refine go_callV [(.ref a)] K H9 d6_149 (Ob.1) (hw _ (List.mem_of_getElem? (i := 13) rfl)) (hw _ (List.mem_of_getElem? (i := 14) rfl)) (nf_sel (hw _ (List.mem_of_getElem? (i := 16) rfl))) (hw _ (List.mem_of_getElem? (i := 16) rfl)) (hw _ (List.mem_of_getElem? (i := 15) rfl)) (hw _ (List.mem_of_getElem? (i := 2) rfl)) (hw _ (List.mem_of_getElem? (i := 17) rfl)) (st' := []) (by decide) (rm2 Z a0 hw _ _ _ n0 (at_size K H9) _ _ _ _ Ob Oa) pd3 rfl rfl rfl (by decide) (W := 0) rfl (by decide) (by decide) (by decide) fun T10 h10 v10 H10 q10 => ?_
            obtain ⟨z10, rfl, e2, rfl⟩ := q10
            show Go w _ _ 152 #[.val (.int u0), .val (.int u1), .val (.int u2), .val (.int u3), .val (.int u4), .val (.int m2), .val (.int n2), .val (.int v4), .val (.ref a), .val (.ref b), .val (.ref b), .val (.int z9), .val (.int 0)] [(.int z10)]
            refine go_iload K H10 d6_152 rfl ?_
            refine go_icmp_eq K H10 d6_154 (fun cc => ?_) (fun cc => False.elim (by exact cc (by rw [e2]; exact bI_f (by (try simp only [or_true, true_or, and_true, true_and, not_true_eq_false, not_false_eq_true, Int32.lt_iff_toInt_lt, Int32.le_iff_toInt_le, ← Int32.toInt_inj, Int64.lt_iff_toInt_lt, Int64.le_iff_toInt_le, ← Int64.toInt_inj, Int32.reduceToInt, Int64.reduceToInt, ne_eq] at *) <;> omega))))
            refine go_iload K H10 d6_159 rfl ?_
            refine go_if_eq K H10 d6_161 (fun cc => ?_) (fun cc => False.elim (by exact cc rfl))
            refine go_iconst (1) K H10 d6_179 (by decide) ?_
            exact go_zret K H10 d6_180 rfl (by decide) (by decide) (by decide) (rfl)
          · refine go_iloadN K H9 d6_123 rfl ?_
            refine go_iload K H9 d6_124 rfl ?_
            refine go_icmp_ne K H9 d6_126 (fun c126 => ?_) (fun c126 => ?_)
            · refine go_iconst (0) K H9 d6_133 (by decide) ?_
              refine go_istore K H9 d6_134 (L' := #[.val (.int u0), .val (.int u1), .val (.int u2), .val (.int u3), .val (.int u4), .val (.int m2), .val (.int n2), .val (.int v4), .val (.ref a), .val (.ref b), .val (.ref b), .val (.int z9), .val (.int 0)]) rfl ?_
              refine go_iload K H9 d6_136 rfl ?_
              refine go_iload K H9 d6_138 rfl ?_
              refine go_icmp_eq K H9 d6_140 (fun cc => ?_) (fun cc => False.elim (by exact cc (by rw [e1]; exact bI_f (by (try simp only [or_true, true_or, and_true, true_and, not_true_eq_false, not_false_eq_true, Int32.lt_iff_toInt_lt, Int32.le_iff_toInt_le, ← Int32.toInt_inj, Int64.lt_iff_toInt_lt, Int64.le_iff_toInt_le, ← Int64.toInt_inj, Int32.reduceToInt, Int64.reduceToInt, ne_eq] at *) <;> omega))))
              refine go_aload K H9 d6_145 rfl rfl ?_
              refine go_aload K H9 d6_147 rfl rfl ?_
              refine go_callV [(.ref a)] K H9 d6_149 (Ob.1) (hw _ (List.mem_of_getElem? (i := 13) rfl)) (hw _ (List.mem_of_getElem? (i := 14) rfl)) (nf_sel (hw _ (List.mem_of_getElem? (i := 16) rfl))) (hw _ (List.mem_of_getElem? (i := 16) rfl)) (hw _ (List.mem_of_getElem? (i := 15) rfl)) (hw _ (List.mem_of_getElem? (i := 2) rfl)) (hw _ (List.mem_of_getElem? (i := 17) rfl)) (st' := []) (by decide) (rm2 Z a0 hw _ _ _ n0 (at_size K H9) _ _ _ _ Ob Oa) pd3 rfl rfl rfl (by decide) (W := 0) rfl (by decide) (by decide) (by decide) fun T11 h11 v11 H11 q11 => ?_
              obtain ⟨z11, rfl, e2, rfl⟩ := q11
              show Go w _ _ 152 #[.val (.int u0), .val (.int u1), .val (.int u2), .val (.int u3), .val (.int u4), .val (.int m2), .val (.int n2), .val (.int v4), .val (.ref a), .val (.ref b), .val (.ref b), .val (.int z9), .val (.int 0)] [(.int z11)]
              refine go_iload K H11 d6_152 rfl ?_
              refine go_icmp_eq K H11 d6_154 (fun cc => ?_) (fun cc => False.elim (by exact cc (by rw [e2]; exact bI_f (by (try simp only [or_true, true_or, and_true, true_and, not_true_eq_false, not_false_eq_true, Int32.lt_iff_toInt_lt, Int32.le_iff_toInt_le, ← Int32.toInt_inj, Int64.lt_iff_toInt_lt, Int64.le_iff_toInt_le, ← Int64.toInt_inj, Int32.reduceToInt, Int64.reduceToInt, ne_eq] at *) <;> omega))))
              refine go_iload K H11 d6_159 rfl ?_
              refine go_if_eq K H11 d6_161 (fun cc => ?_) (fun cc => False.elim (by exact cc rfl))
              refine go_iconst (1) K H11 d6_179 (by decide) ?_
              exact go_zret K H11 d6_180 rfl (by decide) (by decide) (by decide) (rfl)
            · refine go_iconst (1) K H9 d6_129 (by decide) ?_
              refine go_goto K H9 d6_130 ?_
              refine go_istore K H9 d6_134 (L' := #[.val (.int u0), .val (.int u1), .val (.int u2), .val (.int u3), .val (.int u4), .val (.int m2), .val (.int n2), .val (.int v4), .val (.ref a), .val (.ref b), .val (.ref b), .val (.int z9), .val (.int 1)]) rfl ?_
              refine go_iload K H9 d6_136 rfl ?_
              refine go_iload K H9 d6_138 rfl ?_
              refine go_icmp_eq K H9 d6_140 (fun cc => ?_) (fun cc => False.elim (by exact cc (by rw [e1]; exact bI_t (by (try simp only [or_true, true_or, and_true, true_and, not_true_eq_false, not_false_eq_true, Int32.lt_iff_toInt_lt, Int32.le_iff_toInt_le, ← Int32.toInt_inj, Int64.lt_iff_toInt_lt, Int64.le_iff_toInt_le, ← Int64.toInt_inj, Int32.reduceToInt, Int64.reduceToInt, ne_eq] at *) <;> omega))))
              refine go_aload K H9 d6_145 rfl rfl ?_
              refine go_aload K H9 d6_147 rfl rfl ?_
              refine go_callV [(.ref a)] K H9 d6_149 (Ob.1) (hw _ (List.mem_of_getElem? (i := 13) rfl)) (hw _ (List.mem_of_getElem? (i := 14) rfl)) (nf_sel (hw _ (List.mem_of_getElem? (i := 16) rfl))) (hw _ (List.mem_of_getElem? (i := 16) rfl)) (hw _ (List.mem_of_getElem? (i := 15) rfl)) (hw _ (List.mem_of_getElem? (i := 2) rfl)) (hw _ (List.mem_of_getElem? (i := 17) rfl)) (st' := []) (by decide) (rm2 Z a0 hw _ _ _ n0 (at_size K H9) _ _ _ _ Ob Oa) pd3 rfl rfl rfl (by decide) (W := 0) rfl (by decide) (by decide) (by decide) fun T12 h12 v12 H12 q12 => ?_
              obtain ⟨z12, rfl, e2, rfl⟩ := q12
              show Go w _ _ 152 #[.val (.int u0), .val (.int u1), .val (.int u2), .val (.int u3), .val (.int u4), .val (.int m2), .val (.int n2), .val (.int v4), .val (.ref a), .val (.ref b), .val (.ref b), .val (.int z9), .val (.int 1)] [(.int z12)]
              refine go_iload K H12 d6_152 rfl ?_
              refine go_icmp_eq K H12 d6_154 (fun cc => ?_) (fun cc => False.elim (by exact cc (by rw [e2]; exact bI_t (by (try simp only [or_true, true_or, and_true, true_and, not_true_eq_false, not_false_eq_true, Int32.lt_iff_toInt_lt, Int32.le_iff_toInt_le, ← Int32.toInt_inj, Int64.lt_iff_toInt_lt, Int64.le_iff_toInt_le, ← Int64.toInt_inj, Int32.reduceToInt, Int64.reduceToInt, ne_eq] at *) <;> omega))))
              refine go_iload K H12 d6_159 rfl ?_
              refine go_if_eq K H12 d6_161 (fun cc => False.elim (by exact absurd cc (by decide))) (fun cc => ?_)
              refine go_aload K H12 d6_164 rfl rfl ?_
              refine go_callV [] K H12 d6_166 (Oa.1) (hw _ (List.mem_of_getElem? (i := 20) rfl)) (hw _ (List.mem_of_getElem? (i := 21) rfl)) (nf_sel (hw _ (List.mem_of_getElem? (i := 23) rfl))) (hw _ (List.mem_of_getElem? (i := 23) rfl)) (hw _ (List.mem_of_getElem? (i := 22) rfl)) (hw _ (List.mem_of_getElem? (i := 2) rfl)) (hw _ (List.mem_of_getElem? (i := 24) rfl)) (st' := []) (by decide) (rm5 Z a0 hw _ _ n0 (at_size K H12) _ _ Oa) pd4 rfl rfl rfl (by decide) (W := 0) rfl (by decide) (by decide) (by decide) fun T13 h13 v13 H13 q13 => ?_
              obtain ⟨z13, rfl, e3, rfl⟩ := q13
              show Go w _ _ 169 #[.val (.int u0), .val (.int u1), .val (.int u2), .val (.int u3), .val (.int u4), .val (.int m2), .val (.int n2), .val (.int v4), .val (.ref a), .val (.ref b), .val (.ref b), .val (.int z9), .val (.int 1)] [(.int z13)]
              refine go_aload K H13 d6_169 rfl rfl ?_
              refine go_callV [] K H13 d6_171 (Ob.1) (hw _ (List.mem_of_getElem? (i := 20) rfl)) (hw _ (List.mem_of_getElem? (i := 21) rfl)) (nf_sel (hw _ (List.mem_of_getElem? (i := 23) rfl))) (hw _ (List.mem_of_getElem? (i := 23) rfl)) (hw _ (List.mem_of_getElem? (i := 22) rfl)) (hw _ (List.mem_of_getElem? (i := 2) rfl)) (hw _ (List.mem_of_getElem? (i := 24) rfl)) (st' := [(.int z13)]) (by decide) (rm5 Z a0 hw _ _ n0 (at_size K H13) _ _ Ob) pd4 rfl rfl rfl (by decide) (W := 1) rfl (by decide) (by decide) (by decide) fun T14 h14 v14 H14 q14 => ?_
              obtain ⟨z14, rfl, e4, rfl⟩ := q14
              show Go w _ _ 174 #[.val (.int u0), .val (.int u1), .val (.int u2), .val (.int u3), .val (.int u4), .val (.int m2), .val (.int n2), .val (.int v4), .val (.ref a), .val (.ref b), .val (.ref b), .val (.int z9), .val (.int 1)] [(.int z14), (.int z13)]
              refine go_icmp_eq K H14 d6_174 (fun cc => ?_) (fun cc => False.elim (by exact cc (by rw [e3, e4, c120, c126])))
              refine go_iconst (1) K H14 d6_179 (by decide) ?_
              exact go_zret K H14 d6_180 rfl (by decide) (by decide) (by decide) (rfl)
        · refine go_iloadN K H8 d6_78 rfl ?_
          refine go_callS [(.int u0)] K H8 d6_79 (hw _ (List.mem_of_getElem? (i := 25) rfl)) (hw _ (List.mem_of_getElem? (i := 26) rfl)) (hw _ (List.mem_of_getElem? (i := 27) rfl)) (hw _ (List.mem_of_getElem? (i := 28) rfl)) (st' := []) (by decide) (rm8 Z a0 hw _ _ n0 (at_size K H8) _ _ IC1) pd5 rfl rfl rfl (by decide) (W := 0) rfl (by decide) (by decide) (by decide) fun T15 h15 v15 H15 q15 => ?_
          obtain ⟨z15, rfl, hz15, i, rfl, Ei, X1⟩ := q15
          show Go w _ _ 82 #[.val (.int u0), .val (.int u1), .val (.int u2), .val (.int u3), .val (.int u4), .val (.int m2), .val (.int n2), .val (.int v4), .val (.ref a), .val (.ref b), .unset, .unset, .unset] [(.ref i)]
          replace Oa := Oa.ext X1
          refine go_astore K H15 d6_82 rfl (L' := #[.val (.int u0), .val (.int u1), .val (.int u2), .val (.int u3), .val (.int u4), .val (.int m2), .val (.int n2), .val (.int v4), .val (.ref a), .val (.ref b), .val (.ref i), .unset, .unset]) rfl ?_
          refine go_goto K H15 d6_84 ?_
          refine go_aload K H15 d6_91 rfl rfl ?_
          refine go_aload K H15 d6_93 rfl rfl ?_
          refine go_callV [(.ref i)] K H15 d6_95 (Oa.1) (hw _ (List.mem_of_getElem? (i := 13) rfl)) (hw _ (List.mem_of_getElem? (i := 14) rfl)) (nf_sel (hw _ (List.mem_of_getElem? (i := 16) rfl))) (hw _ (List.mem_of_getElem? (i := 16) rfl)) (hw _ (List.mem_of_getElem? (i := 15) rfl)) (hw _ (List.mem_of_getElem? (i := 2) rfl)) (hw _ (List.mem_of_getElem? (i := 17) rfl)) (st' := []) (by decide) (rm4 Z a0 hw _ _ _ n0 (at_size K H15) Ei) pd3 rfl rfl rfl (by decide) (W := 0) rfl (by decide) (by decide) (by decide) fun T16 h16 v16 H16 q16 => ?_
          obtain ⟨z16, rfl, e1, rfl⟩ := q16
          show Go w _ _ 98 #[.val (.int u0), .val (.int u1), .val (.int u2), .val (.int u3), .val (.int u4), .val (.int m2), .val (.int n2), .val (.int v4), .val (.ref a), .val (.ref b), .val (.ref i), .unset, .unset] [(.int z16)]
          refine go_istore K H16 d6_98 (L' := #[.val (.int u0), .val (.int u1), .val (.int u2), .val (.int u3), .val (.int u4), .val (.int m2), .val (.int n2), .val (.int v4), .val (.ref a), .val (.ref b), .val (.ref i), .val (.int z16), .unset]) rfl ?_
          refine go_iload K H16 d6_100 rfl ?_
          refine go_iconst (2) K H16 d6_102 (by decide) ?_
          refine go_icmp_lt K H16 d6_103 (fun cc => False.elim (by (try simp only [or_true, true_or, and_true, true_and, not_true_eq_false, not_false_eq_true, Int32.lt_iff_toInt_lt, Int32.le_iff_toInt_le, ← Int32.toInt_inj, Int64.lt_iff_toInt_lt, Int64.le_iff_toInt_le, ← Int64.toInt_inj, Int32.reduceToInt, Int64.reduceToInt, ne_eq] at *) <;> omega)) (fun cc => ?_)
          refine go_iload K H16 d6_106 rfl ?_
          refine go_if_ne K H16 d6_108 (fun cc => False.elim (by exact cc e1)) (fun cc => ?_)
          refine go_iconst (1) K H16 d6_111 (by decide) ?_
          refine go_goto K H16 d6_112 ?_
          exact go_zret K H16 d6_116 rfl (by decide) (by decide) (by decide) (rfl)
      · refine go_null K H8 d6_66 ?_
        refine go_astore K H8 d6_67 rfl (L' := #[.val (.int u0), .val (.int u1), .val (.int u2), .val (.int u3), .val (.int u4), .val (.int m2), .val (.int n2), .val (.int v4), .val (.ref a), .val (.ref b), .val .null, .unset, .unset]) rfl ?_
        refine go_goto K H8 d6_69 ?_
        refine go_aload K H8 d6_91 rfl rfl ?_
        refine go_aload K H8 d6_93 rfl rfl ?_
        refine go_callV [.null] K H8 d6_95 (Oa.1) (hw _ (List.mem_of_getElem? (i := 13) rfl)) (hw _ (List.mem_of_getElem? (i := 14) rfl)) (nf_sel (hw _ (List.mem_of_getElem? (i := 16) rfl))) (hw _ (List.mem_of_getElem? (i := 16) rfl)) (hw _ (List.mem_of_getElem? (i := 15) rfl)) (hw _ (List.mem_of_getElem? (i := 2) rfl)) (hw _ (List.mem_of_getElem? (i := 17) rfl)) (st' := []) (by decide) (rm3 Z a0 hw _ _ n0 (at_size K H8)) pd3 rfl rfl rfl (by decide) (W := 0) rfl (by decide) (by decide) (by decide) fun T17 h17 v17 H17 q17 => ?_
        obtain ⟨z17, rfl, e1, rfl⟩ := q17
        show Go w _ _ 98 #[.val (.int u0), .val (.int u1), .val (.int u2), .val (.int u3), .val (.int u4), .val (.int m2), .val (.int n2), .val (.int v4), .val (.ref a), .val (.ref b), .val .null, .unset, .unset] [(.int z17)]
        refine go_istore K H17 d6_98 (L' := #[.val (.int u0), .val (.int u1), .val (.int u2), .val (.int u3), .val (.int u4), .val (.int m2), .val (.int n2), .val (.int v4), .val (.ref a), .val (.ref b), .val .null, .val (.int z17), .unset]) rfl ?_
        refine go_iload K H17 d6_100 rfl ?_
        refine go_iconst (2) K H17 d6_102 (by decide) ?_
        refine go_icmp_lt K H17 d6_103 (fun cc => False.elim (by (try simp only [or_true, true_or, and_true, true_and, not_true_eq_false, not_false_eq_true, Int32.lt_iff_toInt_lt, Int32.le_iff_toInt_le, ← Int32.toInt_inj, Int64.lt_iff_toInt_lt, Int64.le_iff_toInt_le, ← Int64.toInt_inj, Int32.reduceToInt, Int64.reduceToInt, ne_eq] at *) <;> omega)) (fun cc => ?_)
        refine go_iload K H17 d6_106 rfl ?_
        refine go_if_ne K H17 d6_108 (fun cc => False.elim (by exact cc e1)) (fun cc => ?_)
        refine go_iconst (1) K H17 d6_111 (by decide) ?_
        refine go_goto K H17 d6_112 ?_
        exact go_zret K H17 d6_116 rfl (by decide) (by decide) (by decide) (rfl)
    refine go_if_eq K H d6_18 (fun c18 => ?_) (fun c18 => ?_)
    · refine go_iloadN K H d6_25 rfl ?_
      exact J26 _
    · refine go_iloadN K H d6_21 rfl ?_
      refine go_goto K H d6_22 ?_
      exact J26 _
  refine go_if_eq K H d6_4 (fun c4 => ?_) (fun c4 => ?_)
  · refine go_iloadN K H d6_11 rfl ?_
    exact J12 _
  · refine go_iloadN K H d6_7 rfl ?_
    refine go_goto K H d6_8 ?_
    exact J12 _
set_option maxRecDepth 65536 in
set_option maxHeartbeats 40000000 in
theorem own_law (l : Launch) (s : State) (args : Array Value) (hF : heapFits s = true) (hrest : (∀ d ∈ jdkStatics_1, d.before args s = true)) (hg : (Jvm.Cond.and given_1 narrow_1).value args s none s [] = some true) (hw : ∀ d ∈ tables_1, d.before args s = true) : Con l s x code maxLocals ret room_1 args s.heap s.heap.size (RI fun z _ => z = 1) := by
  obtain ⟨hg, hn⟩ := and_e hg
  obtain ⟨g0, hg⟩ := and_e hg
  obtain ⟨w0, w1, w2, w3, w4, rfl⟩ : ∃ w0 w1 w2 w3 w4 : Value, args = #[w0, w1, w2, w3, w4] := by
    have hs : args.size = 5 := by simpa [Cond.value, given_1] using g0
    obtain ⟨L⟩ := args
    match L, hs with
    | [w0, w1, w2, w3, w4], _ => exact ⟨w0, w1, w2, w3, w4, rfl⟩
  obtain ⟨g1, hg⟩ := and_e hg
  obtain ⟨i0, ei0⟩ := is_v g1
  obtain rfl : w0 = (.int i0) := Option.some.inj ei0
  obtain ⟨g2, hg⟩ := and_e hg
  obtain ⟨i1, ei1⟩ := is_v g2
  obtain rfl : w1 = (.int i1) := Option.some.inj ei1
  obtain ⟨g3, hg⟩ := and_e hg
  obtain ⟨i2, ei2⟩ := is_v g3
  obtain rfl : w2 = (.int i2) := Option.some.inj ei2
  obtain ⟨g4, hg⟩ := and_e hg
  obtain ⟨i3, ei3⟩ := is_v g4
  obtain rfl : w3 = (.int i3) := Option.some.inj ei3
  obtain ⟨i4, ei4⟩ := is_v hg
  obtain rfl : w4 = (.int i4) := Option.some.inj ei4
  have j3 := eqI_v (Cond.before_iff.mp (hrest _ (List.mem_of_getElem? (i := 3) rfl)))
  have j4 := Cond.before_iff.mp (hrest _ (List.mem_of_getElem? (i := 4) rfl))
  have j6 := Cond.before_iff.mp (hrest _ (List.mem_of_getElem? (i := 6) rfl))
  have j7 := Cond.before_iff.mp (hrest _ (List.mem_of_getElem? (i := 7) rfl))
  obtain ⟨ca, ev⟩ := arr_v j4
  obtain ⟨c, A⟩ := Arr.start ev j4
  have hs := len_size (eqI_v j6) ev A.1
  have hz : c.slots.size = 256 := by have : (256 : Int32).toInt = 256 := rfl; omega
  have S1 := Sta.start j3 (Or.inl (hrest _ (List.mem_of_getElem? (i := 1) rfl)))
  have S2 := Sta.start ev (Or.inr ⟨(hw _ (List.mem_of_getElem? (i := 30) rfl)), (hrest _ (List.mem_of_getElem? (i := 2) rfl))⟩)
  have I0 : IC s s.heap ca c.slots.toList := by
    refine ⟨S1, S2, ⟨c, A, rfl, by simp [hz]⟩, by simp [hz], fun i hi => ?_⟩
    have q := all_at j7 ev A.1 (i := i) (by omega)
    obtain ⟨q1, -⟩ := and_e q
    obtain ⟨y, ey⟩ := exa_v q1
    have e2 := exa_at ey q1
    have hj : (Nat.toInt32 i).toNatClampNeg = i := by simp only [Int32.toNatClampNeg, len_toInt (show i < 2 ^ 31 by omega)]; rfl
    have d3 := (elem_in (j := Nat.toInt32 i) ey ev (Term.index_eval _) A.1).2
    rw [hj] at d3
    exact ⟨y, by rw [Array.getElem?_toList]; exact d3, e2⟩
  exact rm0 s _ hw i0 i1 i2 i3 i4 s.heap s.heap.size (Nat.le_refl _) ca _ I0 A.lt l
theorem rest_all {ws : List Jvm.Cond} {c : Jvm.Cond} {args : Array Value} {s : State} (h : (ws.foldr Jvm.Cond.and c).before args s = true) : ∀ d ∈ ws, d.before args s = true := by
  induction ws with
  | nil => intro d hd; cases hd
  | cons a l ih =>
    intro d hd
    have h' : (Jvm.Cond.and a (l.foldr Jvm.Cond.and c)).before args s = true := h
    rw [Cond.before_and, Bool.and_eq_true] at h'
    rcases List.mem_cons.mp hd with rfl | hd
    · exact h'.1
    · exact ih h'.2 d hd
theorem rest_spec {tb : Tables} {e : Env} {args : Array Value} {s : State} (h : rest_1 tb e args s) : ∀ d ∈ jdkStatics_1, d.before args s = true := rest_all (c := restOwn_1) (by rw [← rest_1_c_eq]; exact h)
theorem main_1_1 : Claimed_1_1 := own_comes (ck := 16) (sk := 128) (fun _ _ _ _ _ _ h hF => ⟨h.1, hF⟩) (by decide) (by decide) fun l _ _ s args hF hr hg hw => own_law l s args hF (rest_spec hr) hg hw
theorem main_1_2 : Claimed_1_2 := own_comes (ck := 16) (sk := 128) (fun _ _ _ _ _ _ h hF => ⟨h.2, hF⟩) (by decide) (by decide) fun l _ _ s args hF hr hg hw => own_law l s args hF (rest_spec hr) hg hw
end Jvm.Pilot.@@N@@
namespace Jvm.Pilot.@@N@@
open Jvm Jvm.ClassFile Sem Op Lib Jvm.Free Jvm.Stand Jvm.Pilot.@@N@@.Jvm.D
/-! MADE BY PROGRAM (witnessworld.py) out of the Statement's table words and the real class files: 16 classes; the members and pool entries that the words name. The judged class is class 1, her method 1. -/
namespace start1
open Jvm.ClassFile
def u (s : String) : CpInfo := .utf8 (stringToUtf16 s)
/-- a pool by its gaps: so many unusable entries, then the entry; so many at the end -/
def gap : Nat → List CpInfo → List CpInfo
  | 0, r => r
  | n + 1, r => .unusable :: gap n r
def poolList (es : List (Nat × CpInfo)) (last : Nat) : List CpInfo := es.foldr (fun e r => gap e.1 (e.2 :: r)) (gap last [])
def pool (es : List (Nat × CpInfo)) (last : Nat) : Array CpInfo := ⟨poolList es last⟩
def fileOf (pool : Array CpInfo) (this : Nat) (attrs : Array Attribute := #[]) (ms : Array MethodInfo := #[]) (fl : Nat := 33) (sup : Nat := 0) (ifs : Array Nat := #[]) (fds : Array FieldInfo := #[]) : ClassFile where
  minorVersion := 0
  majorVersion := 65
  constantPool := pool
  accessFlags := fl
  thisClass := this
  superClass := sup
  interfaces := ifs
  fields := fds
  methods := ms
  attributes := attrs
def plain (name : String) (sup : Option ClassId) : Class where
  name := name
  kind := .ordinary
  loader := none
  accessFlags := 33
  super := sup
  interfaces := #[]
  cf := none
  fields := #[]
  methods := #[]
  instanceTypes := #[]
  staticTypes := #[]
  resolved := #[]
  callSites := []
  init := .initialized
  statics := none
  mirror := none

def pool0 : Array CpInfo := pool [(5, u "<init>"), (0, u "()V"), (1, .class_ 10), (1, u "java/lang/Object")] 113

def k0c0 : Code := { maxStack := 0, maxLocals := 1, code := object_method_1_code, exceptionTable := #[], attributes := #[] }
def k0m0 : Method := { name := "<init>", desc := "()V", sig := { parameters := [], returnType := none }, accessFlags := 1, code := some k0c0 }
/-- java/lang/Object -/
def k0 : Class := { plain "java/lang/Object" none with
  accessFlags := 33
  interfaces := #[]
  cf := some (fileOf pool0 8 #[] #[{ accessFlags := 1, nameIndex := 5, descriptorIndex := 6, attributes := #[] }] 33 0 #[] #[])
  fields := #[]
  methods := #[k0m0]
  instanceTypes := #[]
  staticTypes := #[]
  resolved := Array.replicate 124 none
  statics := none }

def pool1 : Array CpInfo := pool [(2, .class_ 4), (1, u "java/lang/Object"), (0, u "<init>"), (0, u "()V"), (0, .class_ 8), (0, u "com/example/admit/admit/Claim"), (0, .methodref 7 10), (0, .nameAndType 5 11), (0, u "(II)V"), (0, .methodref 13 14), (0, .class_ 15), (0, .nameAndType 16 17), (0, u "java/lang/Integer"), (0, u "valueOf"), (0, u "(I)Ljava/lang/Integer;"), (0, .methodref 7 19), (0, .nameAndType 20 21), (0, u "equals"), (0, u "(Ljava/lang/Object;)Z"), (0, .methodref 7 23), (0, .nameAndType 24 25), (0, u "hashCode"), (0, u "()I"), (0, .class_ 27), (0, u "com/example/admit/admit/ClaimEqualsPinLaw"), (2, u "law"), (0, u "(IIIII)Z")] 3

def k1m0 : Method := { name := "<init>", desc := "()V", sig := { parameters := [], returnType := none }, accessFlags := 1, code := none }
def k1c1 : Code := { maxStack := 4, maxLocals := 13, code := code, exceptionTable := #[], attributes := #[] }
def k1m1 : Method := { name := "law", desc := "(IIIII)Z", sig := { parameters := [.int, .int, .int, .int, .int], returnType := some .boolean }, accessFlags := 9, code := some k1c1 }
/-- com/example/admit/admit/ClaimEqualsPinLaw -/
def k1 : Class := { plain "com/example/admit/admit/ClaimEqualsPinLaw" (some 0) with
  accessFlags := 49
  interfaces := #[]
  cf := some (fileOf pool1 26 #[] #[{ accessFlags := 1, nameIndex := 5, descriptorIndex := 6, attributes := #[] }, { accessFlags := 9, nameIndex := 30, descriptorIndex := 31, attributes := #[] }] 49 2 #[] #[])
  fields := #[]
  methods := #[k1m0, k1m1]
  instanceTypes := #[]
  staticTypes := #[]
  resolved := Array.replicate 35 none
  statics := none }

def pool2 : Array CpInfo := pool [(1, .methodref 2 3), (0, .class_ 4), (0, .nameAndType 5 6), (0, u "java/lang/Object"), (0, u "<init>"), (0, u "()V"), (0, .fieldref 8 9), (0, .class_ 10), (0, .nameAndType 11 12), (0, u "com/example/admit/admit/Claim"), (0, u "member"), (0, u "I"), (0, .fieldref 8 14), (0, .nameAndType 15 12), (0, u "number"), (0, u "(II)V"), (2, u "()I"), (3, u "equals"), (0, u "(Ljava/lang/Object;)Z"), (0, u "hashCode")] 2

def k2c0 : Code := { maxStack := 2, maxLocals := 3, code := prog_4_method_1_code, exceptionTable := #[], attributes := #[] }
def k2m0 : Method := { name := "<init>", desc := "(II)V", sig := { parameters := [.int, .int], returnType := none }, accessFlags := 1, code := some k2c0 }
def k2c1 : Code := { maxStack := 2, maxLocals := 3, code := prog_4_method_5_code, exceptionTable := #[], attributes := #[] }
def k2m1 : Method := { name := "equals", desc := "(Ljava/lang/Object;)Z", sig := { parameters := [(.object "java/lang/Object")], returnType := some .boolean }, accessFlags := 1, code := some k2c1 }
def k2c2 : Code := { maxStack := 2, maxLocals := 1, code := prog_4_method_6_code, exceptionTable := #[], attributes := #[] }
def k2m2 : Method := { name := "hashCode", desc := "()I", sig := { parameters := [], returnType := some .int }, accessFlags := 1, code := some k2c2 }
/-- com/example/admit/admit/Claim -/
def k2 : Class := { plain "com/example/admit/admit/Claim" (some 0) with
  accessFlags := 33
  interfaces := #[]
  cf := some (fileOf pool2 8 #[] #[{ accessFlags := 1, nameIndex := 5, descriptorIndex := 16, attributes := #[] }, { accessFlags := 1, nameIndex := 23, descriptorIndex := 24, attributes := #[] }, { accessFlags := 1, nameIndex := 25, descriptorIndex := 19, attributes := #[] }] 33 2 #[] #[{ accessFlags := 18, nameIndex := 11, descriptorIndex := 12, attributes := #[] }, { accessFlags := 18, nameIndex := 15, descriptorIndex := 12, attributes := #[] }])
  fields := #[{ name := "member", type := .int, accessFlags := 18, slot := 0, constantValue := 0 }, { name := "number", type := .int, accessFlags := 18, slot := 1, constantValue := 0 }]
  methods := #[k2m0, k2m1, k2m2]
  instanceTypes := #[.int, .int]
  staticTypes := #[]
  resolved := Array.replicate 28 none
  statics := none }

def pool3 : Array CpInfo := pool [(1, .class_ 2), (0, u "java/io/Serializable"), (0, .class_ 4), (0, u "java/lang/Object")] 2

/-- java/io/Serializable -/
def k3 : Class := { plain "java/io/Serializable" (some 0) with
  accessFlags := 1537
  interfaces := #[]
  cf := some (fileOf pool3 1 #[] #[] 1537 3 #[] #[])
  fields := #[]
  methods := #[]
  instanceTypes := #[]
  staticTypes := #[]
  resolved := Array.replicate 7 none
  statics := none }

def pool4 : Array CpInfo := pool [(1, .methodref 2 3), (0, .class_ 4), (0, .nameAndType 5 6), (0, u "java/lang/Object"), (0, u "<init>"), (0, u "()V"), (1, .class_ 10), (1, u "java/lang/Number"), (2, .class_ 14), (0, u "java/io/Serializable"), (0, u "serialVersionUID"), (0, u "J")] 20

def k4c0 : Code := { maxStack := 1, maxLocals := 1, code := jdk_18_method_1_code, exceptionTable := #[], attributes := #[] }
def k4m0 : Method := { name := "<init>", desc := "()V", sig := { parameters := [], returnType := none }, accessFlags := 1, code := some k4c0 }
/-- java/lang/Number -/
def k4 : Class := { plain "java/lang/Number" (some 0) with
  accessFlags := 1057
  interfaces := #[3]
  cf := some (fileOf pool4 8 #[] #[{ accessFlags := 1, nameIndex := 5, descriptorIndex := 6, attributes := #[] }] 1057 2 #[13] #[{ accessFlags := 26, nameIndex := 15, descriptorIndex := 16, attributes := #[] }])
  fields := #[{ name := "serialVersionUID", type := .long, accessFlags := 26, slot := 0, constantValue := 0 }]
  methods := #[k4m0]
  instanceTypes := #[]
  staticTypes := #[.long]
  resolved := Array.replicate 37 none
  statics := none }

def pool5 : Array CpInfo := pool [(1, .class_ 2), (0, u "java/lang/Comparable"), (0, .class_ 4), (0, u "java/lang/Object")] 7

/-- java/lang/Comparable -/
def k5 : Class := { plain "java/lang/Comparable" (some 0) with
  accessFlags := 1537
  interfaces := #[]
  cf := some (fileOf pool5 1 #[] #[] 1537 3 #[] #[])
  fields := #[]
  methods := #[]
  instanceTypes := #[]
  staticTypes := #[]
  resolved := Array.replicate 12 none
  statics := none }

def pool6 : Array CpInfo := pool [(1, .class_ 2), (0, u "java/lang/constant/Constable"), (0, .class_ 4), (0, u "java/lang/Object")] 6

/-- java/lang/constant/Constable -/
def k6 : Class := { plain "java/lang/constant/Constable" (some 0) with
  accessFlags := 1537
  interfaces := #[]
  cf := some (fileOf pool6 1 #[] #[] 1537 3 #[] #[])
  fields := #[]
  methods := #[]
  instanceTypes := #[]
  staticTypes := #[]
  resolved := Array.replicate 11 none
  statics := none }

def pool7 : Array CpInfo := pool [(1, .class_ 2), (0, u "java/lang/constant/ConstantDesc"), (0, .class_ 4), (0, u "java/lang/Object")] 32

/-- java/lang/constant/ConstantDesc -/
def k7 : Class := { plain "java/lang/constant/ConstantDesc" (some 0) with
  accessFlags := 1537
  interfaces := #[]
  cf := some (fileOf pool7 1 #[] #[] 1537 3 #[] #[])
  fields := #[]
  methods := #[]
  instanceTypes := #[]
  staticTypes := #[]
  resolved := Array.replicate 37 none
  statics := none }

def pool8 : Array CpInfo := pool [(1, .class_ 2), (0, u "java/lang/Integer"), (16, u "digits"), (0, u "[C"), (46, u "<init>"), (17, u "DigitOnes"), (0, u "[B"), (2, u "DigitTens"), (10, .nameAndType 67 101), (0, u "()V"), (85, u "valueOf"), (0, u "(I)Ljava/lang/Integer;"), (0, .class_ 190), (0, u "java/lang/Integer$IntegerCache"), (0, .fieldref 189 192), (0, .nameAndType 193 194), (0, u "high"), (0, u "I"), (0, .fieldref 189 196), (0, .nameAndType 197 198), (0, u "cache"), (0, u "[Ljava/lang/Integer;"), (0, .methodref 1 200), (0, .nameAndType 67 201), (0, u "(I)V"), (0, .methodref 203 100), (0, .class_ 204), (0, u "java/lang/Number"), (0, .fieldref 1 206), (0, .nameAndType 207 194), (0, u "value"), (94, u "TYPE"), (0, u "Ljava/lang/Class;"), (0, .class_ 305), (0, u "java/lang/Comparable"), (0, .class_ 307), (0, u "java/lang/constant/Constable"), (0, .class_ 309), (0, u "java/lang/constant/ConstantDesc"), (0, u "MIN_VALUE"), (1, u "MAX_VALUE"), (3, u "SIZE"), (1, u "BYTES"), (1, u "serialVersionUID"), (0, u "J")] 131

def k8c0 : Code := { maxStack := 3, maxLocals := 1, code := jdk_33_method_22_code, exceptionTable := #[], attributes := #[] }
def k8m0 : Method := { name := "valueOf", desc := "(I)Ljava/lang/Integer;", sig := { parameters := [.int], returnType := some (.object "java/lang/Integer") }, accessFlags := 9, code := some k8c0 }
def k8c1 : Code := { maxStack := 2, maxLocals := 2, code := jdk_33_method_23_code, exceptionTable := #[], attributes := #[] }
def k8m1 : Method := { name := "<init>", desc := "(I)V", sig := { parameters := [.int], returnType := none }, accessFlags := 1, code := some k8c1 }
/-- java/lang/Integer -/
def k8 : Class := { plain "java/lang/Integer" (some 4) with
  accessFlags := 49
  interfaces := #[5, 6, 7]
  cf := some (fileOf pool8 1 #[.nestMembers #[189]] #[{ accessFlags := 9, nameIndex := 187, descriptorIndex := 188, attributes := #[] }, { accessFlags := 1, nameIndex := 67, descriptorIndex := 201, attributes := #[] }] 49 203 #[304, 306, 308] #[{ accessFlags := 25, nameIndex := 310, descriptorIndex := 194, attributes := #[] }, { accessFlags := 25, nameIndex := 312, descriptorIndex := 194, attributes := #[] }, { accessFlags := 25, nameIndex := 302, descriptorIndex := 303, attributes := #[] }, { accessFlags := 24, nameIndex := 19, descriptorIndex := 20, attributes := #[] }, { accessFlags := 24, nameIndex := 89, descriptorIndex := 86, attributes := #[] }, { accessFlags := 24, nameIndex := 85, descriptorIndex := 86, attributes := #[] }, { accessFlags := 18, nameIndex := 207, descriptorIndex := 194, attributes := #[] }, { accessFlags := 25, nameIndex := 316, descriptorIndex := 194, attributes := #[] }, { accessFlags := 25, nameIndex := 318, descriptorIndex := 194, attributes := #[] }, { accessFlags := 26, nameIndex := 320, descriptorIndex := 321, attributes := #[] }])
  fields := #[{ name := "MIN_VALUE", type := .int, accessFlags := 25, slot := 0, constantValue := 0 }, { name := "MAX_VALUE", type := .int, accessFlags := 25, slot := 1, constantValue := 0 }, { name := "TYPE", type := (.object "java/lang/Class"), accessFlags := 25, slot := 2, constantValue := 0 }, { name := "digits", type := (.array .char), accessFlags := 24, slot := 3, constantValue := 0 }, { name := "DigitTens", type := (.array .byte), accessFlags := 24, slot := 4, constantValue := 0 }, { name := "DigitOnes", type := (.array .byte), accessFlags := 24, slot := 5, constantValue := 0 }, { name := "value", type := .int, accessFlags := 18, slot := 0, constantValue := 0 }, { name := "SIZE", type := .int, accessFlags := 25, slot := 6, constantValue := 0 }, { name := "BYTES", type := .int, accessFlags := 25, slot := 7, constantValue := 0 }, { name := "serialVersionUID", type := .long, accessFlags := 26, slot := 8, constantValue := 0 }]
  methods := #[k8m0, k8m1]
  instanceTypes := #[.int]
  staticTypes := #[.int, .int, (.object "java/lang/Class"), (.array .char), (.array .byte), (.array .byte), .int, .int, .long]
  resolved := Array.replicate 453 none
  statics := none }

def pool9 : Array CpInfo := pool [(2, .class_ 4), (1, u "java/lang/Object"), (0, u "<init>"), (0, u "()V"), (0, .class_ 8), (0, u "java/lang/Integer"), (7, .class_ 18), (1, u "java/lang/Integer$IntegerCache"), (0, u "$assertionsDisabled"), (0, u "Z"), (26, u "high"), (0, u "I"), (8, u "archivedCache"), (0, u "[Ljava/lang/Integer;"), (12, u "cache"), (0, u "low")] 27

def k9m0 : Method := { name := "<init>", desc := "()V", sig := { parameters := [], returnType := none }, accessFlags := 2, code := none }
/-- java/lang/Integer$IntegerCache -/
def k9 : Class := { plain "java/lang/Integer$IntegerCache" (some 0) with
  accessFlags := 48
  interfaces := #[]
  cf := some (fileOf pool9 16 #[.nestHost 7] #[{ accessFlags := 2, nameIndex := 5, descriptorIndex := 6, attributes := #[] }] 48 2 #[] #[{ accessFlags := 24, nameIndex := 72, descriptorIndex := 48, attributes := #[] }, { accessFlags := 24, nameIndex := 47, descriptorIndex := 48, attributes := #[] }, { accessFlags := 24, nameIndex := 71, descriptorIndex := 58, attributes := #[] }, { accessFlags := 8, nameIndex := 57, descriptorIndex := 58, attributes := #[] }, { accessFlags := 4120, nameIndex := 19, descriptorIndex := 20, attributes := #[] }])
  fields := #[{ name := "low", type := .int, accessFlags := 24, slot := 0, constantValue := 0 }, { name := "high", type := .int, accessFlags := 24, slot := 1, constantValue := 0 }, { name := "cache", type := (.array (.object "java/lang/Integer")), accessFlags := 24, slot := 2, constantValue := 0 }, { name := "archivedCache", type := (.array (.object "java/lang/Integer")), accessFlags := 8, slot := 3, constantValue := 0 }, { name := "$assertionsDisabled", type := .boolean, accessFlags := 4120, slot := 4, constantValue := 0 }]
  methods := #[k9m0]
  instanceTypes := #[]
  staticTypes := #[.int, .int, (.array (.object "java/lang/Integer")), (.array (.object "java/lang/Integer")), .boolean]
  resolved := Array.replicate 100 none
  statics := some 0 }

def pool10 : Array CpInfo := pool [(1, u "java/lang/Cloneable"), (0, .class_ 1), (0, u "java/lang/Object"), (0, .class_ 3)] 3

/-- java/lang/Cloneable -/
def k10 : Class := { plain "java/lang/Cloneable" (some 0) with
  accessFlags := 1537
  interfaces := #[]
  cf := some (fileOf pool10 2 #[] #[] 1537 4 #[] #[])
  fields := #[]
  methods := #[]
  instanceTypes := #[]
  staticTypes := #[]
  resolved := Array.replicate 8 none
  statics := none }

/-- the primitive byte -/
def k11 : Class := { plain "byte" none with kind := .primitive 'B', accessFlags := 0x411 }
/-- [B -/
def k12 : Class := { plain "[B" (some 0) with kind := .array 11 .byte, interfaces := #[10, 3], accessFlags := 1041 }

/-- the primitive int -/
def k13 : Class := { plain "int" none with kind := .primitive 'I', accessFlags := 0x411 }
/-- [I -/
def k14 : Class := { plain "[I" (some 0) with kind := .array 13 .int, interfaces := #[10, 3], accessFlags := 1041 }

/-- [Ljava/lang/Integer; -/
def k15 : Class := { plain "[Ljava/lang/Integer;" (some 0) with kind := .array 8 (.object "java/lang/Integer"), interfaces := #[10, 3], accessFlags := 1041 }

def heap : Heap := #[{ cls := 9, slots := #[.int 0, .int 127, .ref 1, .null, .int 0], vm := .statics 9 },
  { cls := 15, slots := #[.ref 2, .ref 3, .ref 4, .ref 5, .ref 6, .ref 7, .ref 8, .ref 9, .ref 10, .ref 11, .ref 12, .ref 13, .ref 14, .ref 15, .ref 16, .ref 17, .ref 18, .ref 19, .ref 20, .ref 21, .ref 22, .ref 23, .ref 24, .ref 25, .ref 26, .ref 27, .ref 28, .ref 29, .ref 30, .ref 31, .ref 32, .ref 33, .ref 34, .ref 35, .ref 36, .ref 37, .ref 38, .ref 39, .ref 40, .ref 41, .ref 42, .ref 43, .ref 44, .ref 45, .ref 46, .ref 47, .ref 48, .ref 49, .ref 50, .ref 51, .ref 52, .ref 53, .ref 54, .ref 55, .ref 56, .ref 57, .ref 58, .ref 59, .ref 60, .ref 61, .ref 62, .ref 63, .ref 64, .ref 65, .ref 66, .ref 67, .ref 68, .ref 69, .ref 70, .ref 71, .ref 72, .ref 73, .ref 74, .ref 75, .ref 76, .ref 77, .ref 78, .ref 79, .ref 80, .ref 81, .ref 82, .ref 83, .ref 84, .ref 85, .ref 86, .ref 87, .ref 88, .ref 89, .ref 90, .ref 91, .ref 92, .ref 93, .ref 94, .ref 95, .ref 96, .ref 97, .ref 98, .ref 99, .ref 100, .ref 101, .ref 102, .ref 103, .ref 104, .ref 105, .ref 106, .ref 107, .ref 108, .ref 109, .ref 110, .ref 111, .ref 112, .ref 113, .ref 114, .ref 115, .ref 116, .ref 117, .ref 118, .ref 119, .ref 120, .ref 121, .ref 122, .ref 123, .ref 124, .ref 125, .ref 126, .ref 127, .ref 128, .ref 129, .ref 130, .ref 131, .ref 132, .ref 133, .ref 134, .ref 135, .ref 136, .ref 137, .ref 138, .ref 139, .ref 140, .ref 141, .ref 142, .ref 143, .ref 144, .ref 145, .ref 146, .ref 147, .ref 148, .ref 149, .ref 150, .ref 151, .ref 152, .ref 153, .ref 154, .ref 155, .ref 156, .ref 157, .ref 158, .ref 159, .ref 160, .ref 161, .ref 162, .ref 163, .ref 164, .ref 165, .ref 166, .ref 167, .ref 168, .ref 169, .ref 170, .ref 171, .ref 172, .ref 173, .ref 174, .ref 175, .ref 176, .ref 177, .ref 178, .ref 179, .ref 180, .ref 181, .ref 182, .ref 183, .ref 184, .ref 185, .ref 186, .ref 187, .ref 188, .ref 189, .ref 190, .ref 191, .ref 192, .ref 193, .ref 194, .ref 195, .ref 196, .ref 197, .ref 198, .ref 199, .ref 200, .ref 201, .ref 202, .ref 203, .ref 204, .ref 205, .ref 206, .ref 207, .ref 208, .ref 209, .ref 210, .ref 211, .ref 212, .ref 213, .ref 214, .ref 215, .ref 216, .ref 217, .ref 218, .ref 219, .ref 220, .ref 221, .ref 222, .ref 223, .ref 224, .ref 225, .ref 226, .ref 227, .ref 228, .ref 229, .ref 230, .ref 231, .ref 232, .ref 233, .ref 234, .ref 235, .ref 236, .ref 237, .ref 238, .ref 239, .ref 240, .ref 241, .ref 242, .ref 243, .ref 244, .ref 245, .ref 246, .ref 247, .ref 248, .ref 249, .ref 250, .ref 251, .ref 252, .ref 253, .ref 254, .ref 255, .ref 256, .ref 257], vm := .none },
  { cls := 8, slots := #[.int (-128)], vm := .none },
  { cls := 8, slots := #[.int (-127)], vm := .none },
  { cls := 8, slots := #[.int (-126)], vm := .none },
  { cls := 8, slots := #[.int (-125)], vm := .none },
  { cls := 8, slots := #[.int (-124)], vm := .none },
  { cls := 8, slots := #[.int (-123)], vm := .none },
  { cls := 8, slots := #[.int (-122)], vm := .none },
  { cls := 8, slots := #[.int (-121)], vm := .none },
  { cls := 8, slots := #[.int (-120)], vm := .none },
  { cls := 8, slots := #[.int (-119)], vm := .none },
  { cls := 8, slots := #[.int (-118)], vm := .none },
  { cls := 8, slots := #[.int (-117)], vm := .none },
  { cls := 8, slots := #[.int (-116)], vm := .none },
  { cls := 8, slots := #[.int (-115)], vm := .none },
  { cls := 8, slots := #[.int (-114)], vm := .none },
  { cls := 8, slots := #[.int (-113)], vm := .none },
  { cls := 8, slots := #[.int (-112)], vm := .none },
  { cls := 8, slots := #[.int (-111)], vm := .none },
  { cls := 8, slots := #[.int (-110)], vm := .none },
  { cls := 8, slots := #[.int (-109)], vm := .none },
  { cls := 8, slots := #[.int (-108)], vm := .none },
  { cls := 8, slots := #[.int (-107)], vm := .none },
  { cls := 8, slots := #[.int (-106)], vm := .none },
  { cls := 8, slots := #[.int (-105)], vm := .none },
  { cls := 8, slots := #[.int (-104)], vm := .none },
  { cls := 8, slots := #[.int (-103)], vm := .none },
  { cls := 8, slots := #[.int (-102)], vm := .none },
  { cls := 8, slots := #[.int (-101)], vm := .none },
  { cls := 8, slots := #[.int (-100)], vm := .none },
  { cls := 8, slots := #[.int (-99)], vm := .none },
  { cls := 8, slots := #[.int (-98)], vm := .none },
  { cls := 8, slots := #[.int (-97)], vm := .none },
  { cls := 8, slots := #[.int (-96)], vm := .none },
  { cls := 8, slots := #[.int (-95)], vm := .none },
  { cls := 8, slots := #[.int (-94)], vm := .none },
  { cls := 8, slots := #[.int (-93)], vm := .none },
  { cls := 8, slots := #[.int (-92)], vm := .none },
  { cls := 8, slots := #[.int (-91)], vm := .none },
  { cls := 8, slots := #[.int (-90)], vm := .none },
  { cls := 8, slots := #[.int (-89)], vm := .none },
  { cls := 8, slots := #[.int (-88)], vm := .none },
  { cls := 8, slots := #[.int (-87)], vm := .none },
  { cls := 8, slots := #[.int (-86)], vm := .none },
  { cls := 8, slots := #[.int (-85)], vm := .none },
  { cls := 8, slots := #[.int (-84)], vm := .none },
  { cls := 8, slots := #[.int (-83)], vm := .none },
  { cls := 8, slots := #[.int (-82)], vm := .none },
  { cls := 8, slots := #[.int (-81)], vm := .none },
  { cls := 8, slots := #[.int (-80)], vm := .none },
  { cls := 8, slots := #[.int (-79)], vm := .none },
  { cls := 8, slots := #[.int (-78)], vm := .none },
  { cls := 8, slots := #[.int (-77)], vm := .none },
  { cls := 8, slots := #[.int (-76)], vm := .none },
  { cls := 8, slots := #[.int (-75)], vm := .none },
  { cls := 8, slots := #[.int (-74)], vm := .none },
  { cls := 8, slots := #[.int (-73)], vm := .none },
  { cls := 8, slots := #[.int (-72)], vm := .none },
  { cls := 8, slots := #[.int (-71)], vm := .none },
  { cls := 8, slots := #[.int (-70)], vm := .none },
  { cls := 8, slots := #[.int (-69)], vm := .none },
  { cls := 8, slots := #[.int (-68)], vm := .none },
  { cls := 8, slots := #[.int (-67)], vm := .none },
  { cls := 8, slots := #[.int (-66)], vm := .none },
  { cls := 8, slots := #[.int (-65)], vm := .none },
  { cls := 8, slots := #[.int (-64)], vm := .none },
  { cls := 8, slots := #[.int (-63)], vm := .none },
  { cls := 8, slots := #[.int (-62)], vm := .none },
  { cls := 8, slots := #[.int (-61)], vm := .none },
  { cls := 8, slots := #[.int (-60)], vm := .none },
  { cls := 8, slots := #[.int (-59)], vm := .none },
  { cls := 8, slots := #[.int (-58)], vm := .none },
  { cls := 8, slots := #[.int (-57)], vm := .none },
  { cls := 8, slots := #[.int (-56)], vm := .none },
  { cls := 8, slots := #[.int (-55)], vm := .none },
  { cls := 8, slots := #[.int (-54)], vm := .none },
  { cls := 8, slots := #[.int (-53)], vm := .none },
  { cls := 8, slots := #[.int (-52)], vm := .none },
  { cls := 8, slots := #[.int (-51)], vm := .none },
  { cls := 8, slots := #[.int (-50)], vm := .none },
  { cls := 8, slots := #[.int (-49)], vm := .none },
  { cls := 8, slots := #[.int (-48)], vm := .none },
  { cls := 8, slots := #[.int (-47)], vm := .none },
  { cls := 8, slots := #[.int (-46)], vm := .none },
  { cls := 8, slots := #[.int (-45)], vm := .none },
  { cls := 8, slots := #[.int (-44)], vm := .none },
  { cls := 8, slots := #[.int (-43)], vm := .none },
  { cls := 8, slots := #[.int (-42)], vm := .none },
  { cls := 8, slots := #[.int (-41)], vm := .none },
  { cls := 8, slots := #[.int (-40)], vm := .none },
  { cls := 8, slots := #[.int (-39)], vm := .none },
  { cls := 8, slots := #[.int (-38)], vm := .none },
  { cls := 8, slots := #[.int (-37)], vm := .none },
  { cls := 8, slots := #[.int (-36)], vm := .none },
  { cls := 8, slots := #[.int (-35)], vm := .none },
  { cls := 8, slots := #[.int (-34)], vm := .none },
  { cls := 8, slots := #[.int (-33)], vm := .none },
  { cls := 8, slots := #[.int (-32)], vm := .none },
  { cls := 8, slots := #[.int (-31)], vm := .none },
  { cls := 8, slots := #[.int (-30)], vm := .none },
  { cls := 8, slots := #[.int (-29)], vm := .none },
  { cls := 8, slots := #[.int (-28)], vm := .none },
  { cls := 8, slots := #[.int (-27)], vm := .none },
  { cls := 8, slots := #[.int (-26)], vm := .none },
  { cls := 8, slots := #[.int (-25)], vm := .none },
  { cls := 8, slots := #[.int (-24)], vm := .none },
  { cls := 8, slots := #[.int (-23)], vm := .none },
  { cls := 8, slots := #[.int (-22)], vm := .none },
  { cls := 8, slots := #[.int (-21)], vm := .none },
  { cls := 8, slots := #[.int (-20)], vm := .none },
  { cls := 8, slots := #[.int (-19)], vm := .none },
  { cls := 8, slots := #[.int (-18)], vm := .none },
  { cls := 8, slots := #[.int (-17)], vm := .none },
  { cls := 8, slots := #[.int (-16)], vm := .none },
  { cls := 8, slots := #[.int (-15)], vm := .none },
  { cls := 8, slots := #[.int (-14)], vm := .none },
  { cls := 8, slots := #[.int (-13)], vm := .none },
  { cls := 8, slots := #[.int (-12)], vm := .none },
  { cls := 8, slots := #[.int (-11)], vm := .none },
  { cls := 8, slots := #[.int (-10)], vm := .none },
  { cls := 8, slots := #[.int (-9)], vm := .none },
  { cls := 8, slots := #[.int (-8)], vm := .none },
  { cls := 8, slots := #[.int (-7)], vm := .none },
  { cls := 8, slots := #[.int (-6)], vm := .none },
  { cls := 8, slots := #[.int (-5)], vm := .none },
  { cls := 8, slots := #[.int (-4)], vm := .none },
  { cls := 8, slots := #[.int (-3)], vm := .none },
  { cls := 8, slots := #[.int (-2)], vm := .none },
  { cls := 8, slots := #[.int (-1)], vm := .none },
  { cls := 8, slots := #[.int (0)], vm := .none },
  { cls := 8, slots := #[.int (1)], vm := .none },
  { cls := 8, slots := #[.int (2)], vm := .none },
  { cls := 8, slots := #[.int (3)], vm := .none },
  { cls := 8, slots := #[.int (4)], vm := .none },
  { cls := 8, slots := #[.int (5)], vm := .none },
  { cls := 8, slots := #[.int (6)], vm := .none },
  { cls := 8, slots := #[.int (7)], vm := .none },
  { cls := 8, slots := #[.int (8)], vm := .none },
  { cls := 8, slots := #[.int (9)], vm := .none },
  { cls := 8, slots := #[.int (10)], vm := .none },
  { cls := 8, slots := #[.int (11)], vm := .none },
  { cls := 8, slots := #[.int (12)], vm := .none },
  { cls := 8, slots := #[.int (13)], vm := .none },
  { cls := 8, slots := #[.int (14)], vm := .none },
  { cls := 8, slots := #[.int (15)], vm := .none },
  { cls := 8, slots := #[.int (16)], vm := .none },
  { cls := 8, slots := #[.int (17)], vm := .none },
  { cls := 8, slots := #[.int (18)], vm := .none },
  { cls := 8, slots := #[.int (19)], vm := .none },
  { cls := 8, slots := #[.int (20)], vm := .none },
  { cls := 8, slots := #[.int (21)], vm := .none },
  { cls := 8, slots := #[.int (22)], vm := .none },
  { cls := 8, slots := #[.int (23)], vm := .none },
  { cls := 8, slots := #[.int (24)], vm := .none },
  { cls := 8, slots := #[.int (25)], vm := .none },
  { cls := 8, slots := #[.int (26)], vm := .none },
  { cls := 8, slots := #[.int (27)], vm := .none },
  { cls := 8, slots := #[.int (28)], vm := .none },
  { cls := 8, slots := #[.int (29)], vm := .none },
  { cls := 8, slots := #[.int (30)], vm := .none },
  { cls := 8, slots := #[.int (31)], vm := .none },
  { cls := 8, slots := #[.int (32)], vm := .none },
  { cls := 8, slots := #[.int (33)], vm := .none },
  { cls := 8, slots := #[.int (34)], vm := .none },
  { cls := 8, slots := #[.int (35)], vm := .none },
  { cls := 8, slots := #[.int (36)], vm := .none },
  { cls := 8, slots := #[.int (37)], vm := .none },
  { cls := 8, slots := #[.int (38)], vm := .none },
  { cls := 8, slots := #[.int (39)], vm := .none },
  { cls := 8, slots := #[.int (40)], vm := .none },
  { cls := 8, slots := #[.int (41)], vm := .none },
  { cls := 8, slots := #[.int (42)], vm := .none },
  { cls := 8, slots := #[.int (43)], vm := .none },
  { cls := 8, slots := #[.int (44)], vm := .none },
  { cls := 8, slots := #[.int (45)], vm := .none },
  { cls := 8, slots := #[.int (46)], vm := .none },
  { cls := 8, slots := #[.int (47)], vm := .none },
  { cls := 8, slots := #[.int (48)], vm := .none },
  { cls := 8, slots := #[.int (49)], vm := .none },
  { cls := 8, slots := #[.int (50)], vm := .none },
  { cls := 8, slots := #[.int (51)], vm := .none },
  { cls := 8, slots := #[.int (52)], vm := .none },
  { cls := 8, slots := #[.int (53)], vm := .none },
  { cls := 8, slots := #[.int (54)], vm := .none },
  { cls := 8, slots := #[.int (55)], vm := .none },
  { cls := 8, slots := #[.int (56)], vm := .none },
  { cls := 8, slots := #[.int (57)], vm := .none },
  { cls := 8, slots := #[.int (58)], vm := .none },
  { cls := 8, slots := #[.int (59)], vm := .none },
  { cls := 8, slots := #[.int (60)], vm := .none },
  { cls := 8, slots := #[.int (61)], vm := .none },
  { cls := 8, slots := #[.int (62)], vm := .none },
  { cls := 8, slots := #[.int (63)], vm := .none },
  { cls := 8, slots := #[.int (64)], vm := .none },
  { cls := 8, slots := #[.int (65)], vm := .none },
  { cls := 8, slots := #[.int (66)], vm := .none },
  { cls := 8, slots := #[.int (67)], vm := .none },
  { cls := 8, slots := #[.int (68)], vm := .none },
  { cls := 8, slots := #[.int (69)], vm := .none },
  { cls := 8, slots := #[.int (70)], vm := .none },
  { cls := 8, slots := #[.int (71)], vm := .none },
  { cls := 8, slots := #[.int (72)], vm := .none },
  { cls := 8, slots := #[.int (73)], vm := .none },
  { cls := 8, slots := #[.int (74)], vm := .none },
  { cls := 8, slots := #[.int (75)], vm := .none },
  { cls := 8, slots := #[.int (76)], vm := .none },
  { cls := 8, slots := #[.int (77)], vm := .none },
  { cls := 8, slots := #[.int (78)], vm := .none },
  { cls := 8, slots := #[.int (79)], vm := .none },
  { cls := 8, slots := #[.int (80)], vm := .none },
  { cls := 8, slots := #[.int (81)], vm := .none },
  { cls := 8, slots := #[.int (82)], vm := .none },
  { cls := 8, slots := #[.int (83)], vm := .none },
  { cls := 8, slots := #[.int (84)], vm := .none },
  { cls := 8, slots := #[.int (85)], vm := .none },
  { cls := 8, slots := #[.int (86)], vm := .none },
  { cls := 8, slots := #[.int (87)], vm := .none },
  { cls := 8, slots := #[.int (88)], vm := .none },
  { cls := 8, slots := #[.int (89)], vm := .none },
  { cls := 8, slots := #[.int (90)], vm := .none },
  { cls := 8, slots := #[.int (91)], vm := .none },
  { cls := 8, slots := #[.int (92)], vm := .none },
  { cls := 8, slots := #[.int (93)], vm := .none },
  { cls := 8, slots := #[.int (94)], vm := .none },
  { cls := 8, slots := #[.int (95)], vm := .none },
  { cls := 8, slots := #[.int (96)], vm := .none },
  { cls := 8, slots := #[.int (97)], vm := .none },
  { cls := 8, slots := #[.int (98)], vm := .none },
  { cls := 8, slots := #[.int (99)], vm := .none },
  { cls := 8, slots := #[.int (100)], vm := .none },
  { cls := 8, slots := #[.int (101)], vm := .none },
  { cls := 8, slots := #[.int (102)], vm := .none },
  { cls := 8, slots := #[.int (103)], vm := .none },
  { cls := 8, slots := #[.int (104)], vm := .none },
  { cls := 8, slots := #[.int (105)], vm := .none },
  { cls := 8, slots := #[.int (106)], vm := .none },
  { cls := 8, slots := #[.int (107)], vm := .none },
  { cls := 8, slots := #[.int (108)], vm := .none },
  { cls := 8, slots := #[.int (109)], vm := .none },
  { cls := 8, slots := #[.int (110)], vm := .none },
  { cls := 8, slots := #[.int (111)], vm := .none },
  { cls := 8, slots := #[.int (112)], vm := .none },
  { cls := 8, slots := #[.int (113)], vm := .none },
  { cls := 8, slots := #[.int (114)], vm := .none },
  { cls := 8, slots := #[.int (115)], vm := .none },
  { cls := 8, slots := #[.int (116)], vm := .none },
  { cls := 8, slots := #[.int (117)], vm := .none },
  { cls := 8, slots := #[.int (118)], vm := .none },
  { cls := 8, slots := #[.int (119)], vm := .none },
  { cls := 8, slots := #[.int (120)], vm := .none },
  { cls := 8, slots := #[.int (121)], vm := .none },
  { cls := 8, slots := #[.int (122)], vm := .none },
  { cls := 8, slots := #[.int (123)], vm := .none },
  { cls := 8, slots := #[.int (124)], vm := .none },
  { cls := 8, slots := #[.int (125)], vm := .none },
  { cls := 8, slots := #[.int (126)], vm := .none },
  { cls := 8, slots := #[.int (127)], vm := .none }]
def classes : Array Class := #[k0, k1, k2, k3, k4, k5, k6, k7, k8, k9, k10, k11, k12, k13, k14, k15]
def interned : List (Array UInt16 × Addr) := []
def slotsUsed : Nat := 517
def theMethod : MethodId := ⟨1, 1⟩
def args0 : Array Value := #[.int 0, .int 1, .int 2, .int 3, .int 4]
def aboutOver (below : List Frame) : State where
  vm := { classes := classes, interned := interned.toArray }
  heap := heap
  slotsUsed := slotsUsed
  threads := #[{ frames := .invoking theMethod args0 :: below }]
def below0 : List Frame := [.native { method := ⟨0, 0⟩, args := #[] }]
def about1 : State := aboutOver below0
def p0 : Program := .bare "" "" ""
def e0 : Env := launch0.env 0 0 0
theorem w_frames : about1.frames = Frame.invoking theMethod args0 :: below0 := rfl
set_option maxRecDepth 65536 in
theorem w_args : argsFit about1.vm theMethod args0 = true := by decide +kernel
set_option maxRecDepth 65536 in
theorem w_heap : heapFits about1 = true := by decide +kernel
set_option maxRecDepth 65536 in
theorem w_runnable : about1.curStatus? = some .runnable := by decide +kernel
set_option maxRecDepth 65536 in
theorem w_alone : about1.alone = true := by decide +kernel
set_option maxRecDepth 65536 in
theorem w_named : about1.methodNamed? x = some theMethod := by decide +kernel
set_option maxRecDepth 65536 in
theorem w_hears : about1.hears theMethod below0 = true := by decide +kernel
set_option maxRecDepth 65536 in
theorem w_ripe : about1.ripe theMethod args0 below0 = true := by decide +kernel
theorem w_running : about1.status = .running := rfl
set_option maxRecDepth 65536 in
theorem w_room : about1.hasRoom e0.platform room_1 = true :=
  launch0.hasRoom_least _ room_1 (by decide +kernel) (by decide +kernel) (by decide +kernel) (by decide +kernel) (by decide +kernel) (by decide +kernel)
theorem allAtoms_all (ts : List Jvm.Cond) (a : Array Jvm.Value) (st : Jvm.State) : (allAtoms ts).before a st = ts.all (fun c => c.before a st) := by
  induction ts with
  | nil => rfl
  | cons c t ih =>
    show (Jvm.Cond.and c (allAtoms t)).before a st = _
    rw [Jvm.Cond.before_and, ih, List.all_cons]
def words1 : List Jvm.Cond := Jvm.Cond.code x code maxLocals ret :: tables_1
/-- a 'code' word, met by the world's own term for the bytes: nothing is compared byte by byte -/
theorem code_word {y : MethodName} {bytes : ByteArray} {mx : Nat} {rt : Option FieldType} {a : Array Value} {s : State} {m : MethodId} {meth : Method} {c : Code} (h1 : s.methodNamed? y = some m) (h2 : s.vm.method? m = some meth) (h3 : meth.code = some c) (h4 : c.code = bytes)
    (h5 : (c.maxLocals == mx && c.exceptionTable.isEmpty && decide (c.maxStack ≤ mostOperands) && decide (meth.sig.returnType = rt) && !meth.locks && decide (parseMethodDescriptor y.desc = some meth.sig)) = true) : (Jvm.Cond.code y bytes mx rt).before a s = true := by
  simp only [Bool.and_eq_true, beq_iff_eq, Bool.not_eq_true', decide_eq_true_eq] at h5
  obtain ⟨⟨⟨⟨⟨g1, g2⟩, g3⟩, g4⟩, g5⟩, g6⟩ := h5
  simp [Cond.before, Cond.holds, Cond.value, h1, h2, h3, h4, g1, g2, g3, g4, g5, g6]
def isCode : Jvm.Cond → Bool
  | .code _ _ _ _ => true
  | _ => false
theorem all_split {L : List Jvm.Cond} {P : Jvm.Cond → Bool} (h1 : L.all (fun c => isCode c || P c) = true) (h2 : ∀ c ∈ L.filter isCode, P c = true) : L.all P = true := by
  refine List.all_eq_true.mpr fun c hc => ?_
  have h := List.all_eq_true.mp h1 c hc
  rcases Bool.eq_false_or_eq_true (isCode c) with hi | hi
  · exact h2 c (List.mem_filter.mpr ⟨hc, hi⟩)
  · simpa [hi] using h
set_option maxRecDepth 65536 in
theorem w_c0 : (Jvm.Cond.code x code maxLocals ret).before args0 about1 = true := code_word (m := ⟨1, 1⟩) (meth := k1m1) (c := k1c1) (by decide +kernel) rfl rfl rfl (by decide +kernel)
set_option maxRecDepth 65536 in
theorem w_c1 : (Jvm.Cond.code ({ cls := "com/example/admit/admit/Claim", name := "<init>", desc := "(II)V" } : Jvm.MethodName) prog_4_method_1_code (3 : Nat) (Option.none : Option Jvm.ClassFile.FieldType)).before args0 about1 = true := code_word (m := ⟨2, 0⟩) (meth := k2m0) (c := k2c0) (by decide +kernel) rfl rfl rfl (by decide +kernel)
set_option maxRecDepth 65536 in
theorem w_c2 : (Jvm.Cond.code ({ cls := "java/lang/Object", name := "<init>", desc := "()V" } : Jvm.MethodName) object_method_1_code (1 : Nat) (Option.none : Option Jvm.ClassFile.FieldType)).before args0 about1 = true := code_word (m := ⟨0, 0⟩) (meth := k0m0) (c := k0c0) (by decide +kernel) rfl rfl rfl (by decide +kernel)
set_option maxRecDepth 65536 in
theorem w_c3 : (Jvm.Cond.code ({ cls := "com/example/admit/admit/Claim", name := "equals", desc := "(Ljava/lang/Object;)Z" } : Jvm.MethodName) prog_4_method_5_code (3 : Nat) (Option.some Jvm.ClassFile.FieldType.boolean)).before args0 about1 = true := code_word (m := ⟨2, 1⟩) (meth := k2m1) (c := k2c1) (by decide +kernel) rfl rfl rfl (by decide +kernel)
set_option maxRecDepth 65536 in
theorem w_c4 : (Jvm.Cond.code ({ cls := "com/example/admit/admit/Claim", name := "hashCode", desc := "()I" } : Jvm.MethodName) prog_4_method_6_code (1 : Nat) (Option.some Jvm.ClassFile.FieldType.int)).before args0 about1 = true := code_word (m := ⟨2, 2⟩) (meth := k2m2) (c := k2c2) (by decide +kernel) rfl rfl rfl (by decide +kernel)
set_option maxRecDepth 65536 in
theorem w_c5 : (Jvm.Cond.code ({ cls := "java/lang/Integer", name := "valueOf", desc := "(I)Ljava/lang/Integer;" } : Jvm.MethodName) jdk_33_method_22_code (1 : Nat) (Option.some (Jvm.ClassFile.FieldType.object "java/lang/Integer"))).before args0 about1 = true := code_word (m := ⟨8, 0⟩) (meth := k8m0) (c := k8c0) (by decide +kernel) rfl rfl rfl (by decide +kernel)
set_option maxRecDepth 65536 in
theorem w_c6 : (Jvm.Cond.code ({ cls := "java/lang/Integer", name := "<init>", desc := "(I)V" } : Jvm.MethodName) jdk_33_method_23_code (2 : Nat) (Option.none : Option Jvm.ClassFile.FieldType)).before args0 about1 = true := code_word (m := ⟨8, 1⟩) (meth := k8m1) (c := k8c1) (by decide +kernel) rfl rfl rfl (by decide +kernel)
set_option maxRecDepth 65536 in
theorem w_c7 : (Jvm.Cond.code ({ cls := "java/lang/Number", name := "<init>", desc := "()V" } : Jvm.MethodName) jdk_18_method_1_code (1 : Nat) (Option.none : Option Jvm.ClassFile.FieldType)).before args0 about1 = true := code_word (m := ⟨4, 0⟩) (meth := k4m0) (c := k4c0) (by decide +kernel) rfl rfl rfl (by decide +kernel)
def codes1 : List Jvm.Cond := [Jvm.Cond.code x code maxLocals ret, Jvm.Cond.code ({ cls := "com/example/admit/admit/Claim", name := "<init>", desc := "(II)V" } : Jvm.MethodName) prog_4_method_1_code (3 : Nat) (Option.none : Option Jvm.ClassFile.FieldType), Jvm.Cond.code ({ cls := "java/lang/Object", name := "<init>", desc := "()V" } : Jvm.MethodName) object_method_1_code (1 : Nat) (Option.none : Option Jvm.ClassFile.FieldType), Jvm.Cond.code ({ cls := "com/example/admit/admit/Claim", name := "equals", desc := "(Ljava/lang/Object;)Z" } : Jvm.MethodName) prog_4_method_5_code (3 : Nat) (Option.some Jvm.ClassFile.FieldType.boolean), Jvm.Cond.code ({ cls := "com/example/admit/admit/Claim", name := "hashCode", desc := "()I" } : Jvm.MethodName) prog_4_method_6_code (1 : Nat) (Option.some Jvm.ClassFile.FieldType.int), Jvm.Cond.code ({ cls := "java/lang/Integer", name := "valueOf", desc := "(I)Ljava/lang/Integer;" } : Jvm.MethodName) jdk_33_method_22_code (1 : Nat) (Option.some (Jvm.ClassFile.FieldType.object "java/lang/Integer")), Jvm.Cond.code ({ cls := "java/lang/Integer", name := "<init>", desc := "(I)V" } : Jvm.MethodName) jdk_33_method_23_code (2 : Nat) (Option.none : Option Jvm.ClassFile.FieldType), Jvm.Cond.code ({ cls := "java/lang/Number", name := "<init>", desc := "()V" } : Jvm.MethodName) jdk_18_method_1_code (1 : Nat) (Option.none : Option Jvm.ClassFile.FieldType)]
set_option maxRecDepth 65536 in
theorem codes_eq : words1.filter isCode = codes1 := rfl
theorem w_codes : ∀ c ∈ words1.filter isCode, c.before args0 about1 = true := by
  rw [codes_eq]
  intro c hc
  simp only [codes1, List.mem_cons, List.not_mem_nil, or_false] at hc
  rcases hc with rfl | rfl | rfl | rfl | rfl | rfl | rfl | rfl
  · exact w_c0
  · exact w_c1
  · exact w_c2
  · exact w_c3
  · exact w_c4
  · exact w_c5
  · exact w_c6
  · exact w_c7
set_option maxRecDepth 65536 in
theorem w_t1 : (words1.take 24).all (fun c => isCode c || c.before args0 about1) = true := by decide +kernel
set_option maxRecDepth 65536 in
theorem w_t2 : ((words1.drop 24).take 24).all (fun c => isCode c || c.before args0 about1) = true := by decide +kernel
set_option maxRecDepth 65536 in
theorem w_t3 : ((words1.drop 24).drop 24).all (fun c => isCode c || c.before args0 about1) = true := by decide +kernel
theorem w_tables : (allAtoms (Jvm.Cond.code x code maxLocals ret :: tables_1)).before args0 about1 = true := by
  rw [allAtoms_all]
  show words1.all (fun c => c.before args0 about1) = true
  refine all_split ?_ w_codes
  rw [← List.take_append_drop 24 words1, List.all_append, w_t1, ← List.take_append_drop 24 (words1.drop 24), List.all_append, w_t2, w_t3]
  rfl
set_option maxRecDepth 65536 in
theorem w_rest : rest_1_c.before args0 about1 = true := by decide +kernel
set_option maxRecDepth 65536 in
theorem w_case : (Jvm.Cond.and given_1 narrow_1).before args0 about1 = true := by decide +kernel
theorem w_applies : (headSpec (Jvm.Cond.code x code maxLocals ret :: tables_1) room_1).applies x e0.platform about1 = true :=
  (Spec.applies_iff w_frames).mpr ⟨w_running, w_runnable, w_alone, w_named, w_hears, w_ripe, w_room, w_tables⟩
theorem atStart : AtStart classFile x code maxLocals ret World_1 tables_1 room_1 Calls_1 rest_1 Pre_1 launch0 p0 e0 about1 theMethod args0 below0 :=
  ⟨lists_1, trivial, launch0.admits_env _ _ _, launch0.least_env, fairChoices_fair.cas, fairChoices_fair.clock, w_frames, w_args, w_heap, w_applies, trivial, w_rest, w_case⟩
end start1
theorem witness_1 : WitnessClaimed_1 := ⟨start1.p0, start1.e0, start1.about1, start1.theMethod, start1.args0, start1.below0, start1.atStart⟩
end Jvm.Pilot.@@N@@
