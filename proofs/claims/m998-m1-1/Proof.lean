import JvmDerived
import JvmDerived.Pilot.@@N@@Statement
import JvmDerived.Pilot.@@N@@Code
set_option linter.unusedVariables false
set_option linter.unusedSimpArgs false
namespace Jvm.RoadKit
open Sem ClassFile Op Lib Jvm.Stand Jvm.Free Jvm.LawKit
theorem Ext.keep {h h' : Heap} (E : Ext h h') (ws : List Addr) : Keep h h' ws := (Keep.refl _ _).ext E
theorem Keep.toExt {h h' : Heap} (K : Keep h h' []) : Ext h h' := ⟨K.1, fun a c q => K.2.1 a c q nin0⟩
theorem Sta.keep {Z : State} {h : Heap} {C f d : String} {v : Value} {h' : Heap} {ws : List Addr} (F : Sta Z h C f d v) (K : Keep h h' ws) (q : ∀ x ∈ ws, ∃ c : Cell, h[x]? = some c ∧ c.vm.isStatics = false) : Sta Z h' C f d v := by
  obtain ⟨cf, i, k, f, st, cell, h1, h2, h3, h4, h5, h6, h7⟩ := F
  exact ⟨cf, i, k, f, st, cell, h1, h2, h3, h4, K.2.1 st cell h5 (fun z => by obtain ⟨c, e1, e2⟩ := q st z; cases e1.symm.trans h5; rw [e2] at h6; cases h6), h6, h7⟩
theorem Ins.keep {Z : State} {h : Heap} {a : Addr} {C : String} {b : Bool} {h' : Heap} {ws : List Addr} (F : Ins Z h a C b) (K : Keep h h' ws) : Ins Z h' a C b := by
  obtain ⟨cell, cT, h1, h2, h3⟩ := F
  obtain ⟨c', q, r1, r2, -⟩ := K.2.2 a cell h1
  exact ⟨c', cT, q, h2, by rw [r1, r2]; exact h3⟩
end Jvm.RoadKit
namespace Jvm.Pilot.@@N@@
open Jvm Jvm.ClassFile Sem Op Lib Jvm.Free Jvm.Stand Jvm.LawKit Jvm.RoadKit Bundle Jvm.Pilot.@@N@@.Jvm.D
/-- what a walk is about: all that is fixed while one body runs -/
abbrev Wk : Type := Program × Launch × Env × Room × State × MethodId × Array Value × List Frame × Method × Code × State × Nat
def Cx (w : Wk) (R : Room) (Z : State) (n0 : Nat) (own : String) (bytes : ByteArray) (mx : Nat) (rt : Option FieldType) (nm : String) : Prop :=
  match w with
  | ⟨p, _, _, R', s, m, _, _, meth, c, Z', k⟩ => p.tables.exec = Jvm.exec ∧ c.code = bytes ∧ c.maxLocals = mx ∧ s.vm.findClass own = some m.cls ∧ Z.Warmed39 s.vm ∧ meth.sig.returnType = rt ∧ meth.name = nm ∧ meth.locks = false ∧ R' = R ∧ Z' = Z ∧ k = n0 ∧ n0 ≤ s.heap.size
def At1 (w : Wk) (T : State) (h : Heap) (k n : Nat) : Prop :=
  match w with
  | ⟨p, l, e, R, s, m, args, below, meth, c, _, n0⟩ => ∃ locs, Stand p l e R s m args below meth c T locs k n ∧ T.heap = h ∧ Fr n0 locs
def Go (w : Wk) (Q : Option Value → State → List Loc → Prop) (T : State) (pc : Nat) (L : Array Slot) (st : List Value) : Prop :=
  match w with
  | ⟨p, _, e, _, _, m, _, below, _, _, _, _⟩ => ∃ s₂ o, Steps p.tables e below (T.setTop (mkF m pc L st)) s₂ ∧ s₂.status = .running ∧ Ended s₂ below o ∧ ∃ v Lc, o = .returned v ∧ Q v s₂ Lc
/-- the end of a body that interns nothing -/
def Fn (w : Wk) (Q : Option Value → Heap → Prop) : Option Value → State → List Loc → Prop :=
  match w with
  | ⟨_, _, _, R, s, _, _, _, _, _, _, n0⟩ => fun v s₂ Lc => (Q v s₂.heap ∧ Fr n0 Lc) ∧ FrameEnd s (.returned v) s₂ Lc R.cells R.slots
/-- the end of a body that may intern, from its true start s0 -/
def FnH (Z : State) (EL : List (String × Nat)) (R : Room) (n0 : Nat) (s0 : State) (Q : Option Value → Heap → Prop) : Option Value → State → List Loc → Prop :=
  fun v s₂ Lc => (Q v s₂.heap ∧ Fr n0 Lc) ∧ CHr Z EL s0.vm s0.heap s₂.vm s₂.heap ∧ ReturnedEndW s0 (.returned v) s₂ Lc R.cells R.slots
def Dc (bytes : ByteArray) (pc : Nat) (i : Instr) (n pc' : Nat) : Prop := decode bytes pc = .ok (i, n) ∧ pc + n = pc'
/-- a callee's contract -/
def Con (l : Launch) (Z : State) (y : MethodName) (bytes : ByteArray) (mx : Nat) (rt : Option FieldType) (R : Room) (as' : Array Value) (h0 : Heap) (n0 : Nat) (Q : Option Value → Heap → Prop) : Prop :=
  ∀ ws, MetFree l y (head1 (Jvm.Cond.code y bytes mx rt :: ws) R) (fun a U => a = as' ∧ Z.Warmed39 U.vm ∧ U.heap = h0) (fun _ _ _ _ _ => True) (fun _ U o U' => ∃ v L, o = .returned v ∧ (Q v U'.heap ∧ Fr n0 L) ∧ FrameEnd U o U' L R.cells R.slots)
def RI (P : Int32 → Heap → Prop) : Option Value → Heap → Prop := fun v h => ∃ z : Int32, v = some (.int z) ∧ P z h
def RL (P : Int64 → Heap → Prop) : Option Value → Heap → Prop := fun v h => ∃ z : Int64, v = some (.long z) ∧ P z h
def RR (P : Value → Heap → Prop) : Option Value → Heap → Prop := fun v h => ∃ z : Value, v = some z ∧ z.isRef = true ∧ P z h
def RV (P : Heap → Prop) : Option Value → Heap → Prop := fun v h => v = none ∧ P h
/-- Java's x >>> y -/
def iU (x y : Int32) : Int32 := (x.toUInt32 >>> (y &&& 31).toUInt32).toInt32
def lU (x : Int64) (y : Int32) : Int64 := (x.toUInt64 >>> (y &&& 0x3f).toInt64.toUInt64).toInt64
section Own
variable {w : Wk} {R : Room} {Z : State} {n0 : Nat} {own : String} {bytes : ByteArray} {mx : Nat} {rt : Option FieldType} {nm : String} {T : State} {h : Heap} {k n : Nat} {Q : Option Value → State → List Loc → Prop} {Q0 : Option Value → Heap → Prop} {pc pc' : Nat} {L L' : Array Slot} {st st' : List Value}
theorem con_intro {l : Launch} {y : MethodName} {as' : Array Value} {h0 : Heap} (hp : plainFor y = true) (hef : ∀ m, entryFrame m as' mx = mkF m 0 L []) (hz : n0 ≤ h0.size)
    (body : ∀ w T, Cx w R Z n0 y.cls bytes mx rt y.name → At1 w T h0 0 0 → Go w (Fn w Q0) T 0 L []) : Con l Z y bytes mx rt R as' h0 n0 Q0 := by
  intro ws
  refine MetFree.of_bodySF hp hisR ?_
  intro p e s m args below meth c s₁ Bd hml0 hP hK
  obtain ⟨rfl, hZ, hh⟩ := hP
  have X0 : Stand p l e R s m args below meth c s₁ [] 0 0 := Stand.of_body Bd
  have e0 : s₁.heap = h0 := by rw [← hh, Bd.state]; rfl
  have B := body ⟨p, l, e, R, s, m, args, below, meth, c, Z, n0⟩ s₁ ⟨Bd.exec, Bd.bytes, hml0, findClass_of_methodNamed Bd.named, hZ, Bd.returns, (name_of_methodNamed Bd.named Bd.method).1, Bd.notSynchronized, rfl, rfl, rfl, by rw [hh]; exact hz⟩ ⟨[], X0, e0, Fr.nil n0⟩
  obtain ⟨s₂, o, h1, h2, h3, v, Lc, rfl, h4, h5⟩ := B
  exact ⟨s₂, _, castTop (hef m) h1, h2, h3, v, Lc, rfl, h4, h5⟩
theorem go_step (K : Cx w R Z n0 own bytes mx rt nm) (H : At1 w T h k n)
    (hs : ∀ (p : Program) (e : Env) (m : MethodId) (below : List Frame) (c : Code), p.tables.exec = Jvm.exec → c.code = bytes → At T m c below → ∀ t, Steps p.tables e below (T.setTop (mkF m pc' L' st')) t → Steps p.tables e below (T.setTop (mkF m pc L st)) t)
    (G : Go w Q T pc' L' st') : Go w Q T pc L st := by
  obtain ⟨p, l, e, R', s, m, args, below, meth, c, Z', k0⟩ := w
  obtain ⟨hx, hby, -⟩ := K
  obtain ⟨locs, X, -⟩ := H
  obtain ⟨s₂, o, h1, h2⟩ := G
  exact ⟨s₂, o, hs p e m below c hx hby X.here _ h1, h2⟩
theorem dcb {c : Code} {i : Instr} {q : Nat} (hby : c.code = bytes) (d : Dc bytes pc i q pc') : decode c.code pc = .ok (i, q) := by rw [hby]; exact d.1
theorem go_iadd {x y : Int32} (K : Cx w R Z n0 own bytes mx rt nm) (H : At1 w T h k n) (d : Dc bytes pc .iadd 1 pc') (G : ∀ z : Int32, z = x + y → Go w Q T pc' L (.int z :: st)) : Go w Q T pc L (.int y :: .int x :: st) := by
  obtain ⟨d1, rfl⟩ := d
  exact go_step K H (fun p e m below c hx hby hA t kk => XS.iadd hA hx rfl (by rw [hby]; exact d1) rfl kk) (G _ rfl)
theorem go_ladd {x y : Int64} (K : Cx w R Z n0 own bytes mx rt nm) (H : At1 w T h k n) (d : Dc bytes pc .ladd 1 pc') (G : ∀ z : Int64, z = x + y → Go w Q T pc' L (.long z :: st)) : Go w Q T pc L (.long y :: .long x :: st) := by
  obtain ⟨d1, rfl⟩ := d
  exact go_step K H (fun p e m below c hx hby hA t kk => XS.ladd hA hx rfl (by rw [hby]; exact d1) rfl kk) (G _ rfl)
theorem go_isub {x y : Int32} (K : Cx w R Z n0 own bytes mx rt nm) (H : At1 w T h k n) (d : Dc bytes pc .isub 1 pc') (G : ∀ z : Int32, z = x - y → Go w Q T pc' L (.int z :: st)) : Go w Q T pc L (.int y :: .int x :: st) := by
  obtain ⟨d1, rfl⟩ := d
  exact go_step K H (fun p e m below c hx hby hA t kk => XS.isub hA hx rfl (by rw [hby]; exact d1) rfl kk) (G _ rfl)
theorem go_lsub {x y : Int64} (K : Cx w R Z n0 own bytes mx rt nm) (H : At1 w T h k n) (d : Dc bytes pc .lsub 1 pc') (G : ∀ z : Int64, z = x - y → Go w Q T pc' L (.long z :: st)) : Go w Q T pc L (.long y :: .long x :: st) := by
  obtain ⟨d1, rfl⟩ := d
  exact go_step K H (fun p e m below c hx hby hA t kk => XS.lsub hA hx rfl (by rw [hby]; exact d1) rfl kk) (G _ rfl)
theorem go_imul {x y : Int32} (K : Cx w R Z n0 own bytes mx rt nm) (H : At1 w T h k n) (d : Dc bytes pc .imul 1 pc') (G : ∀ z : Int32, z = x * y → Go w Q T pc' L (.int z :: st)) : Go w Q T pc L (.int y :: .int x :: st) := by
  obtain ⟨d1, rfl⟩ := d
  exact go_step K H (fun p e m below c hx hby hA t kk => XS.imul hA hx rfl (by rw [hby]; exact d1) rfl kk) (G _ rfl)
theorem go_lmul {x y : Int64} (K : Cx w R Z n0 own bytes mx rt nm) (H : At1 w T h k n) (d : Dc bytes pc .lmul 1 pc') (G : ∀ z : Int64, z = x * y → Go w Q T pc' L (.long z :: st)) : Go w Q T pc L (.long y :: .long x :: st) := by
  obtain ⟨d1, rfl⟩ := d
  exact go_step K H (fun p e m below c hx hby hA t kk => XS.lmul hA hx rfl (by rw [hby]; exact d1) rfl kk) (G _ rfl)
theorem go_iand {x y : Int32} (K : Cx w R Z n0 own bytes mx rt nm) (H : At1 w T h k n) (d : Dc bytes pc .iand 1 pc') (G : ∀ z : Int32, z = x &&& y → Go w Q T pc' L (.int z :: st)) : Go w Q T pc L (.int y :: .int x :: st) := by
  obtain ⟨d1, rfl⟩ := d
  exact go_step K H (fun p e m below c hx hby hA t kk => XS.iand hA hx rfl (by rw [hby]; exact d1) rfl kk) (G _ rfl)
theorem go_land {x y : Int64} (K : Cx w R Z n0 own bytes mx rt nm) (H : At1 w T h k n) (d : Dc bytes pc .land 1 pc') (G : ∀ z : Int64, z = x &&& y → Go w Q T pc' L (.long z :: st)) : Go w Q T pc L (.long y :: .long x :: st) := by
  obtain ⟨d1, rfl⟩ := d
  exact go_step K H (fun p e m below c hx hby hA t kk => XS.land hA hx rfl (by rw [hby]; exact d1) rfl kk) (G _ rfl)
theorem go_ior {x y : Int32} (K : Cx w R Z n0 own bytes mx rt nm) (H : At1 w T h k n) (d : Dc bytes pc .ior 1 pc') (G : ∀ z : Int32, z = x ||| y → Go w Q T pc' L (.int z :: st)) : Go w Q T pc L (.int y :: .int x :: st) := by
  obtain ⟨d1, rfl⟩ := d
  exact go_step K H (fun p e m below c hx hby hA t kk => XS.ior hA hx rfl (by rw [hby]; exact d1) rfl kk) (G _ rfl)
theorem go_lor {x y : Int64} (K : Cx w R Z n0 own bytes mx rt nm) (H : At1 w T h k n) (d : Dc bytes pc .lor 1 pc') (G : ∀ z : Int64, z = x ||| y → Go w Q T pc' L (.long z :: st)) : Go w Q T pc L (.long y :: .long x :: st) := by
  obtain ⟨d1, rfl⟩ := d
  exact go_step K H (fun p e m below c hx hby hA t kk => XS.lor hA hx rfl (by rw [hby]; exact d1) rfl kk) (G _ rfl)
theorem go_ixor {x y : Int32} (K : Cx w R Z n0 own bytes mx rt nm) (H : At1 w T h k n) (d : Dc bytes pc .ixor 1 pc') (G : ∀ z : Int32, z = x ^^^ y → Go w Q T pc' L (.int z :: st)) : Go w Q T pc L (.int y :: .int x :: st) := by
  obtain ⟨d1, rfl⟩ := d
  exact go_step K H (fun p e m below c hx hby hA t kk => XS.ixor hA hx rfl (by rw [hby]; exact d1) rfl kk) (G _ rfl)
theorem go_lxor {x y : Int64} (K : Cx w R Z n0 own bytes mx rt nm) (H : At1 w T h k n) (d : Dc bytes pc .lxor 1 pc') (G : ∀ z : Int64, z = x ^^^ y → Go w Q T pc' L (.long z :: st)) : Go w Q T pc L (.long y :: .long x :: st) := by
  obtain ⟨d1, rfl⟩ := d
  exact go_step K H (fun p e m below c hx hby hA t kk => XS.lxor hA hx rfl (by rw [hby]; exact d1) rfl kk) (G _ rfl)
theorem go_ishl {x y : Int32} (K : Cx w R Z n0 own bytes mx rt nm) (H : At1 w T h k n) (d : Dc bytes pc .ishl 1 pc') (G : ∀ z : Int32, z = x <<< (y &&& 31) → Go w Q T pc' L (.int z :: st)) : Go w Q T pc L (.int y :: .int x :: st) := by
  obtain ⟨d1, rfl⟩ := d
  exact go_step K H (fun p e m below c hx hby hA t kk => XS.ishl hA hx rfl (by rw [hby]; exact d1) rfl kk) (G _ rfl)
theorem go_ishr {x y : Int32} (K : Cx w R Z n0 own bytes mx rt nm) (H : At1 w T h k n) (d : Dc bytes pc .ishr 1 pc') (G : ∀ z : Int32, z = x >>> (y &&& 31) → Go w Q T pc' L (.int z :: st)) : Go w Q T pc L (.int y :: .int x :: st) := by
  obtain ⟨d1, rfl⟩ := d
  exact go_step K H (fun p e m below c hx hby hA t kk => XS.ishr hA hx rfl (by rw [hby]; exact d1) rfl kk) (G _ rfl)
theorem go_iushr {x y : Int32} (K : Cx w R Z n0 own bytes mx rt nm) (H : At1 w T h k n) (d : Dc bytes pc .iushr 1 pc') (G : ∀ z : Int32, z = iU x y → Go w Q T pc' L (.int z :: st)) : Go w Q T pc L (.int y :: .int x :: st) := by
  obtain ⟨d1, rfl⟩ := d
  exact go_step K H (fun p e m below c hx hby hA t kk => XS.iushr hA hx rfl (by rw [hby]; exact d1) rfl kk) (G _ rfl)
theorem go_lshl {x : Int64} {y : Int32} (K : Cx w R Z n0 own bytes mx rt nm) (H : At1 w T h k n) (d : Dc bytes pc .lshl 1 pc') (G : ∀ z : Int64, z = x <<< (y &&& 0x3f).toInt64 → Go w Q T pc' L (.long z :: st)) : Go w Q T pc L (.int y :: .long x :: st) := by
  obtain ⟨d1, rfl⟩ := d
  exact go_step K H (fun p e m below c hx hby hA t kk => XS.lshl hA hx rfl (by rw [hby]; exact d1) rfl kk) (G _ rfl)
theorem go_lshr {x : Int64} {y : Int32} (K : Cx w R Z n0 own bytes mx rt nm) (H : At1 w T h k n) (d : Dc bytes pc .lshr 1 pc') (G : ∀ z : Int64, z = x >>> (y &&& 0x3f).toInt64 → Go w Q T pc' L (.long z :: st)) : Go w Q T pc L (.int y :: .long x :: st) := by
  obtain ⟨d1, rfl⟩ := d
  exact go_step K H (fun p e m below c hx hby hA t kk => XS.lshr hA hx rfl (by rw [hby]; exact d1) rfl kk) (G _ rfl)
theorem go_lushr {x : Int64} {y : Int32} (K : Cx w R Z n0 own bytes mx rt nm) (H : At1 w T h k n) (d : Dc bytes pc .lushr 1 pc') (G : ∀ z : Int64, z = lU x y → Go w Q T pc' L (.long z :: st)) : Go w Q T pc L (.int y :: .long x :: st) := by
  obtain ⟨d1, rfl⟩ := d
  exact go_step K H (fun p e m below c hx hby hA t kk => XS.lushr hA hx rfl (by rw [hby]; exact d1) rfl kk) (G _ rfl)
theorem go_idiv {x y : Int32} (K : Cx w R Z n0 own bytes mx rt nm) (H : At1 w T h k n) (d : Dc bytes pc .idiv 1 pc') (hy : y ≠ 0) (G : ∀ z : Int32, z = x / y → Go w Q T pc' L (.int z :: st)) : Go w Q T pc L (.int y :: .int x :: st) := by
  obtain ⟨d1, rfl⟩ := d
  exact go_step K H (fun p e m below c hx hby hA t kk => XS.idiv hA hx rfl (by rw [hby]; exact d1) rfl hy kk) (G _ rfl)
theorem go_irem (K : Cx w R Z n0 own bytes mx rt nm) (H : At1 w T h k n) {x y : Int32} (d : Dc bytes pc .irem 1 pc') (hy : y ≠ 0) (G : ∀ z : Int32, z = x % y → Go w Q T pc' L (.int z :: st)) : Go w Q T pc L (.int y :: .int x :: st) := by
  obtain ⟨d1, rfl⟩ := d
  exact go_step K H (fun p e m below c hx hby hA t kk => XS.irem hA hx rfl (by rw [hby]; exact d1) rfl hy (by rw [irem_eq_mod]; exact kk)) (G _ rfl)
theorem go_ldiv {x y : Int64} (K : Cx w R Z n0 own bytes mx rt nm) (H : At1 w T h k n) (d : Dc bytes pc .ldiv 1 pc') (hy : y ≠ 0) (G : ∀ z : Int64, z = x / y → Go w Q T pc' L (.long z :: st)) : Go w Q T pc L (.long y :: .long x :: st) := by
  obtain ⟨d1, rfl⟩ := d
  exact go_step K H (fun p e m below c hx hby hA t kk => XS.ldiv hA hx rfl (by rw [hby]; exact d1) rfl hy kk) (G _ rfl)
theorem go_lrem {x y : Int64} (K : Cx w R Z n0 own bytes mx rt nm) (H : At1 w T h k n) (d : Dc bytes pc .lrem 1 pc') (hy : y ≠ 0) (G : ∀ z : Int64, z = x - (x / y) * y → Go w Q T pc' L (.long z :: st)) : Go w Q T pc L (.long y :: .long x :: st) := by
  obtain ⟨d1, rfl⟩ := d
  exact go_step K H (fun p e m below c hx hby hA t kk => XS.lrem hA hx rfl (by rw [hby]; exact d1) rfl hy kk) (G _ rfl)
theorem go_ineg {x : Int32} (K : Cx w R Z n0 own bytes mx rt nm) (H : At1 w T h k n) (d : Dc bytes pc .ineg 1 pc') (G : ∀ z : Int32, z = -x → Go w Q T pc' L (.int z :: st)) : Go w Q T pc L (.int x :: st) := by
  obtain ⟨d1, rfl⟩ := d
  exact go_step K H (fun p e m below c hx hby hA t kk => XS.ineg hA hx rfl (by rw [hby]; exact d1) rfl kk) (G _ rfl)
theorem go_lneg {x : Int64} (K : Cx w R Z n0 own bytes mx rt nm) (H : At1 w T h k n) (d : Dc bytes pc .lneg 1 pc') (G : ∀ z : Int64, z = -x → Go w Q T pc' L (.long z :: st)) : Go w Q T pc L (.long x :: st) := by
  obtain ⟨d1, rfl⟩ := d
  exact go_step K H (fun p e m below c hx hby hA t kk => XS.lneg hA hx rfl (by rw [hby]; exact d1) rfl kk) (G _ rfl)
theorem go_i2l {x : Int32} (K : Cx w R Z n0 own bytes mx rt nm) (H : At1 w T h k n) (d : Dc bytes pc .i2l 1 pc') (G : ∀ z : Int64, z = x.toInt64 → Go w Q T pc' L (.long z :: st)) : Go w Q T pc L (.int x :: st) := by
  obtain ⟨d1, rfl⟩ := d
  exact go_step K H (fun p e m below c hx hby hA t kk => XS.i2l hA hx rfl (by rw [hby]; exact d1) rfl kk) (G _ rfl)
theorem go_l2i {x : Int64} (K : Cx w R Z n0 own bytes mx rt nm) (H : At1 w T h k n) (d : Dc bytes pc .l2i 1 pc') (G : ∀ z : Int32, z = x.toInt32 → Go w Q T pc' L (.int z :: st)) : Go w Q T pc L (.long x :: st) := by
  obtain ⟨d1, rfl⟩ := d
  exact go_step K H (fun p e m below c hx hby hA t kk => XS.l2i hA hx rfl (by rw [hby]; exact d1) rfl kk) (G _ rfl)
theorem go_i2b {x : Int32} (K : Cx w R Z n0 own bytes mx rt nm) (H : At1 w T h k n) (d : Dc bytes pc .i2b 1 pc') (G : ∀ z : Int32, z = x.toInt8.toInt32 → Go w Q T pc' L (.int z :: st)) : Go w Q T pc L (.int x :: st) := by
  obtain ⟨d1, rfl⟩ := d
  exact go_step K H (fun p e m below c hx hby hA t kk => XS.i2b hA hx rfl (by rw [hby]; exact d1) rfl kk) (G _ rfl)
theorem go_i2c {x : Int32} (K : Cx w R Z n0 own bytes mx rt nm) (H : At1 w T h k n) (d : Dc bytes pc .i2c 1 pc') (G : ∀ z : Int32, z = x.toUInt32.toUInt16.toUInt32.toInt32 → Go w Q T pc' L (.int z :: st)) : Go w Q T pc L (.int x :: st) := by
  obtain ⟨d1, rfl⟩ := d
  exact go_step K H (fun p e m below c hx hby hA t kk => XS.i2c hA hx rfl (by rw [hby]; exact d1) rfl kk) (G _ rfl)
theorem go_i2s {x : Int32} (K : Cx w R Z n0 own bytes mx rt nm) (H : At1 w T h k n) (d : Dc bytes pc .i2s 1 pc') (G : ∀ z : Int32, z = x.toInt16.toInt32 → Go w Q T pc' L (.int z :: st)) : Go w Q T pc L (.int x :: st) := by
  obtain ⟨d1, rfl⟩ := d
  exact go_step K H (fun p e m below c hx hby hA t kk => XS.i2s hA hx rfl (by rw [hby]; exact d1) rfl kk) (G _ rfl)
theorem go_lcmp {x y : Int64} (K : Cx w R Z n0 own bytes mx rt nm) (H : At1 w T h k n) (d : Dc bytes pc .lcmp 1 pc') (G : ∀ z : Int32, z = lcmpW x y → Go w Q T pc' L (.int z :: st)) : Go w Q T pc L (.long y :: .long x :: st) := by
  obtain ⟨d1, rfl⟩ := d
  exact go_step K H (fun p e m below c hx hby hA t kk => XS.lcmp hA hx rfl (by rw [hby]; exact d1) rfl kk) (G _ rfl)
theorem go_iloadN {j : Fin 4} {v : Int32} (K : Cx w R Z n0 own bytes mx rt nm) (H : At1 w T h k n) (d : Dc bytes pc (.iload_n j) 1 pc') (hl : L[j.val]? = some (.val (.int v))) (G : Go w Q T pc' L (.int v :: st)) : Go w Q T pc L st := by
  obtain ⟨d1, rfl⟩ := d
  exact go_step K H (fun p e m below c hx hby hA t kk => XS.iloadN hA hx rfl (by rw [hby]; exact d1) hl kk) G
theorem go_iload {j : Nat} {v : Int32} (K : Cx w R Z n0 own bytes mx rt nm) (H : At1 w T h k n) (d : Dc bytes pc (.iload j) 2 pc') (hl : L[j]? = some (.val (.int v))) (G : Go w Q T pc' L (.int v :: st)) : Go w Q T pc L st := by
  obtain ⟨d1, rfl⟩ := d
  exact go_step K H (fun p e m below c hx hby hA t kk => XS.iload hA hx rfl (by rw [hby]; exact d1) hl kk) G
theorem go_lloadN {j : Fin 4} {v : Int64} (K : Cx w R Z n0 own bytes mx rt nm) (H : At1 w T h k n) (d : Dc bytes pc (.lload_n j) 1 pc') (hl : L[j.val]? = some (.val (.long v))) (G : Go w Q T pc' L (.long v :: st)) : Go w Q T pc L st := by
  obtain ⟨d1, rfl⟩ := d
  exact go_step K H (fun p e m below c hx hby hA t kk => XS.lloadN hA hx rfl (by rw [hby]; exact d1) hl kk) G
theorem go_lload {j : Nat} {v : Int64} (K : Cx w R Z n0 own bytes mx rt nm) (H : At1 w T h k n) (d : Dc bytes pc (.lload j) 2 pc') (hl : L[j]? = some (.val (.long v))) (G : Go w Q T pc' L (.long v :: st)) : Go w Q T pc L st := by
  obtain ⟨d1, rfl⟩ := d
  exact go_step K H (fun p e m below c hx hby hA t kk => XS.lload hA hx rfl (by rw [hby]; exact d1) hl kk) G
theorem go_aloadN {j : Fin 4} {v : Value} (K : Cx w R Z n0 own bytes mx rt nm) (H : At1 w T h k n) (d : Dc bytes pc (.aload_n j) 1 pc') (hl : L[j.val]? = some (.val v)) (hv : v.isRef = true) (G : Go w Q T pc' L (v :: st)) : Go w Q T pc L st := by
  obtain ⟨d1, rfl⟩ := d
  exact go_step K H (fun p e m below c hx hby hA t kk => XS.aloadN hA hx rfl (by rw [hby]; exact d1) hl hv kk) G
theorem go_aload {j : Nat} {v : Value} (K : Cx w R Z n0 own bytes mx rt nm) (H : At1 w T h k n) (d : Dc bytes pc (.aload j) 2 pc') (hl : L[j]? = some (.val v)) (hv : v.isRef = true) (G : Go w Q T pc' L (v :: st)) : Go w Q T pc L st := by
  obtain ⟨d1, rfl⟩ := d
  exact go_step K H (fun p e m below c hx hby hA t kk => XS.aload hA hx rfl (by rw [hby]; exact d1) hl hv kk) G
theorem go_istoreN {j : Fin 4} {v : Int32} (K : Cx w R Z n0 own bytes mx rt nm) (H : At1 w T h k n) (d : Dc bytes pc (.istore_n j) 1 pc') (hl : storeLocals L j.val (.int v) = some L') (G : Go w Q T pc' L' st) : Go w Q T pc L (.int v :: st) := by
  obtain ⟨d1, rfl⟩ := d
  exact go_step K H (fun p e m below c hx hby hA t kk => XS.istoreN hA hx rfl (by rw [hby]; exact d1) rfl hl kk) G
theorem go_istore {j : Nat} {v : Int32} (K : Cx w R Z n0 own bytes mx rt nm) (H : At1 w T h k n) (d : Dc bytes pc (.istore j) 2 pc') (hl : storeLocals L j (.int v) = some L') (G : Go w Q T pc' L' st) : Go w Q T pc L (.int v :: st) := by
  obtain ⟨d1, rfl⟩ := d
  exact go_step K H (fun p e m below c hx hby hA t kk => XS.istore hA hx rfl (by rw [hby]; exact d1) rfl hl kk) G
theorem go_lstoreN {j : Fin 4} {v : Int64} (K : Cx w R Z n0 own bytes mx rt nm) (H : At1 w T h k n) (d : Dc bytes pc (.lstore_n j) 1 pc') (hl : storeLocals L j.val (.long v) = some L') (G : Go w Q T pc' L' st) : Go w Q T pc L (.long v :: st) := by
  obtain ⟨d1, rfl⟩ := d
  exact go_step K H (fun p e m below c hx hby hA t kk => XS.lstoreN hA hx rfl (by rw [hby]; exact d1) rfl hl kk) G
theorem go_lstore {j : Nat} {v : Int64} (K : Cx w R Z n0 own bytes mx rt nm) (H : At1 w T h k n) (d : Dc bytes pc (.lstore j) 2 pc') (hl : storeLocals L j (.long v) = some L') (G : Go w Q T pc' L' st) : Go w Q T pc L (.long v :: st) := by
  obtain ⟨d1, rfl⟩ := d
  exact go_step K H (fun p e m below c hx hby hA t kk => XS.lstore hA hx rfl (by rw [hby]; exact d1) rfl hl kk) G
theorem go_astoreN {j : Fin 4} {v : Value} (K : Cx w R Z n0 own bytes mx rt nm) (H : At1 w T h k n) (d : Dc bytes pc (.astore_n j) 1 pc') (hv : v.isRef = true) (hl : storeLocals L j.val v = some L') (G : Go w Q T pc' L' st) : Go w Q T pc L (v :: st) := by
  obtain ⟨d1, rfl⟩ := d
  exact go_step K H (fun p e m below c hx hby hA t kk => XS.astoreN hA hx rfl (by rw [hby]; exact d1) rfl hv hl kk) G
theorem go_astore {j : Nat} {v : Value} (K : Cx w R Z n0 own bytes mx rt nm) (H : At1 w T h k n) (d : Dc bytes pc (.astore j) 2 pc') (hv : v.isRef = true) (hl : storeLocals L j v = some L') (G : Go w Q T pc' L' st) : Go w Q T pc L (v :: st) := by
  obtain ⟨d1, rfl⟩ := d
  exact go_step K H (fun p e m below c hx hby hA t kk => XS.astore hA hx rfl (by rw [hby]; exact d1) rfl hv hl kk) G
theorem go_iinc {j : Nat} {cst : Int} {x z : Int32} (K : Cx w R Z n0 own bytes mx rt nm) (H : At1 w T h k n) (d : Dc bytes pc (.iinc j cst) 3 pc') (hl : L[j]? = some (.val (.int x))) (hz : z = x + Int32.ofInt cst) (hl' : storeLocals L j (.int z) = some L') (G : Go w Q T pc' L' st) : Go w Q T pc L st := by
  obtain ⟨d1, rfl⟩ := d
  exact go_step K H (fun p e m below c hx hby hA t kk => XS.iinc hA hx rfl (by rw [hby]; exact d1) hl (by rw [← hz]; exact hl') kk) G
theorem go_iconst {i : Int} (z : Int32) (K : Cx w R Z n0 own bytes mx rt nm) (H : At1 w T h k n) (d : Dc bytes pc (.iconst i) 1 pc') (hz : Int32.ofInt i = z) (G : Go w Q T pc' L (.int z :: st)) : Go w Q T pc L st := by
  obtain ⟨d1, rfl⟩ := d
  exact go_step K H (fun p e m below c hx hby hA t kk => XS.iconst hA hx rfl (by rw [hby]; exact d1) (by rw [hz]; exact kk)) G
theorem go_bipush {i : Int} (z : Int32) (K : Cx w R Z n0 own bytes mx rt nm) (H : At1 w T h k n) (d : Dc bytes pc (.bipush i) 2 pc') (hz : (Int8.ofInt i).toInt32 = z) (G : Go w Q T pc' L (.int z :: st)) : Go w Q T pc L st := by
  obtain ⟨d1, rfl⟩ := d
  exact go_step K H (fun p e m below c hx hby hA t kk => XS.bipush hA hx rfl (by rw [hby]; exact d1) (by rw [hz]; exact kk)) G
theorem go_sipush {i : Int} (z : Int32) (K : Cx w R Z n0 own bytes mx rt nm) (H : At1 w T h k n) (d : Dc bytes pc (.sipush i) 3 pc') (hz : (Int16.ofInt i).toInt32 = z) (G : Go w Q T pc' L (.int z :: st)) : Go w Q T pc L st := by
  obtain ⟨d1, rfl⟩ := d
  exact go_step K H (fun p e m below c hx hby hA t kk => XS.sipush hA hx rfl (by rw [hby]; exact d1) (by rw [hz]; exact kk)) G
theorem go_lconst {i : Fin 2} (z : Int64) (K : Cx w R Z n0 own bytes mx rt nm) (H : At1 w T h k n) (d : Dc bytes pc (.lconst i) 1 pc') (hz : Int64.ofNat i = z) (G : Go w Q T pc' L (.long z :: st)) : Go w Q T pc L st := by
  obtain ⟨d1, rfl⟩ := d
  exact go_step K H (fun p e m below c hx hby hA t kk => XS.lconst hA hx rfl (by rw [hby]; exact d1) (by rw [hz]; exact kk)) G
theorem go_null  (K : Cx w R Z n0 own bytes mx rt nm) (H : At1 w T h k n) (d : Dc bytes pc .aconst_null 1 pc') (G : Go w Q T pc' L (.null :: st)) : Go w Q T pc L st := by
  obtain ⟨d1, rfl⟩ := d
  exact go_step K H (fun p e m below c hx hby hA t kk => XS.aconstNull hA hx rfl (by rw [hby]; exact d1) kk) G
theorem go_dup {x : Value} (K : Cx w R Z n0 own bytes mx rt nm) (H : At1 w T h k n) (d : Dc bytes pc .dup 1 pc') (hc : x.category = 1) (G : Go w Q T pc' L (x :: x :: st)) : Go w Q T pc L (x :: st) := by
  obtain ⟨d1, rfl⟩ := d
  exact go_step K H (fun p e m below c hx hby hA t kk => XS.dup hA hx rfl (by rw [hby]; exact d1) rfl hc kk) G
theorem go_pop {x : Value} (K : Cx w R Z n0 own bytes mx rt nm) (H : At1 w T h k n) (d : Dc bytes pc .pop 1 pc') (hc : x.category = 1) (G : Go w Q T pc' L st) : Go w Q T pc L (x :: st) := by
  obtain ⟨d1, rfl⟩ := d
  exact go_step K H (fun p e m below c hx hby hA t kk => XS.pop hA hx rfl (by rw [hby]; exact d1) rfl hc kk) G
theorem go_dupX1 {x y : Value} (K : Cx w R Z n0 own bytes mx rt nm) (H : At1 w T h k n) (d : Dc bytes pc .dup_x1 1 pc') (hc : x.category = 1) (hc' : y.category = 1) (G : Go w Q T pc' L (x :: y :: x :: st)) : Go w Q T pc L (x :: y :: st) := by
  obtain ⟨d1, rfl⟩ := d
  exact go_step K H (fun p e m below c hx hby hA t kk => XS.dupX1 hA hx rfl (by rw [hby]; exact d1) rfl hc hc' kk) G
theorem go_dup2 {x y : Value} (K : Cx w R Z n0 own bytes mx rt nm) (H : At1 w T h k n) (d : Dc bytes pc .dup2 1 pc') (hc : x.category = 1) (hc' : y.category = 1) (G : Go w Q T pc' L (x :: y :: x :: y :: st)) : Go w Q T pc L (x :: y :: st) := by
  obtain ⟨d1, rfl⟩ := d
  exact go_step K H (fun p e m below c hx hby hA t kk => Jvm.Free.XT.dup2 hA hx rfl (by rw [hby]; exact d1) rfl hc hc' kk) G
theorem go_dup2L {x : Int64} (K : Cx w R Z n0 own bytes mx rt nm) (H : At1 w T h k n) (d : Dc bytes pc .dup2 1 pc') (G : Go w Q T pc' L (.long x :: .long x :: st)) : Go w Q T pc L (.long x :: st) := by
  obtain ⟨d1, rfl⟩ := d
  exact go_step K H (fun p e m below c hx hby hA t kk => Jvm.Free.XT.dup2L hA hx rfl (by rw [hby]; exact d1) rfl kk) G
def Jp (bytes : ByteArray) (pc : Nat) (i : Int → Instr) (yes no : Nat) : Prop := ∃ o : Int, decode bytes pc = .ok (i o, 3) ∧ 0 ≤ (pc : Int) + o ∧ ((pc : Int) + o).toNat = yes ∧ pc + 3 = no
theorem go_goto (K : Cx w R Z n0 own bytes mx rt nm) (H : At1 w T h k n) {no : Nat} (d : Jp bytes pc .goto pc' no) (G : Go w Q T pc' L st) : Go w Q T pc L st := by
  obtain ⟨o, d1, d2, d3, d4⟩ := d
  exact go_step K H (fun p e m below c hx hby hA t kk => XS.goto hA hx rfl rfl (by rw [hby]; exact d1) d2 d3 kk) G
theorem go_icmp_lt (K : Cx w R Z n0 own bytes mx rt nm) (H : At1 w T h k n) {x y : Int32} {yes no : Nat} (d : Jp bytes pc (.if_icmp .lt) yes no) (G1 : x < y → Go w Q T yes L st) (G2 : ¬ x < y → Go w Q T no L st) : Go w Q T pc L (.int y :: .int x :: st) := by
  obtain ⟨o, d1, d2, d3, rfl⟩ := d
  by_cases q : x < y
  · exact go_step K H (fun p e m below c hx hby hA t kk => XS.icmpYes hA hx rfl rfl (by rw [hby]; exact d1) rfl (tlt q).1 d2 d3 kk) (G1 q)
  · exact go_step K H (fun p e m below c hx hby hA t kk => XS.icmpNo hA hx rfl (by rw [hby]; exact d1) rfl (flt q).1 kk) (G2 q)
theorem go_if_lt (K : Cx w R Z n0 own bytes mx rt nm) (H : At1 w T h k n) {x : Int32} {yes no : Nat} (d : Jp bytes pc (.ifCond .lt) yes no) (G1 : x < (0 : Int32) → Go w Q T yes L st) (G2 : ¬ x < (0 : Int32) → Go w Q T no L st) : Go w Q T pc L (.int x :: st) := by
  obtain ⟨o, d1, d2, d3, rfl⟩ := d
  by_cases q : x < (0 : Int32)
  · exact go_step K H (fun p e m below c hx hby hA t kk => XS.ifYes hA hx rfl rfl (by rw [hby]; exact d1) rfl ((if0 _ _).trans (tlt q).1) d2 d3 kk) (G1 q)
  · exact go_step K H (fun p e m below c hx hby hA t kk => XS.ifNo hA hx rfl (by rw [hby]; exact d1) rfl ((if0 _ _).trans (flt q).1) kk) (G2 q)
theorem go_icmp_ge (K : Cx w R Z n0 own bytes mx rt nm) (H : At1 w T h k n) {x y : Int32} {yes no : Nat} (d : Jp bytes pc (.if_icmp .ge) yes no) (G1 : ¬ x < y → Go w Q T yes L st) (G2 : x < y → Go w Q T no L st) : Go w Q T pc L (.int y :: .int x :: st) := by
  obtain ⟨o, d1, d2, d3, rfl⟩ := d
  by_cases q : ¬ x < y
  · exact go_step K H (fun p e m below c hx hby hA t kk => XS.icmpYes hA hx rfl rfl (by rw [hby]; exact d1) rfl (flt q).2.1 d2 d3 kk) (G1 q)
  · exact go_step K H (fun p e m below c hx hby hA t kk => XS.icmpNo hA hx rfl (by rw [hby]; exact d1) rfl (tlt (Decidable.not_not.mp q)).2.1 kk) (G2 (Decidable.not_not.mp q))
theorem go_if_ge (K : Cx w R Z n0 own bytes mx rt nm) (H : At1 w T h k n) {x : Int32} {yes no : Nat} (d : Jp bytes pc (.ifCond .ge) yes no) (G1 : ¬ x < (0 : Int32) → Go w Q T yes L st) (G2 : x < (0 : Int32) → Go w Q T no L st) : Go w Q T pc L (.int x :: st) := by
  obtain ⟨o, d1, d2, d3, rfl⟩ := d
  by_cases q : ¬ x < (0 : Int32)
  · exact go_step K H (fun p e m below c hx hby hA t kk => XS.ifYes hA hx rfl rfl (by rw [hby]; exact d1) rfl ((if0 _ _).trans (flt q).2.1) d2 d3 kk) (G1 q)
  · exact go_step K H (fun p e m below c hx hby hA t kk => XS.ifNo hA hx rfl (by rw [hby]; exact d1) rfl ((if0 _ _).trans (tlt (Decidable.not_not.mp q)).2.1) kk) (G2 (Decidable.not_not.mp q))
theorem go_icmp_gt (K : Cx w R Z n0 own bytes mx rt nm) (H : At1 w T h k n) {x y : Int32} {yes no : Nat} (d : Jp bytes pc (.if_icmp .gt) yes no) (G1 : y < x → Go w Q T yes L st) (G2 : ¬ y < x → Go w Q T no L st) : Go w Q T pc L (.int y :: .int x :: st) := by
  obtain ⟨o, d1, d2, d3, rfl⟩ := d
  by_cases q : y < x
  · exact go_step K H (fun p e m below c hx hby hA t kk => XS.icmpYes hA hx rfl rfl (by rw [hby]; exact d1) rfl (tlt q).2.2.1 d2 d3 kk) (G1 q)
  · exact go_step K H (fun p e m below c hx hby hA t kk => XS.icmpNo hA hx rfl (by rw [hby]; exact d1) rfl (flt q).2.2.1 kk) (G2 q)
theorem go_if_gt (K : Cx w R Z n0 own bytes mx rt nm) (H : At1 w T h k n) {x : Int32} {yes no : Nat} (d : Jp bytes pc (.ifCond .gt) yes no) (G1 : (0 : Int32) < x → Go w Q T yes L st) (G2 : ¬ (0 : Int32) < x → Go w Q T no L st) : Go w Q T pc L (.int x :: st) := by
  obtain ⟨o, d1, d2, d3, rfl⟩ := d
  by_cases q : (0 : Int32) < x
  · exact go_step K H (fun p e m below c hx hby hA t kk => XS.ifYes hA hx rfl rfl (by rw [hby]; exact d1) rfl ((if0 _ _).trans (tlt q).2.2.1) d2 d3 kk) (G1 q)
  · exact go_step K H (fun p e m below c hx hby hA t kk => XS.ifNo hA hx rfl (by rw [hby]; exact d1) rfl ((if0 _ _).trans (flt q).2.2.1) kk) (G2 q)
theorem go_icmp_le (K : Cx w R Z n0 own bytes mx rt nm) (H : At1 w T h k n) {x y : Int32} {yes no : Nat} (d : Jp bytes pc (.if_icmp .le) yes no) (G1 : ¬ y < x → Go w Q T yes L st) (G2 : y < x → Go w Q T no L st) : Go w Q T pc L (.int y :: .int x :: st) := by
  obtain ⟨o, d1, d2, d3, rfl⟩ := d
  by_cases q : ¬ y < x
  · exact go_step K H (fun p e m below c hx hby hA t kk => XS.icmpYes hA hx rfl rfl (by rw [hby]; exact d1) rfl (flt q).2.2.2 d2 d3 kk) (G1 q)
  · exact go_step K H (fun p e m below c hx hby hA t kk => XS.icmpNo hA hx rfl (by rw [hby]; exact d1) rfl (tlt (Decidable.not_not.mp q)).2.2.2 kk) (G2 (Decidable.not_not.mp q))
theorem go_if_le (K : Cx w R Z n0 own bytes mx rt nm) (H : At1 w T h k n) {x : Int32} {yes no : Nat} (d : Jp bytes pc (.ifCond .le) yes no) (G1 : ¬ (0 : Int32) < x → Go w Q T yes L st) (G2 : (0 : Int32) < x → Go w Q T no L st) : Go w Q T pc L (.int x :: st) := by
  obtain ⟨o, d1, d2, d3, rfl⟩ := d
  by_cases q : ¬ (0 : Int32) < x
  · exact go_step K H (fun p e m below c hx hby hA t kk => XS.ifYes hA hx rfl rfl (by rw [hby]; exact d1) rfl ((if0 _ _).trans (flt q).2.2.2) d2 d3 kk) (G1 q)
  · exact go_step K H (fun p e m below c hx hby hA t kk => XS.ifNo hA hx rfl (by rw [hby]; exact d1) rfl ((if0 _ _).trans (tlt (Decidable.not_not.mp q)).2.2.2) kk) (G2 (Decidable.not_not.mp q))
theorem go_icmp_eq (K : Cx w R Z n0 own bytes mx rt nm) (H : At1 w T h k n) {x y : Int32} {yes no : Nat} (d : Jp bytes pc (.if_icmp .eq) yes no) (G1 : x = y → Go w Q T yes L st) (G2 : ¬ x = y → Go w Q T no L st) : Go w Q T pc L (.int y :: .int x :: st) := by
  obtain ⟨o, d1, d2, d3, rfl⟩ := d
  by_cases q : x = y
  · exact go_step K H (fun p e m below c hx hby hA t kk => XS.icmpYes hA hx rfl rfl (by rw [hby]; exact d1) rfl (teq q).1 d2 d3 kk) (G1 q)
  · exact go_step K H (fun p e m below c hx hby hA t kk => XS.icmpNo hA hx rfl (by rw [hby]; exact d1) rfl (feq q).1 kk) (G2 q)
theorem go_if_eq (K : Cx w R Z n0 own bytes mx rt nm) (H : At1 w T h k n) {x : Int32} {yes no : Nat} (d : Jp bytes pc (.ifCond .eq) yes no) (G1 : x = (0 : Int32) → Go w Q T yes L st) (G2 : ¬ x = (0 : Int32) → Go w Q T no L st) : Go w Q T pc L (.int x :: st) := by
  obtain ⟨o, d1, d2, d3, rfl⟩ := d
  by_cases q : x = (0 : Int32)
  · exact go_step K H (fun p e m below c hx hby hA t kk => XS.ifYes hA hx rfl rfl (by rw [hby]; exact d1) rfl ((if0 _ _).trans (teq q).1) d2 d3 kk) (G1 q)
  · exact go_step K H (fun p e m below c hx hby hA t kk => XS.ifNo hA hx rfl (by rw [hby]; exact d1) rfl ((if0 _ _).trans (feq q).1) kk) (G2 q)
theorem go_icmp_ne (K : Cx w R Z n0 own bytes mx rt nm) (H : At1 w T h k n) {x y : Int32} {yes no : Nat} (d : Jp bytes pc (.if_icmp .ne) yes no) (G1 : ¬ x = y → Go w Q T yes L st) (G2 : x = y → Go w Q T no L st) : Go w Q T pc L (.int y :: .int x :: st) := by
  obtain ⟨o, d1, d2, d3, rfl⟩ := d
  by_cases q : ¬ x = y
  · exact go_step K H (fun p e m below c hx hby hA t kk => XS.icmpYes hA hx rfl rfl (by rw [hby]; exact d1) rfl (feq q).2 d2 d3 kk) (G1 q)
  · exact go_step K H (fun p e m below c hx hby hA t kk => XS.icmpNo hA hx rfl (by rw [hby]; exact d1) rfl (teq (Decidable.not_not.mp q)).2 kk) (G2 (Decidable.not_not.mp q))
theorem go_if_ne (K : Cx w R Z n0 own bytes mx rt nm) (H : At1 w T h k n) {x : Int32} {yes no : Nat} (d : Jp bytes pc (.ifCond .ne) yes no) (G1 : ¬ x = (0 : Int32) → Go w Q T yes L st) (G2 : x = (0 : Int32) → Go w Q T no L st) : Go w Q T pc L (.int x :: st) := by
  obtain ⟨o, d1, d2, d3, rfl⟩ := d
  by_cases q : ¬ x = (0 : Int32)
  · exact go_step K H (fun p e m below c hx hby hA t kk => XS.ifYes hA hx rfl rfl (by rw [hby]; exact d1) rfl ((if0 _ _).trans (feq q).2) d2 d3 kk) (G1 q)
  · exact go_step K H (fun p e m below c hx hby hA t kk => XS.ifNo hA hx rfl (by rw [hby]; exact d1) rfl ((if0 _ _).trans (teq (Decidable.not_not.mp q)).2) kk) (G2 (Decidable.not_not.mp q))
theorem go_ifnull_yes (K : Cx w R Z n0 own bytes mx rt nm) (H : At1 w T h k n) {yes no : Nat} (d : Jp bytes pc .ifnull yes no) (G : Go w Q T yes L st) : Go w Q T pc L (.null :: st) := by
  obtain ⟨o, d1, d2, d3, rfl⟩ := d
  exact go_step K H (fun p e m below c hx hby hA t kk => XS.ifnullYes hA hx rfl rfl (by rw [hby]; exact d1) rfl d2 d3 kk) G
theorem go_ifnull_no (K : Cx w R Z n0 own bytes mx rt nm) (H : At1 w T h k n) {a : Addr} {yes no : Nat} (d : Jp bytes pc .ifnull yes no) (G : Go w Q T no L st) : Go w Q T pc L (.ref a :: st) := by
  obtain ⟨o, d1, d2, d3, rfl⟩ := d
  exact go_step K H (fun p e m below c hx hby hA t kk => XS.ifnullNo hA hx rfl (by rw [hby]; exact d1) rfl kk) G
theorem go_ifnonnull_yes (K : Cx w R Z n0 own bytes mx rt nm) (H : At1 w T h k n) {a : Addr} {yes no : Nat} (d : Jp bytes pc .ifnonnull yes no) (G : Go w Q T yes L st) : Go w Q T pc L (.ref a :: st) := by
  obtain ⟨o, d1, d2, d3, rfl⟩ := d
  exact go_step K H (fun p e m below c hx hby hA t kk => XS.ifnonnullYes hA hx rfl rfl (by rw [hby]; exact d1) rfl d2 d3 kk) G
theorem go_ifnonnull_no (K : Cx w R Z n0 own bytes mx rt nm) (H : At1 w T h k n) {yes no : Nat} (d : Jp bytes pc .ifnonnull yes no) (G : Go w Q T no L st) : Go w Q T pc L (.null :: st) := by
  obtain ⟨o, d1, d2, d3, rfl⟩ := d
  exact go_step K H (fun p e m below c hx hby hA t kk => XS.ifnonnullNo hA hx rfl (by rw [hby]; exact d1) rfl kk) G
theorem go_acmp_eq (K : Cx w R Z n0 own bytes mx rt nm) (H : At1 w T h k n) {x y : Value} (h1 : x.isRef = true) (h2 : y.isRef = true) {yes no : Nat} (d : Jp bytes pc (.if_acmp .eq) yes no) (G1 : x = y → Go w Q T yes L st) (G2 : ¬ x = y → Go w Q T no L st) : Go w Q T pc L (y :: x :: st) := by
  obtain ⟨p, l, e, R', s, m, args, below, meth, c, Z', k0⟩ := w
  obtain ⟨hx, hby, -⟩ := K
  obtain ⟨locs, X, -⟩ := H
  obtain ⟨o, d1, d2, d3, rfl⟩ := d
  by_cases q : x = y
  · obtain ⟨s₂, o2, g1, g2⟩ := G1 q
    exact ⟨s₂, o2, Jvm.RoadKit.acmp X hx rfl h1 h2 (pc' := yes) (same := true) rfl (by rw [hby]; exact d1) rfl (decide_eq_true q) d2 (by simp [acV, d3]) g1, g2⟩
  · obtain ⟨s₂, o2, g1, g2⟩ := G2 q
    exact ⟨s₂, o2, Jvm.RoadKit.acmp X hx rfl h1 h2 (pc' := pc + 3) (same := false) rfl (by rw [hby]; exact d1) rfl (decide_eq_false q) d2 (by simp [acV]) g1, g2⟩
theorem go_acmp_ne (K : Cx w R Z n0 own bytes mx rt nm) (H : At1 w T h k n) {x y : Value} (h1 : x.isRef = true) (h2 : y.isRef = true) {yes no : Nat} (d : Jp bytes pc (.if_acmp .ne) yes no) (G1 : ¬ x = y → Go w Q T yes L st) (G2 : x = y → Go w Q T no L st) : Go w Q T pc L (y :: x :: st) := by
  obtain ⟨p, l, e, R', s, m, args, below, meth, c, Z', k0⟩ := w
  obtain ⟨hx, hby, -⟩ := K
  obtain ⟨locs, X, -⟩ := H
  obtain ⟨o, d1, d2, d3, rfl⟩ := d
  by_cases q : x = y
  · obtain ⟨s₂, o2, g1, g2⟩ := G2 q
    exact ⟨s₂, o2, Jvm.RoadKit.acmp X hx rfl h1 h2 (pc' := pc + 3) (same := true) rfl (by rw [hby]; exact d1) rfl (decide_eq_true q) d2 (by simp [acV]) g1, g2⟩
  · obtain ⟨s₂, o2, g1, g2⟩ := G1 q
    exact ⟨s₂, o2, Jvm.RoadKit.acmp X hx rfl h1 h2 (pc' := yes) (same := false) rfl (by rw [hby]; exact d1) rfl (decide_eq_false q) d2 (by simp [acV, d3]) g1, g2⟩
/-- a step that hands on to a new state of the walk -/
theorem go_move {T' : State} (K : Cx w R Z n0 own bytes mx rt nm)
    (hs : ∀ (p : Program) (e : Env) (m : MethodId) (below : List Frame), (∃ l s args meth c, w = ⟨p, l, e, R, s, m, args, below, meth, c, Z, n0⟩) → ∀ t, Steps p.tables e below (T'.setTop (mkF m pc' L' st')) t → Steps p.tables e below (T.setTop (mkF m pc L st)) t)
    (G : Go w Q T' pc' L' st') : Go w Q T pc L st := by
  obtain ⟨p, l, e, R', s, m, args, below, meth, c, Z', k0⟩ := w
  obtain ⟨-, -, -, -, -, -, -, -, rfl, rfl, rfl, -⟩ := K
  obtain ⟨s₂, o, h1, h2⟩ := G
  exact ⟨s₂, o, hs p e m below ⟨l, s, args, meth, c, rfl⟩ _ h1, h2⟩
/-- one law a body's end -/
theorem go_leave (K : Cx w R Z n0 own bytes mx rt nm) (H : At1 w T h k n) {v : Option Value} (hv : rt = none → v = none) (hk : k ≤ R.cells) (hn : n ≤ R.slots)
    (hs : ∀ (p : Program) (l : Launch) (e : Env) (s : State) (m : MethodId) (args : Array Value) (below : List Frame) (meth : Method) (c : Code) (locs : List Loc), Stand p l e R s m args below meth c T locs k n → p.tables.exec = Jvm.exec → c.code = bytes → meth.sig.returnType = rt → ∀ fs, (∀ (f : JFrame) (acts : List Action), f.method = m → f.locked = none → f.entered = [] → (doReturn e (T.setTop f) acts v).1 = T.setFrames fs) → Steps p.tables e below (T.setTop (mkF m pc L st)) (T.setFrames fs))
    (hq : Q0 v h) : Go w (Fn w Q0) T pc L st := by
  obtain ⟨p, l, e, R', s, m, args, below, meth, c, Z', k0⟩ := w
  obtain ⟨hx, hby, hml, hown, hZ, hret, hnm, hlk, rfl, rfl, rfl, h00⟩ := K
  obtain ⟨locs, X, eT, N⟩ := H
  obtain ⟨fs, hr, hrun, hended, hW, hsame⟩ := X.leave (v := v) (fun q => hv (hret ▸ q)) hlk
  exact ⟨_, _, hs p l e s m args below meth c locs X hx hby hret fs hr, hrun, hended, v, locs, rfl, ⟨by show Q0 v T.heap; rw [eT]; exact hq, N⟩, ⟨v, rfl⟩, hW, hsame.mono hk hn⟩
theorem go_ret (K : Cx w R Z n0 own bytes mx rt nm) (H : At1 w T h k n) {P : Heap → Prop} (d : Dc bytes pc .return_ 1 pc') (hr : rt = none) (hk : k ≤ R.cells) (hn : n ≤ R.slots) (hq : P h) : Go w (Fn w (RV P)) T pc L [] :=
  go_leave K H (fun _ => rfl) hk hn (fun p l e s m args below meth c locs X hx hby hret fs hl => X.returnOut hx (hret.trans hr) (dcb hby d) hl) ⟨rfl, hq⟩
theorem go_retV (K : Cx w R Z n0 own bytes mx rt nm) (H : At1 w T h k n) {v : Value} {t : FieldType} {i : Instr} (d : Dc bytes pc i 1 pc') (hr : rt = some t) (hnar : narrow t v = v)
    (hi : (i = .ireturn ∧ (t = .int ∨ t = .boolean ∨ t = .byte ∨ t = .char ∨ t = .short) ∧ ∃ z, v = .int z) ∨ (i = .lreturn ∧ t = .long ∧ ∃ z, v = .long z) ∨ (i = .dreturn ∧ t = .double ∧ ∃ z, v = .double z) ∨ (i = .freturn ∧ t = .float ∧ ∃ z, v = .float z) ∨ (i = .areturn ∧ t.isReference = true ∧ v.isRef = true))
    (hk : k ≤ R.cells) (hn : n ≤ R.slots) (hq : Q0 (some v) h) : Go w (Fn w Q0) T pc L (v :: st) :=
  go_leave K H (fun q => by rw [hr] at q; cases q) hk hn (fun p l e s m args below meth c locs X hx hby hret fs hl => retOut X hx (hret.trans hr) hnar hi (dcb hby d) hl) hq
theorem go_iret (K : Cx w R Z n0 own bytes mx rt nm) (H : At1 w T h k n) {P : Int32 → Heap → Prop} {z : Int32} (d : Dc bytes pc .ireturn 1 pc') (hr : rt = some .int) (hk : k ≤ R.cells) (hn : n ≤ R.slots) (hq : P z h) : Go w (Fn w (RI P)) T pc L (.int z :: st) :=
  go_retV K H d hr rfl (Or.inl ⟨rfl, Or.inl rfl, z, rfl⟩) hk hn ⟨z, rfl, hq⟩
theorem go_zret (K : Cx w R Z n0 own bytes mx rt nm) (H : At1 w T h k n) {P : Int32 → Heap → Prop} {z : Int32} (d : Dc bytes pc .ireturn 1 pc') (hr : rt = some .boolean) (hz : nar .boolean z = z) (hk : k ≤ R.cells) (hn : n ≤ R.slots) (hq : P z h) : Go w (Fn w (RI P)) T pc L (.int z :: st) :=
  go_retV K H d hr (by show Value.int (nar .boolean z) = _; rw [hz]) (Or.inl ⟨rfl, Or.inr (Or.inl rfl), z, rfl⟩) hk hn ⟨z, rfl, hq⟩
theorem go_lret (K : Cx w R Z n0 own bytes mx rt nm) (H : At1 w T h k n) {P : Int64 → Heap → Prop} {z : Int64} (d : Dc bytes pc .lreturn 1 pc') (hr : rt = some .long) (hk : k ≤ R.cells) (hn : n ≤ R.slots) (hq : P z h) : Go w (Fn w (RL P)) T pc L (.long z :: st) :=
  go_retV K H d hr rfl (Or.inr (Or.inl ⟨rfl, rfl, z, rfl⟩)) hk hn ⟨z, rfl, hq⟩
theorem go_aret (K : Cx w R Z n0 own bytes mx rt nm) (H : At1 w T h k n) {P : Value → Heap → Prop} {z : Value} {t : FieldType} (d : Dc bytes pc .areturn 1 pc') (hr : rt = some t) (ht : t.isReference = true) (hz : z.isRef = true) (hk : k ≤ R.cells) (hn : n ≤ R.slots) (hq : P z h) : Go w (Fn w (RR P)) T pc L (z :: st) :=
  go_retV K H d hr (by rcases ref_cases hz with rfl | ⟨a, rfl⟩ <;> (cases t <;> first | rfl | (simp [FieldType.isReference] at ht))) (Or.inr (Or.inr (Or.inr (Or.inr ⟨rfl, ht, hz⟩)))) hk hn ⟨z, rfl, hz, hq⟩
theorem go_ldcI {a0 : Array Value} {idx : Nat} (z : Int32) (K : Cx w R Z n0 own bytes mx rt nm) (H : At1 w T h k n) (d : Dc bytes pc (.ldc idx) 2 pc') (w1 : (Cond.constant own idx z).before a0 Z = true) (G : Go w Q T pc' L (.int z :: st)) : Go w Q T pc L st := by
  obtain ⟨p, l, e, R', s, m, args, below, meth, c, Z', k0⟩ := w
  obtain ⟨hx, hby, hml, hown, hZ, -⟩ := K
  obtain ⟨locs, X, -⟩ := H
  obtain ⟨s₂, o, g1, g2⟩ := G
  obtain ⟨d1, rfl⟩ := d
  exact ⟨s₂, o, X.ldcInt hx hown (mvT hZ w1) rfl (by rw [hby]; exact d1) _ g1, g2⟩
theorem go_ldcF {a0 : Array Value} {idx : Nat} (z : UInt32) (K : Cx w R Z n0 own bytes mx rt nm) (H : At1 w T h k n) (d : Dc bytes pc (.ldc idx) 2 pc') (w1 : (Cond.constantFloat own idx z).before a0 Z = true) (G : Go w Q T pc' L (.float z :: st)) : Go w Q T pc L st := by
  obtain ⟨p, l, e, R', s, m, args, below, meth, c, Z', k0⟩ := w
  obtain ⟨hx, hby, hml, hown, hZ, -⟩ := K
  obtain ⟨locs, X, -⟩ := H
  obtain ⟨s₂, o, g1, g2⟩ := G
  obtain ⟨d1, rfl⟩ := d
  exact ⟨s₂, o, X.ldcFloatC hx hown (mvT hZ w1) rfl (by rw [hby]; exact d1) _ g1, g2⟩
theorem go_ldcwI {a0 : Array Value} {idx : Nat} (z : Int32) (K : Cx w R Z n0 own bytes mx rt nm) (H : At1 w T h k n) (d : Dc bytes pc (.ldc_w idx) 3 pc') (w1 : (Cond.constant own idx z).before a0 Z = true) (G : Go w Q T pc' L (.int z :: st)) : Go w Q T pc L st := by
  obtain ⟨p, l, e, R', s, m, args, below, meth, c, Z', k0⟩ := w
  obtain ⟨hx, hby, hml, hown, hZ, -⟩ := K
  obtain ⟨locs, X, -⟩ := H
  obtain ⟨s₂, o, g1, g2⟩ := G
  obtain ⟨d1, rfl⟩ := d
  exact ⟨s₂, o, X.ldcwInt hx hown (mvT hZ w1) rfl (by rw [hby]; exact d1) _ g1, g2⟩
theorem go_ldcL {a0 : Array Value} {idx : Nat} (z : Int64) (K : Cx w R Z n0 own bytes mx rt nm) (H : At1 w T h k n) (d : Dc bytes pc (.ldc2_w idx) 3 pc') (w1 : (Cond.constantLong own idx z).before a0 Z = true) (G : Go w Q T pc' L (.long z :: st)) : Go w Q T pc L st := by
  obtain ⟨p, l, e, R', s, m, args, below, meth, c, Z', k0⟩ := w
  obtain ⟨hx, hby, hml, hown, hZ, -⟩ := K
  obtain ⟨locs, X, -⟩ := H
  obtain ⟨s₂, o, g1, g2⟩ := G
  obtain ⟨d1, rfl⟩ := d
  exact ⟨s₂, o, X.ldc2Long hx hown (mvT hZ w1) rfl (by rw [hby]; exact d1) _ g1, g2⟩
theorem go_getfield {a0 : Array Value} {R0 O f ds host : String} {idx : Nat} {a : Addr} {v : Value} (K : Cx w R Z n0 own bytes mx rt nm) (H : At1 w T h k n) (d : Dc bytes pc (.getfield idx) 3 pc') (w1 : (Cond.fieldLink own idx R0 f ds).before a0 Z = true ∨ (Cond.fieldLinkNest own idx R0 f ds host).before a0 Z = true) (via : Via Z R0 O f ds) (F : Fld Z h a O f ds v)
    (G : ∀ T', At1 w T' h k n → Go w Q T' pc' L (v :: st)) : Go w Q T pc L (.ref a :: st) := by
  obtain ⟨p, l, e, R', s, m, args, below, meth, c, Z', k0⟩ := w
  obtain ⟨hx, hby, hml, hown, hZ, -⟩ := K
  obtain ⟨locs, X, eT, N⟩ := H
  obtain ⟨d1, rfl⟩ := d
  obtain ⟨T', X', e', stp⟩ := getF X hx hZ hown w1 via eT F (g := mkF m pc L (.ref a :: st)) rfl rfl (by rw [hby]; exact d1)
  obtain ⟨s₂, o, g1, g2⟩ := G T' ⟨locs, X', e', N⟩
  exact ⟨s₂, o, stp _ g1, g2⟩
theorem go_getstatic {a0 : Array Value} {R0 O f ds host : String} {idx : Nat} {v : Value} (K : Cx w R Z n0 own bytes mx rt nm) (H : At1 w T h k n) (d : Dc bytes pc (.getstatic idx) 3 pc') (w1 : (Cond.fieldLink own idx R0 f ds).before a0 Z = true ∨ (Cond.fieldLinkNest own idx R0 f ds host).before a0 Z = true) (via : Via Z R0 O f ds) (F : Sta Z h O f ds v)
    (G : ∀ T', At1 w T' h k n → Go w Q T' pc' L (v :: st)) : Go w Q T pc L st := by
  obtain ⟨p, l, e, R', s, m, args, below, meth, c, Z', k0⟩ := w
  obtain ⟨hx, hby, hml, hown, hZ, -⟩ := K
  obtain ⟨locs, X, eT, N⟩ := H
  obtain ⟨d1, rfl⟩ := d
  obtain ⟨T', X', e', stp⟩ := getS2 X hx hZ hown w1 via eT F (g := mkF m pc L st) rfl (by rw [hby]; exact d1)
  obtain ⟨s₂, o, g1, g2⟩ := G T' ⟨locs, X', e', N⟩
  exact ⟨s₂, o, stp _ g1, g2⟩
theorem go_putfield {a0 : Array Value} {R0 O f ds host C : String} {idx kk : Nat} {a : Addr} {v old : Value} {ty : FieldType} (K : Cx w R Z n0 own bytes mx rt nm) (H : At1 w T h k n) (d : Dc bytes pc (.putfield idx) 3 pc') (w1 : (Cond.fieldLink own idx R0 f ds).before a0 Z = true ∨ (Cond.fieldLinkNest own idx R0 f ds host).before a0 Z = true) (via : Via Z R0 O f ds)
    (F : Fld Z h a O f ds old) (E : Exa Z h a C) (Ly : (Cond.lays C O f ds).before a0 Z = true ∨ ((Cond.laysFinal C O f ds).before a0 Z = true ∧ own = O ∧ nm = "<init>")) (wi : (Cond.instantiable C kk).before a0 Z = true)
    (hty : parseFieldDescriptor ds = some ty) (hn : narrow ty v = v) (hf : fits ty v = true) (ha : n0 ≤ a)
    (G : ∀ T' h', At1 w T' h' k n → Wr h h' a (Jvm.RoadKit.slotOf Z O f ds) v → Go w Q T' pc' L st) : Go w Q T pc L (v :: .ref a :: st) := by
  obtain ⟨p, l, e, R', s, m, args, below, meth, c, Z', k0⟩ := w
  obtain ⟨hx, hby, hml, hown, hZ, hret, hnm, hlk, rfl, rfl, rfl, h00⟩ := K
  obtain ⟨locs, X, eT, N⟩ := H
  obtain ⟨d1, rfl⟩ := d
  obtain ⟨T', h', X', e', W, stp⟩ := putF X hx hZ hown w1 via eT F E (Ly.imp id fun q => ⟨q.1, q.2.1, hnm.trans q.2.2⟩) wi hty hn hf (g := mkF m pc L (v :: .ref a :: st)) rfl rfl (by rw [hby]; exact d1)
  obtain ⟨s₂, o, g1, g2⟩ := G T' h' ⟨_, X', e', Fr.snoc X' N ha⟩ W
  exact ⟨s₂, o, stp _ g1, g2⟩
theorem go_putfieldN {a0 : Array Value} {R0 O f ds C : String} {idx kk : Nat} {a : Addr} {v v' old : Value} {ty : FieldType} (K : Cx w R Z n0 own bytes mx rt nm) (H : At1 w T h k n) (d : Dc bytes pc (.putfield idx) 3 pc') (w1 : (Cond.fieldLink own idx R0 f ds).before a0 Z = true) (via : Via Z R0 O f ds)
    (F : Fld Z h a O f ds old) (E : Exa Z h a C) (Ly : (Cond.lays C O f ds).before a0 Z = true ∨ ((Cond.laysFinal C O f ds).before a0 Z = true ∧ own = O ∧ nm = "<init>")) (wi : (Cond.instantiable C kk).before a0 Z = true)
    (hty : parseFieldDescriptor ds = some ty) (hn : narrow ty v = v') (hf : fits ty v' = true) (ha : n0 ≤ a)
    (G : ∀ T' h', At1 w T' h' k n → Wr h h' a (Jvm.RoadKit.slotOf Z O f ds) v' → Go w Q T' pc' L st) : Go w Q T pc L (v :: .ref a :: st) := by
  obtain ⟨p, l, e, R', s, m, args, below, meth, c, Z', k0⟩ := w
  obtain ⟨hx, hby, hml, hown, hZ, hret, hnm, hlk, rfl, rfl, rfl, h00⟩ := K
  obtain ⟨locs, X, eT, N⟩ := H
  obtain ⟨d1, rfl⟩ := d
  obtain ⟨T', h', X', e', W, stp⟩ := putFN X hx hZ hown w1 via eT F E (Ly.imp id fun q => ⟨q.1, q.2.1, hnm.trans q.2.2⟩) wi hty hn hf (g := mkF m pc L (v :: .ref a :: st)) rfl rfl (by rw [hby]; exact d1)
  obtain ⟨s₂, o, g1, g2⟩ := G T' h' ⟨_, X', e', Fr.snoc X' N ha⟩ W
  exact ⟨s₂, o, stp _ g1, g2⟩
theorem go_new {a0 : Array Value} {C : String} {idx sl : Nat} (K : Cx w R Z n0 own bytes mx rt nm) (H : At1 w T h k n) (d : Dc bytes pc (.new idx) 3 pc') (w1 : (Cond.classLink own idx C).before a0 Z = true) (w2 : (Cond.instantiable C sl).before a0 Z = true) (w3 : (Cond.initialized C).before a0 Z = true) (hk : k + 1 ≤ R.cells) (hn : n + sl ≤ R.slots)
    (G : ∀ T' h' a, At1 w T' h' (k + 1) (n + sl) → a = h.size → n0 ≤ a → Ext h h' → Exa Z h' a C → (∀ {O f ds : String} {ty : FieldType}, Laid Z a0 C O f ds → parseFieldDescriptor ds = some ty → Fld Z h' a O f ds (defaultValue ty)) → Go w Q T' pc' L (.ref a :: st)) : Go w Q T pc L st := by
  obtain ⟨p, l, e, R', s, m, args, below, meth, c, Z', k0⟩ := w
  obtain ⟨hx, hby, hml, hown, hZ, hret, hnm, hlk, rfl, rfl, rfl, h00⟩ := K
  obtain ⟨locs, X, eT, N⟩ := H
  obtain ⟨d1, rfl⟩ := d
  obtain ⟨T', h', X', e', E, A, D, -, stp⟩ := newO X hx hZ hown w1 w2 w3 eT (g := mkF m pc L st) rfl (by rw [hby]; exact d1) hk hn
  obtain ⟨s₂, o, g1, g2⟩ := G T' h' h.size ⟨_, X', e', N⟩ rfl (by rw [← eT]; exact Nat.le_trans h00 X.same.2.1) E A D
  exact ⟨s₂, o, stp _ g1, g2⟩
theorem go_initO {a0 : Array Value} {idx : Nat} {a : Addr} (K : Cx w R Z n0 own bytes mx rt nm) (H : At1 w T h k n) (d : Dc bytes pc (.invokespecial idx) 3 pc') (w1 : (Cond.methodLink own idx Lib.objectInit).before a0 Z = true) (w2 : (Cond.instanceMethod Lib.objectInit).before a0 Z = true) (w3 : (Cond.code Lib.objectInit ⟨#[0xb1]⟩ 1 none).before a0 Z = true)
    (hL : L.size = mx) (hf : 1 ≤ R.frames) {W : Nat} (hW : (st.map fun v => v.category).sum = W) (hl : W + 12 ≤ R.locals)
    (G : ∀ T', At1 w T' h k n → Go w Q T' pc' L st) : Go w Q T pc L (.ref a :: st) := by
  obtain ⟨p, l, e, R', s, m, args, below, meth, c, Z', k0⟩ := w
  obtain ⟨hx, hby, hml, hown, hZ, hret, hnm, hlk, rfl, rfl, rfl, h00⟩ := K
  obtain ⟨locs, X, eT, N⟩ := H
  obtain ⟨d1, rfl⟩ := d
  obtain ⟨T', X', e', stp⟩ := initO X hx hZ hown w1 w2 w3 eT (g := mkF m pc L (.ref a :: st)) rfl (hL.trans hml.symm) rfl (by rw [hby]; exact d1) hf (W := W) (by show 2 * 0 + _ ≤ _; rw [hW]; omega) hl
  obtain ⟨s₂, o, g1, g2⟩ := G T' ⟨locs, X', e', N⟩
  exact ⟨s₂, o, stp _ g1, g2⟩
/-- an array: all its components -/
def VA (Z : State) (h : Heap) (a : Addr) (ty : FieldType) (vs : List Value) : Prop := ∃ c : Cell, Arr Z h a c ty ∧ c.slots.toList = vs ∧ vs.length < 2 ^ 31
def IA (Z : State) (h : Heap) (a : Addr) (xs : List Int32) : Prop := VA Z h a .int (xs.map Value.int)
def JA (Z : State) (h : Heap) (a : Addr) (xs : List Int64) : Prop := VA Z h a .long (xs.map Value.long)
theorem VA.ext {a : Addr} {ty : FieldType} {vs : List Value} {h' : Heap} (A : VA Z h a ty vs) (E : Ext h h') : VA Z h' a ty vs := by obtain ⟨c, A, r⟩ := A; exact ⟨c, A.ext E, r⟩
theorem VA.other {a b : Addr} {ty : FieldType} {vs : List Value} {h' : Heap} {sl : Nat} {v : Value} (A : VA Z h a ty vs) (W : Wr h h' b sl v) (q : a ≠ b) : VA Z h' a ty vs := by obtain ⟨c, A, r⟩ := A; exact ⟨c, A.other W q, r⟩
theorem VA.keep {a : Addr} {ty : FieldType} {vs : List Value} {h' : Heap} {ws : List Addr} (A : VA Z h a ty vs) (K : Keep h h' ws) (q : a ∉ ws) : VA Z h' a ty vs := by obtain ⟨c, A, r⟩ := A; exact ⟨c, ⟨K.2.1 a c A.1 q, A.2⟩, r⟩
theorem VA.lt {a : Addr} {ty : FieldType} {vs : List Value} (A : VA Z h a ty vs) : a < h.size := by obtain ⟨c, A, r⟩ := A; exact A.lt
theorem VA.len {a : Addr} {ty : FieldType} {vs : List Value} (A : VA Z h a ty vs) : vs.length < 2 ^ 31 := by obtain ⟨c, A, r1, r2⟩ := A; exact r2
theorem VA.set {a : Addr} {ty : FieldType} {vs : List Value} {h' : Heap} {i : Nat} {v : Value} (A : VA Z h a ty vs) (W : Wr h h' a i v) : VA Z h' a ty (vs.set i v) := by
  obtain ⟨c, A, r1, r2⟩ := A
  exact ⟨_, A.same W, by simp [Cell.setSlot, r1], by simpa using r2⟩
theorem IA.ext {a : Addr} {xs : List Int32} {h' : Heap} (A : IA Z h a xs) (E : Ext h h') : IA Z h' a xs := VA.ext A E
theorem IA.other {a b : Addr} {xs : List Int32} {h' : Heap} {sl : Nat} {v : Value} (A : IA Z h a xs) (W : Wr h h' b sl v) (q : a ≠ b) : IA Z h' a xs := VA.other A W q
theorem IA.keep {a : Addr} {xs : List Int32} {h' : Heap} {ws : List Addr} (A : IA Z h a xs) (K : Keep h h' ws) (q : a ∉ ws) : IA Z h' a xs := VA.keep A K q
theorem IA.lt {a : Addr} {xs : List Int32} (A : IA Z h a xs) : a < h.size := VA.lt A
theorem IA.len {a : Addr} {xs : List Int32} (A : IA Z h a xs) : xs.length < 2 ^ 31 := by simpa using VA.len A
theorem IA.set {a : Addr} {xs : List Int32} {h' : Heap} {i : Nat} {x : Int32} (A : IA Z h a xs) (W : Wr h h' a i (.int x)) : IA Z h' a (xs.set i x) := by
  have q := VA.set A W
  rw [← List.map_set] at q; exact q
theorem JA.ext {a : Addr} {xs : List Int64} {h' : Heap} (A : JA Z h a xs) (E : Ext h h') : JA Z h' a xs := VA.ext A E
theorem JA.other {a b : Addr} {xs : List Int64} {h' : Heap} {sl : Nat} {v : Value} (A : JA Z h a xs) (W : Wr h h' b sl v) (q : a ≠ b) : JA Z h' a xs := VA.other A W q
theorem JA.keep {a : Addr} {xs : List Int64} {h' : Heap} {ws : List Addr} (A : JA Z h a xs) (K : Keep h h' ws) (q : a ∉ ws) : JA Z h' a xs := VA.keep A K q
theorem JA.lt {a : Addr} {xs : List Int64} (A : JA Z h a xs) : a < h.size := VA.lt A
theorem JA.len {a : Addr} {xs : List Int64} (A : JA Z h a xs) : xs.length < 2 ^ 31 := by simpa using VA.len A
theorem JA.set {a : Addr} {xs : List Int64} {h' : Heap} {i : Nat} {x : Int64} (A : JA Z h a xs) (W : Wr h h' a i (.long x)) : JA Z h' a (xs.set i x) := by
  have q := VA.set A W
  rw [← List.map_set] at q; exact q
theorem idx_nat {j : Int32} {i : Nat} (hj : j.toInt = (i : Int)) : ¬ j < 0 ∧ j.toNatClampNeg = i := by
  constructor
  · rw [Int32.lt_iff_toInt_lt, hj]; show ¬ ((i : Int) < 0); omega
  · simp only [Int32.toNatClampNeg, hj]; omega
theorem slot_at {c : Cell} {vs : List Value} {i : Nat} {v : Value} (r : c.slots.toList = vs) (hi : vs[i]? = some v) : c.slots[i]? = some v := by rw [← Array.getElem?_toList, r]; exact hi
theorem inb_at {c : Cell} {vs : List Value} {j : Int32} {i : Nat} (r : c.slots.toList = vs) (hj : j.toInt = (i : Int)) (hi : i < vs.length) : ¬ (j < 0 ∨ c.slots.size ≤ j.toNatClampNeg) := by
  obtain ⟨h1, h2⟩ := idx_nat hj
  have e : c.slots.size = vs.length := by rw [← r]; simp
  rw [h2, e]
  rintro (q | q)
  · exact h1 q
  · omega
theorem lt_of_at {α : Type} {vs : List α} {i : Nat} {v : α} (hi : vs[i]? = some v) : i < vs.length := (List.getElem?_eq_some_iff.mp hi).1
theorem go_newarray {a0 : Array Value} {aty : ArrayType} {m : Int32} (cap : Nat) (K : Cx w R Z n0 own bytes mx rt nm) (H : At1 w T h k n) (d : Dc bytes pc (.newarray aty) 2 pc') (w1 : (Cond.arrayClass (newarray.typeOf aty)).before a0 Z = true) (hm : ¬ m < 0) (hcap : m.toNatClampNeg ≤ cap) (hb : cap * 8 ≤ 536870912) (hk : k + 1 ≤ R.cells) (hn : n + cap ≤ R.slots)
    (G : ∀ T' h' a, At1 w T' h' (k + 1) (n + cap) → a = h.size → n0 ≤ a → Ext h h' → VA Z h' a (newarray.typeOf aty) (List.replicate m.toNatClampNeg (defaultValue (newarray.typeOf aty))) → Go w Q T' pc' L (.ref a :: st)) : Go w Q T pc L (.int m :: st) := by
  obtain ⟨p, l, e, R', s, mm, args, below, meth, c, Z', k0⟩ := w
  obtain ⟨hx, hby, hml, hown, hZ, hret, hnm, hlk, rfl, rfl, rfl, h00⟩ := K
  obtain ⟨locs, X, eT, N⟩ := H
  obtain ⟨d1, rfl⟩ := d
  obtain ⟨T', h', cA, X', e', E, A, stp⟩ := newP X hx hZ w1 eT (g := mkF mm pc L (.int m :: st)) rfl (by rw [hby]; exact d1) rfl hm hcap hb hk hn
  obtain ⟨s₂, o, g1, g2⟩ := G T' h' h.size ⟨_, X', e', N⟩ rfl (by rw [← eT]; exact Nat.le_trans h00 X.same.2.1) E ⟨_, A, by simp [newA], by simpa using (back32 hm).2⟩
  exact ⟨s₂, o, stp _ g1, g2⟩
theorem go_arraylength {a : Addr} {ty : FieldType} {vs : List Value} (K : Cx w R Z n0 own bytes mx rt nm) (H : At1 w T h k n) (d : Dc bytes pc .arraylength 1 pc') (A : VA Z h a ty vs) (G : ∀ z : Int32, z.toInt = (vs.length : Int) → Go w Q T pc' L (.int z :: st)) : Go w Q T pc L (.ref a :: st) := by
  obtain ⟨p, l, e, R', s, m, args, below, meth, c, Z', k0⟩ := w
  obtain ⟨hx, hby, hml, hown, hZ, -⟩ := K
  obtain ⟨locs, X, eT, N⟩ := H
  obtain ⟨d1, rfl⟩ := d
  obtain ⟨cl, A, r1, r2⟩ := A
  have e : cl.slots.size = vs.length := by rw [← r1]; simp
  obtain ⟨s₂, o, g1, g2⟩ := G cl.slots.size.toInt32 (by rw [e]; exact len_toInt r2)
  exact ⟨s₂, o, X.arraylength hx (by rw [eT]; exact A.1) (State.isArrayOf_alike hZ.alike A.2.1) (g := mkF m pc L (.ref a :: st)) rfl rfl (by rw [hby]; exact d1) _ g1, g2⟩
theorem go_iaload {a : Addr} {vs : List Value} {j : Int32} (i : Nat) {v : Value} (K : Cx w R Z n0 own bytes mx rt nm) (H : At1 w T h k n) (d : Dc bytes pc .iaload 1 pc') (A : VA Z h a .int vs) (hj : j.toInt = (i : Int)) (hi : vs[i]? = some v) (G : Go w Q T pc' L (v :: st)) : Go w Q T pc L (.int j :: .ref a :: st) := by
  obtain ⟨p, l, e, R', s, m, args, below, meth, c, Z', k0⟩ := w
  obtain ⟨hx, hby, hml, hown, hZ, -⟩ := K
  obtain ⟨locs, X, eT, N⟩ := H
  obtain ⟨d1, rfl⟩ := d
  obtain ⟨cl, A, r1, r2⟩ := A
  obtain ⟨s₂, o, g1, g2⟩ := G
  exact ⟨s₂, o, X.iaload hx (by rw [eT]; exact A.1) (State.isArrayOf_alike hZ.alike A.2.1) A.2.2 (inb_at r1 hj (lt_of_at hi)) (by rw [(idx_nat hj).2]; exact slot_at r1 hi) (g := mkF m pc L (.int j :: .ref a :: st)) rfl rfl (by rw [hby]; exact d1) _ g1, g2⟩
theorem go_laload {a : Addr} {vs : List Value} {j : Int32} (i : Nat) {v : Value} (K : Cx w R Z n0 own bytes mx rt nm) (H : At1 w T h k n) (d : Dc bytes pc .laload 1 pc') (A : VA Z h a .long vs) (hj : j.toInt = (i : Int)) (hi : vs[i]? = some v) (G : Go w Q T pc' L (v :: st)) : Go w Q T pc L (.int j :: .ref a :: st) := by
  obtain ⟨p, l, e, R', s, m, args, below, meth, c, Z', k0⟩ := w
  obtain ⟨hx, hby, hml, hown, hZ, -⟩ := K
  obtain ⟨locs, X, eT, N⟩ := H
  obtain ⟨d1, rfl⟩ := d
  obtain ⟨cl, A, r1, r2⟩ := A
  obtain ⟨s₂, o, g1, g2⟩ := G
  exact ⟨s₂, o, X.laload hx (by rw [eT]; exact A.1) (State.isArrayOf_alike hZ.alike A.2.1) A.2.2 (inb_at r1 hj (lt_of_at hi)) (by rw [(idx_nat hj).2]; exact slot_at r1 hi) (g := mkF m pc L (.int j :: .ref a :: st)) rfl rfl (by rw [hby]; exact d1) _ g1, g2⟩
theorem go_caload {a : Addr} {vs : List Value} {j : Int32} (i : Nat) {v : Value} (K : Cx w R Z n0 own bytes mx rt nm) (H : At1 w T h k n) (d : Dc bytes pc .caload 1 pc') (A : VA Z h a .char vs) (hj : j.toInt = (i : Int)) (hi : vs[i]? = some v) (G : Go w Q T pc' L (v :: st)) : Go w Q T pc L (.int j :: .ref a :: st) := by
  obtain ⟨p, l, e, R', s, m, args, below, meth, c, Z', k0⟩ := w
  obtain ⟨hx, hby, hml, hown, hZ, -⟩ := K
  obtain ⟨locs, X, eT, N⟩ := H
  obtain ⟨d1, rfl⟩ := d
  obtain ⟨cl, A, r1, r2⟩ := A
  obtain ⟨s₂, o, g1, g2⟩ := G
  exact ⟨s₂, o, X.caload hx (by rw [eT]; exact A.1) (State.isArrayOf_alike hZ.alike A.2.1) A.2.2 (inb_at r1 hj (lt_of_at hi)) (by rw [(idx_nat hj).2]; exact slot_at r1 hi) (g := mkF m pc L (.int j :: .ref a :: st)) rfl rfl (by rw [hby]; exact d1) _ g1, g2⟩
theorem go_baload {a : Addr} {vs : List Value} {j : Int32} (i : Nat) {v : Value} (K : Cx w R Z n0 own bytes mx rt nm) (H : At1 w T h k n) (d : Dc bytes pc .baload 1 pc') (A : VA Z h a .byte vs) (hj : j.toInt = (i : Int)) (hi : vs[i]? = some v) (G : Go w Q T pc' L (v :: st)) : Go w Q T pc L (.int j :: .ref a :: st) := by
  obtain ⟨p, l, e, R', s, m, args, below, meth, c, Z', k0⟩ := w
  obtain ⟨hx, hby, hml, hown, hZ, -⟩ := K
  obtain ⟨locs, X, eT, N⟩ := H
  obtain ⟨d1, rfl⟩ := d
  obtain ⟨cl, A, r1, r2⟩ := A
  obtain ⟨s₂, o, g1, g2⟩ := G
  exact ⟨s₂, o, X.baloadBytes hx (by rw [eT]; exact A.1) (State.isArrayOf_alike hZ.alike A.2.1) A.2.2 (inb_at r1 hj (lt_of_at hi)) (by rw [(idx_nat hj).2]; exact slot_at r1 hi) (g := mkF m pc L (.int j :: .ref a :: st)) rfl rfl (by rw [hby]; exact d1) _ g1, g2⟩
theorem go_aaload {a : Addr} {ty : FieldType} {vs : List Value} {j : Int32} (i : Nat) {v : Value} (K : Cx w R Z n0 own bytes mx rt nm) (H : At1 w T h k n) (d : Dc bytes pc .aaload 1 pc') (A : VA Z h a ty vs) (hty : ty.isReference = true) (hj : j.toInt = (i : Int)) (hi : vs[i]? = some v) (G : Go w Q T pc' L (v :: st)) : Go w Q T pc L (.int j :: .ref a :: st) := by
  obtain ⟨p, l, e, R', s, m, args, below, meth, c, Z', k0⟩ := w
  obtain ⟨hx, hby, hml, hown, hZ, -⟩ := K
  obtain ⟨locs, X, eT, N⟩ := H
  obtain ⟨d1, rfl⟩ := d
  obtain ⟨cl, A, r1, r2⟩ := A
  obtain ⟨s₂, o, g1, g2⟩ := G
  exact ⟨s₂, o, X.aaload hx (by rw [eT]; exact A.1) (State.isArrayOf_alike hZ.alike A.2.1) hty A.2.2 (inb_at r1 hj (lt_of_at hi)) (by rw [(idx_nat hj).2]; exact slot_at r1 hi) (g := mkF m pc L (.int j :: .ref a :: st)) rfl rfl (by rw [hby]; exact d1) _ g1, g2⟩
theorem go_iastore {a : Addr} {vs : List Value} {j : Int32} {x : Int32} (i : Nat) (K : Cx w R Z n0 own bytes mx rt nm) (H : At1 w T h k n) (d : Dc bytes pc .iastore 1 pc') (A : VA Z h a .int vs) (hj : j.toInt = (i : Int)) (hi : i < vs.length) (ha : n0 ≤ a) (G : ∀ T' h', At1 w T' h' k n → Wr h h' a i (.int x) → Go w Q T' pc' L st) : Go w Q T pc L (.int x :: .int j :: .ref a :: st) := by
  obtain ⟨p, l, e, R', s, m, args, below, meth, c, Z', k0⟩ := w
  obtain ⟨hx, hby, hml, hown, hZ, hret, hnm, hlk, rfl, rfl, rfl, h00⟩ := K
  obtain ⟨locs, X, eT, N⟩ := H
  obtain ⟨d1, rfl⟩ := d
  obtain ⟨cl, A, r1, r2⟩ := A
  obtain ⟨T', h', X', e', W, stp⟩ := stI X hx hZ eT A (inb_at r1 hj hi) (g := mkF m pc L (.int x :: .int j :: .ref a :: st)) rfl rfl (by rw [hby]; exact d1)
  obtain ⟨s₂, o, g1, g2⟩ := G T' h' ⟨_, X', e', Fr.snoc X' N ha⟩ (by rw [← (idx_nat hj).2]; exact W)
  exact ⟨s₂, o, stp _ g1, g2⟩
theorem go_lastore {a : Addr} {vs : List Value} {j : Int32} {x : Int64} (i : Nat) (K : Cx w R Z n0 own bytes mx rt nm) (H : At1 w T h k n) (d : Dc bytes pc .lastore 1 pc') (A : VA Z h a .long vs) (hj : j.toInt = (i : Int)) (hi : i < vs.length) (ha : n0 ≤ a) (G : ∀ T' h', At1 w T' h' k n → Wr h h' a i (.long x) → Go w Q T' pc' L st) : Go w Q T pc L (.long x :: .int j :: .ref a :: st) := by
  obtain ⟨p, l, e, R', s, m, args, below, meth, c, Z', k0⟩ := w
  obtain ⟨hx, hby, hml, hown, hZ, hret, hnm, hlk, rfl, rfl, rfl, h00⟩ := K
  obtain ⟨locs, X, eT, N⟩ := H
  obtain ⟨d1, rfl⟩ := d
  obtain ⟨cl, A, r1, r2⟩ := A
  obtain ⟨T', h', X', e', W, stp⟩ := stJ X hx hZ eT A (inb_at r1 hj hi) (g := mkF m pc L (.long x :: .int j :: .ref a :: st)) rfl rfl (by rw [hby]; exact d1)
  obtain ⟨s₂, o, g1, g2⟩ := G T' h' ⟨_, X', e', Fr.snoc X' N ha⟩ (by rw [← (idx_nat hj).2]; exact W)
  exact ⟨s₂, o, stp _ g1, g2⟩
theorem go_castore {a : Addr} {vs : List Value} {j : Int32} {x : Int32} (i : Nat) (K : Cx w R Z n0 own bytes mx rt nm) (H : At1 w T h k n) (d : Dc bytes pc .castore 1 pc') (A : VA Z h a .char vs) (hj : j.toInt = (i : Int)) (hi : i < vs.length) (ha : n0 ≤ a) (G : ∀ T' h', At1 w T' h' k n → Wr h h' a i (.int (nar .char x)) → Go w Q T' pc' L st) : Go w Q T pc L (.int x :: .int j :: .ref a :: st) := by
  obtain ⟨p, l, e, R', s, m, args, below, meth, c, Z', k0⟩ := w
  obtain ⟨hx, hby, hml, hown, hZ, hret, hnm, hlk, rfl, rfl, rfl, h00⟩ := K
  obtain ⟨locs, X, eT, N⟩ := H
  obtain ⟨d1, rfl⟩ := d
  obtain ⟨cl, A, r1, r2⟩ := A
  obtain ⟨T', h', X', e', W, stp⟩ := stC X hx hZ eT A (inb_at r1 hj hi) (g := mkF m pc L (.int x :: .int j :: .ref a :: st)) rfl rfl (by rw [hby]; exact d1)
  obtain ⟨s₂, o, g1, g2⟩ := G T' h' ⟨_, X', e', Fr.snoc X' N ha⟩ (by rw [← (idx_nat hj).2]; exact W)
  exact ⟨s₂, o, stp _ g1, g2⟩
theorem go_bastore {a : Addr} {vs : List Value} {j : Int32} {x : Int32} (i : Nat) (K : Cx w R Z n0 own bytes mx rt nm) (H : At1 w T h k n) (d : Dc bytes pc .bastore 1 pc') (A : VA Z h a .byte vs) (hj : j.toInt = (i : Int)) (hi : i < vs.length) (ha : n0 ≤ a) (G : ∀ T' h', At1 w T' h' k n → Wr h h' a i (.int x.toInt8.toInt32) → Go w Q T' pc' L st) : Go w Q T pc L (.int x :: .int j :: .ref a :: st) := by
  obtain ⟨p, l, e, R', s, m, args, below, meth, c, Z', k0⟩ := w
  obtain ⟨hx, hby, hml, hown, hZ, hret, hnm, hlk, rfl, rfl, rfl, h00⟩ := K
  obtain ⟨locs, X, eT, N⟩ := H
  obtain ⟨d1, rfl⟩ := d
  obtain ⟨cl, A, r1, r2⟩ := A
  obtain ⟨T', h', X', e', W, stp⟩ := stB X hx hZ eT A (inb_at r1 hj hi) (g := mkF m pc L (.int x :: .int j :: .ref a :: st)) rfl rfl (by rw [hby]; exact d1)
  obtain ⟨s₂, o, g1, g2⟩ := G T' h' ⟨_, X', e', Fr.snoc X' N ha⟩ (by rw [← (idx_nat hj).2]; exact W)
  exact ⟨s₂, o, stp _ g1, g2⟩
theorem at_nat {α : Type} {xs : List α} {j : Int32} (h0 : 0 ≤ j.toInt) (h1 : j.toInt < xs.length) : ∃ (i : Nat) (x : α), j.toInt = (i : Int) ∧ xs[i]? = some x :=
  ⟨j.toInt.toNat, _, (Int.toNat_of_nonneg h0).symm, List.getElem?_eq_getElem (by omega)⟩
theorem go_iaI {a : Addr} {xs : List Int32} {j : Int32} (K : Cx w R Z n0 own bytes mx rt nm) (H : At1 w T h k n) (d : Dc bytes pc .iaload 1 pc') (A : IA Z h a xs) (h0 : 0 ≤ j.toInt) (h1 : j.toInt < xs.length) (G : ∀ (i : Nat) (x : Int32), j.toInt = (i : Int) → xs[i]? = some x → Go w Q T pc' L (.int x :: st)) : Go w Q T pc L (.int j :: .ref a :: st) := by
  obtain ⟨i, x, e, hx⟩ := at_nat h0 h1
  exact go_iaload i K H d A e (by rw [List.getElem?_map, hx]; rfl) (G i x e hx)
theorem go_laJ {a : Addr} {xs : List Int64} {j : Int32} (K : Cx w R Z n0 own bytes mx rt nm) (H : At1 w T h k n) (d : Dc bytes pc .laload 1 pc') (A : JA Z h a xs) (h0 : 0 ≤ j.toInt) (h1 : j.toInt < xs.length) (G : ∀ (i : Nat) (x : Int64), j.toInt = (i : Int) → xs[i]? = some x → Go w Q T pc' L (.long x :: st)) : Go w Q T pc L (.int j :: .ref a :: st) := by
  obtain ⟨i, x, e, hx⟩ := at_nat h0 h1
  exact go_laload i K H d A e (by rw [List.getElem?_map, hx]; rfl) (G i x e hx)
theorem go_iasI {a : Addr} {xs : List Int32} {j x : Int32} (K : Cx w R Z n0 own bytes mx rt nm) (H : At1 w T h k n) (d : Dc bytes pc .iastore 1 pc') (A : IA Z h a xs) (h0 : 0 ≤ j.toInt) (h1 : j.toInt < xs.length) (ha : n0 ≤ a) (G : ∀ T' h' (i : Nat), At1 w T' h' k n → j.toInt = (i : Int) → Wr h h' a i (.int x) → IA Z h' a (xs.set i x) → Go w Q T' pc' L st) : Go w Q T pc L (.int x :: .int j :: .ref a :: st) := by
  have e : j.toInt = (j.toInt.toNat : Int) := (Int.toNat_of_nonneg h0).symm
  exact go_iastore j.toInt.toNat K H d A e (by rw [List.length_map]; omega) ha fun T' h' H' W => G T' h' _ H' e W (IA.set A W)
theorem go_lasJ {a : Addr} {xs : List Int64} {j : Int32} {x : Int64} (K : Cx w R Z n0 own bytes mx rt nm) (H : At1 w T h k n) (d : Dc bytes pc .lastore 1 pc') (A : JA Z h a xs) (h0 : 0 ≤ j.toInt) (h1 : j.toInt < xs.length) (ha : n0 ≤ a) (G : ∀ T' h' (i : Nat), At1 w T' h' k n → j.toInt = (i : Int) → Wr h h' a i (.long x) → JA Z h' a (xs.set i x) → Go w Q T' pc' L st) : Go w Q T pc L (.long x :: .int j :: .ref a :: st) := by
  have e : j.toInt = (j.toInt.toNat : Int) := (Int.toNat_of_nonneg h0).symm
  exact go_lastore j.toInt.toNat K H d A e (by rw [List.length_map]; omega) ha fun T' h' H' W => G T' h' _ H' e W (JA.set A W)
/-- an array of references over C: all its components -/
def OA (Z : State) (h : Heap) (a : Addr) (C : String) (vs : List Value) : Prop := ∃ c : Cell, Arr Z h a c (.object C) ∧ c.slots.toList = vs ∧ vs.length < 2 ^ 31 ∧ Ovr Z c.cls C
theorem OA.va {a : Addr} {C : String} {vs : List Value} (A : OA Z h a C vs) : VA Z h a (.object C) vs := by obtain ⟨c, A, r1, r2, -⟩ := A; exact ⟨c, A, r1, r2⟩
theorem OA.ext {a : Addr} {C : String} {vs : List Value} {h' : Heap} (A : OA Z h a C vs) (E : Ext h h') : OA Z h' a C vs := by obtain ⟨c, A, r⟩ := A; exact ⟨c, A.ext E, r⟩
theorem OA.other {a b : Addr} {C : String} {vs : List Value} {h' : Heap} {sl : Nat} {v : Value} (A : OA Z h a C vs) (W : Wr h h' b sl v) (q : a ≠ b) : OA Z h' a C vs := by obtain ⟨c, A, r⟩ := A; exact ⟨c, A.other W q, r⟩
theorem OA.keep {a : Addr} {C : String} {vs : List Value} {h' : Heap} {ws : List Addr} (A : OA Z h a C vs) (K : Keep h h' ws) (q : a ∉ ws) : OA Z h' a C vs := by obtain ⟨c, A, r⟩ := A; exact ⟨c, ⟨K.2.1 a c A.1 q, A.2⟩, r⟩
theorem OA.lt {a : Addr} {C : String} {vs : List Value} (A : OA Z h a C vs) : a < h.size := A.va.lt
theorem OA.set {a : Addr} {C : String} {vs : List Value} {h' : Heap} {i : Nat} {v : Value} (A : OA Z h a C vs) (W : Wr h h' a i v) : OA Z h' a C (vs.set i v) := by
  obtain ⟨c, A, r1, r2, r3⟩ := A
  exact ⟨_, A.same W, by simp [Cell.setSlot, r1], by simpa using r2, r3⟩
theorem go_anewarray {a0 : Array Value} {C : String} {idx : Nat} {m : Int32} (cap : Nat) (K : Cx w R Z n0 own bytes mx rt nm) (H : At1 w T h k n) (d : Dc bytes pc (.anewarray idx) 3 pc') (w1 : (Cond.classLink own idx C).before a0 Z = true) (w2 : (Cond.arrayOver (.object C)).before a0 Z = true) (hm : ¬ m < 0) (hcap : m.toNatClampNeg ≤ cap) (hb : cap * 8 ≤ 536870912) (hk : k + 1 ≤ R.cells) (hn : n + cap ≤ R.slots)
    (G : ∀ T' h' a, At1 w T' h' (k + 1) (n + cap) → a = h.size → n0 ≤ a → Ext h h' → OA Z h' a C (List.replicate m.toNatClampNeg .null) → Go w Q T' pc' L (.ref a :: st)) : Go w Q T pc L (.int m :: st) := by
  obtain ⟨p, l, e, R', s, mm, args, below, meth, c, Z', k0⟩ := w
  obtain ⟨hx, hby, hml, hown, hZ, hret, hnm, hlk, rfl, rfl, rfl, h00⟩ := K
  obtain ⟨locs, X, eT, N⟩ := H
  obtain ⟨d1, rfl⟩ := d
  obtain ⟨T', h', cA, X', e', E, A, O, stp⟩ := newR X hx hZ hown w1 w2 eT (g := mkF mm pc L (.int m :: st)) rfl (by rw [hby]; exact d1) rfl hm hcap hb hk hn
  obtain ⟨s₂, o, g1, g2⟩ := G T' h' h.size ⟨_, X', e', N⟩ rfl (by rw [← eT]; exact Nat.le_trans h00 X.same.2.1) E ⟨_, A, by simp [newA, defaultValue], by simpa using (back32 hm).2, O⟩
  exact ⟨s₂, o, stp _ g1, g2⟩
theorem go_aastore {a : Addr} {C : String} {vs : List Value} {j : Int32} {v : Value} (i : Nat) (K : Cx w R Z n0 own bytes mx rt nm) (H : At1 w T h k n) (d : Dc bytes pc .aastore 1 pc') (A : OA Z h a C vs) (hv : v = .null ∨ ∃ y, v = .ref y ∧ Ins Z h y C true) (hj : j.toInt = (i : Int)) (hi : i < vs.length) (ha : n0 ≤ a) (G : ∀ T' h', At1 w T' h' k n → Wr h h' a i v → OA Z h' a C (vs.set i v) → Go w Q T' pc' L st) : Go w Q T pc L (v :: .int j :: .ref a :: st) := by
  obtain ⟨p, l, e, R', s, m, args, below, meth, c, Z', k0⟩ := w
  obtain ⟨hx, hby, hml, hown, hZ, hret, hnm, hlk, rfl, rfl, rfl, h00⟩ := K
  obtain ⟨locs, X, eT, N⟩ := H
  obtain ⟨d1, rfl⟩ := d
  have A' := A
  obtain ⟨cl, A, r1, r2, r3⟩ := A
  have S : Sto Z' h a v := by
    rcases hv with rfl | ⟨y, rfl, I⟩
    · exact Or.inl rfl
    · exact Sto.of A r3 I
  obtain ⟨T', h', X', e', W, stp⟩ := stR X hx hZ eT A (inb_at r1 hj hi) rfl S (g := mkF m pc L (v :: .int j :: .ref a :: st)) rfl rfl (by rw [hby]; exact d1)
  have W' : Wr h h' a i v := by rw [← (idx_nat hj).2]; exact W
  obtain ⟨s₂, o, g1, g2⟩ := G T' h' ⟨_, X', e', Fr.snoc X' N ha⟩ W' (A'.set W')
  exact ⟨s₂, o, stp _ g1, g2⟩
theorem go_checkcast {a0 : Array Value} {C : String} {idx : Nat} {a : Addr} (K : Cx w R Z n0 own bytes mx rt nm) (H : At1 w T h k n) (d : Dc bytes pc (.checkcast idx) 3 pc') (w1 : (Cond.classLink own idx C).before a0 Z = true) (F : Ins Z h a C true)
    (G : ∀ T', At1 w T' h k n → Go w Q T' pc' L (.ref a :: st)) : Go w Q T pc L (.ref a :: st) := by
  obtain ⟨p, l, e, R', s, m, args, below, meth, c, Z', k0⟩ := w
  obtain ⟨hx, hby, hml, hown, hZ, -⟩ := K
  obtain ⟨locs, X, eT, N⟩ := H
  obtain ⟨d1, rfl⟩ := d
  obtain ⟨T', X', e', stp⟩ := castY X hx hZ hown w1 eT F (g := mkF m pc L (.ref a :: st)) rfl rfl (by rw [hby]; exact d1)
  obtain ⟨s₂, o, g1, g2⟩ := G T' ⟨locs, X', e', N⟩
  exact ⟨s₂, o, stp _ g1, g2⟩
theorem go_instY {a0 : Array Value} {C : String} {idx : Nat} {a : Addr} (K : Cx w R Z n0 own bytes mx rt nm) (H : At1 w T h k n) (d : Dc bytes pc (.instanceof idx) 3 pc') (w1 : (Cond.classLink own idx C).before a0 Z = true) (F : Ins Z h a C true)
    (G : ∀ T', At1 w T' h k n → Go w Q T' pc' L (.int 1 :: st)) : Go w Q T pc L (.ref a :: st) := by
  obtain ⟨p, l, e, R', s, m, args, below, meth, c, Z', k0⟩ := w
  obtain ⟨hx, hby, hml, hown, hZ, -⟩ := K
  obtain ⟨locs, X, eT, N⟩ := H
  obtain ⟨d1, rfl⟩ := d
  obtain ⟨T', X', e', stp⟩ := instY X hx hZ hown w1 eT F (g := mkF m pc L (.ref a :: st)) rfl rfl (by rw [hby]; exact d1)
  obtain ⟨s₂, o, g1, g2⟩ := G T' ⟨locs, X', e', N⟩
  exact ⟨s₂, o, stp _ g1, g2⟩
theorem eqI_v {t : Term} {z : Int32} {args : Array Value} {s : State} (h : (Cond.eq t (.int z)).value args s none s [] = some true) : t.eval args s none [] s = some (.int z) := by
  obtain ⟨x, y, h1, h2, k1, k2⟩ := cmp_v (Or.inl h)
  cases (Term.int_eval z).symm.trans h2
  obtain ⟨q, rfl⟩ := k2
  rw [h1, gotT (Cond.eq_ints h1 h2) h]
theorem len_size {t : Term} {z : Int32} {a : Addr} {c : Cell} {args : Array Value} {s : State} (h : (Term.length t).eval args s none [] s = some (.int z)) (ht : t.eval args s none [] s = some (.ref a)) (hc : s.heap[a]? = some c) : (c.slots.size : Int) = z.toInt := by
  obtain ⟨a', c', e1, e2, e3⟩ := Term.length_spec h
  cases ht.symm.trans e1
  cases hc.symm.trans (State.arrayAt?_spec e2).1
  by_cases q : c.slots.size < 2 ^ 31
  · cases e3; exact (len_toInt q).symm
  · simp [Term.eval, ht, e2, q] at h
theorem elem_val {t : Term} {z : Int32} {a : Addr} {c : Cell} {args : Array Value} {s : State} {j : Int32} (h : (Term.elem t (.int j)).eval args s none [] s = some (.int z)) (ht : t.eval args s none [] s = some (.ref a)) (hc : s.heap[a]? = some c) : c.slots[j.toNatClampNeg]? = some (.int z) := (elem_in h ht (Term.int_eval j) hc).2
theorem go_instNull {idx : Nat} (K : Cx w R Z n0 own bytes mx rt nm) (H : At1 w T h k n) (d : Dc bytes pc (.instanceof idx) 3 pc') (G : Go w Q T pc' L (.int 0 :: st)) : Go w Q T pc L (.null :: st) := by
  obtain ⟨p, l, e, R', s, m, args, below, meth, c, Z', k0⟩ := w
  obtain ⟨hx, hby, -⟩ := K
  obtain ⟨locs, X, eT, N⟩ := H
  obtain ⟨d1, rfl⟩ := d
  obtain ⟨s₂, o, g1, g2⟩ := G
  exact ⟨s₂, o, X.instanceofNull hx (g := mkF m pc L (.null :: st)) rfl rfl (by rw [hby]; exact d1) _ g1, g2⟩
theorem go_instNo {a0 : Array Value} {C C' : String} {idx : Nat} {a : Addr} (K : Cx w R Z n0 own bytes mx rt nm) (H : At1 w T h k n) (d : Dc bytes pc (.instanceof idx) 3 pc') (w1 : (Cond.classLink own idx C).before a0 Z = true) (E : Exa Z h a C') (F : ∃ c t, Z.vm.findClass C' = some c ∧ Z.vm.findClass C = some t ∧ Z.vm.assignable c t = false)
    (G : ∀ T', At1 w T' h k n → Go w Q T' pc' L (.int 0 :: st)) : Go w Q T pc L (.ref a :: st) := by
  obtain ⟨p, l, e, R', s, m, args, below, meth, c, Z', k0⟩ := w
  obtain ⟨hx, hby, hml, hown, hZ, -⟩ := K
  obtain ⟨locs, X, eT, N⟩ := H
  obtain ⟨d1, rfl⟩ := d
  obtain ⟨T', X', e', stp⟩ := instNo X hx hZ hown w1 eT E F (g := mkF m pc L (.ref a :: st)) rfl rfl (by rw [hby]; exact d1)
  obtain ⟨s₂, o, g1, g2⟩ := G T' ⟨locs, X', e', N⟩
  exact ⟨s₂, o, stp _ g1, g2⟩
theorem ns_root {a0 : Array Value} {O C : String} {j : Nat} (w1 : (Cond.noSuperclass O).before a0 Z = true) (wk : (Cond.instantiable C j).before a0 Z = true) (hn : O ≠ C) : NS Z O C := by
  obtain ⟨c, k, h1, h2, h3, -, -⟩ := Cond.noSuperclass_spec w1
  obtain ⟨t, kt, g1, -⟩ := Cond.instantiable_spec wk
  have ne := ids_ne h1 g1 hn
  refine ⟨c, t, h1, g1, fun fuel => ?_⟩
  cases fuel with
  | zero => rfl
  | succ f => simp [Vm.isSubclassAux, ne, h2, h3]
theorem ns_no {a0 : Array Value} {C S C' : String} {j : Nat} (w1 : (Cond.superclass C S).before a0 Z = true) (wk : (Cond.instantiable C' j).before a0 Z = true) (n : NS Z C C') (hn : C ≠ C') : ∃ c t, Z.vm.findClass C = some c ∧ Z.vm.findClass C' = some t ∧ Z.vm.assignable c t = false := by
  obtain ⟨c, t, h0, g0, n3⟩ := n
  obtain ⟨p, k, kp, h1, h2, h3, h4, h5, -, h7⟩ := Cond.superclass_spec h0 w1
  obtain ⟨q, k', g1, g2, g3, g4, -⟩ := Cond.instantiable_spec wk
  cases g0.symm.trans g1
  have ne := ids_ne h0 g0 hn
  refine ⟨c, _, h0, g0, ?_⟩
  show Z.vm.assignableAux (255 + 1) c _ = false
  simp [Vm.assignableAux, ne, h2, g2, h5, g3, (Bool.or_eq_false_iff.mp g4).1, Vm.isSubclass, n3]
theorem VA.arv {a : Addr} {ty : FieldType} {vs : List Value} (A : VA Z h a ty vs) (dv : Value) (hf : ∀ v ∈ vs, fits ty v = true) : ∃ cid, Arv Z h a cid ty (Nat.toInt32 vs.length) vs dv := by
  obtain ⟨c, A, r1, r2⟩ := A
  have hs : c.slots.size = vs.length := by rw [← r1]; simp
  have hn : (Nat.toInt32 vs.length).toNatClampNeg = vs.length := by simp only [Int32.toNatClampNeg, len_toInt r2]; rfl
  refine ⟨c.cls, c, A, rfl, by rw [hn, hs], ?_, fun i hi => ?_, fun i hi => ?_⟩
  · rw [Int32.lt_iff_toInt_lt, len_toInt r2]; show ¬ ((vs.length : Int) < 0); omega
  · rw [hs] at hi
    rw [← Array.getElem?_toList, r1, List.getD_eq_getElem?_getD, List.getElem?_eq_getElem hi]; rfl
  · rw [hs] at hi
    rw [List.getD_eq_getElem?_getD, List.getElem?_eq_getElem hi]; exact hf _ (List.getElem_mem hi)
theorem VA.of_arr {a : Addr} {ty : FieldType} {c : Cell} {vs : List Value} (A : Arr Z h a c ty) (hs : c.slots.size = vs.length) (hl : vs.length < 2 ^ 31) (he : ∀ i, i < vs.length → c.slots[i]? = vs[i]?) : VA Z h a ty vs := by
  refine ⟨c, A, List.ext_getElem? fun i => ?_, hl⟩
  rw [Array.getElem?_toList]
  by_cases q : i < vs.length
  · exact he i q
  · rw [List.getElem?_eq_none (by omega), Array.getElem?_eq_none (by omega)]
theorem VA.of_arv {a : Addr} {ty : FieldType} {cid : ClassId} {z : Int32} {vs : List Value} {dv : Value} (A : Arv Z h a cid ty z vs dv) (hl : vs.length = z.toNatClampNeg) (hz : vs.length < 2 ^ 31) : VA Z h a ty vs := by
  obtain ⟨c, A, -, hs, -, H, -⟩ := A
  refine VA.of_arr A (by rw [hs, hl]) hz fun i hi => ?_
  rw [H i (by rw [hs, ← hl]; exact hi), List.getD_eq_getElem?_getD, List.getElem?_eq_getElem hi]; rfl
theorem go_copyI {a0 : Array Value} {idx : Nat} {a b : Addr} {xs ys : List Int32} {sp dp nn : Int32} (i j l : Nat) (K : Cx w R Z n0 own bytes mx rt nm) (H : At1 w T h k n) (d : Dc bytes pc (.invokestatic idx) 3 pc') (w1 : (Cond.methodLink own idx Jvm.Stand.acN).before a0 Z = true) (w2 : (Cond.native Jvm.Stand.acN).before a0 Z = true) (w3 : (Cond.static Jvm.Stand.acN).before a0 Z = true) (w4 : (Cond.initialized "java/lang/System").before a0 Z = true)
    (A : IA Z h a xs) (B : IA Z h b ys) (e1 : sp.toInt = (i : Int)) (e2 : dp.toInt = (j : Int)) (e3 : nn.toInt = (l : Int)) (b1 : i + l ≤ xs.length) (b2 : j + l ≤ ys.length) (ge : n0 ≤ b) (hL : L.size = mx) (hf : 1 ≤ R.frames) {W : Nat} (hW : (st.map fun v => v.category).sum = W) (hl : W + (nativeFrameWords "java/lang/System" "arraycopy" 5 + 11) ≤ R.locals)
    (G : ∀ T' h', At1 w T' h' k n → Keep h h' [b] → IA Z h' b (ys.take j ++ (xs.drop i).take l ++ ys.drop (j + l)) → Go w Q T' pc' L st) : Go w Q T pc L (.int nn :: .int dp :: .ref b :: .int sp :: .ref a :: st) := by
  obtain ⟨p, l', e, R', s, m, args, below, meth, c, Z', k0⟩ := w
  obtain ⟨hx, hby, hml, hown, hZ, hret, hnm, hlk, rfl, rfl, rfl, h00⟩ := K
  obtain ⟨locs, X, eT, N⟩ := H
  obtain ⟨d1, rfl⟩ := d
  have ft : ∀ (zs : List Int32), ∀ v ∈ zs.map Value.int, fits .int v = true := fun zs v hv => by obtain ⟨y, -, rfl⟩ := List.mem_map.mp hv; rfl
  have la := A.len
  have lb := B.len
  obtain ⟨ca, VA1⟩ := VA.arv A (.int 0) (ft xs)
  obtain ⟨cb, VB1⟩ := VA.arv B (.int 0) (ft ys)
  have la' : (Nat.toInt32 (xs.map Value.int).length).toNatClampNeg = xs.length := by simp only [List.length_map, Int32.toNatClampNeg, len_toInt la]; rfl
  have lb' : (Nat.toInt32 (ys.map Value.int).length).toNatClampNeg = ys.length := by simp only [List.length_map, Int32.toNatClampNeg, len_toInt lb]; rfl
  have hus : ((xs.drop i).take l).map Value.int = (List.range nn.toNatClampNeg).map fun q => (xs.map Value.int).getD (sp.toNatClampNeg + q) (.int 0) := by
    rw [(idx_nat e3).2, (idx_nat e1).2]
    apply List.ext_getElem?
    intro q
    rw [List.getElem?_map, List.getElem?_map]
    by_cases hq : q < l
    · rw [List.getElem?_take_of_lt hq, List.getElem?_drop, List.getElem?_range hq, List.getElem?_eq_getElem (show i + q < xs.length by omega)]
      simp [List.getD_eq_getElem?_getD, List.getElem?_eq_getElem (show i + q < xs.length by omega)]
    · rw [List.getElem?_eq_none (by simp; omega), List.getElem?_eq_none (by simp; omega)]; rfl
  obtain ⟨T', h', L2, X', e', N', K', B', stp⟩ := cpA X hx hZ hown w1 w2 w3 w4 eT VA1 VB1 (Or.inl ⟨rfl, rfl⟩) (idx_nat e1).1 (idx_nat e2).1 (idx_nat e3).1 (by rw [(idx_nat e1).2, (idx_nat e3).2, la']; exact b1) (by rw [(idx_nat e2).2, (idx_nat e3).2, lb']; exact b2) hus (by rw [(idx_nat e2).2, (idx_nat e3).2, List.length_map]; exact b2) N ge (g := mkF m pc L (.int nn :: .int dp :: .ref b :: .int sp :: .ref a :: st)) rfl (hL.trans hml.symm) rfl (by rw [hby]; exact d1) hf (W := W) (by show 2 * 0 + _ ≤ _; rw [hW]; omega) hl
  rw [(idx_nat e2).2, (idx_nat e3).2] at B'
  have B2 : IA Z' h' b (ys.take j ++ (xs.drop i).take l ++ ys.drop (j + l)) := by
    have q := VA.of_arv B' (by rw [lb']; simp; omega) (by simp; omega)
    rw [← List.map_take, ← List.map_drop, ← List.map_append, ← List.map_append] at q
    exact q
  obtain ⟨s₂, o, g1, g2⟩ := G T' h' ⟨_, X', e', N'⟩ K' B2
  exact ⟨s₂, o, stp _ g1, g2⟩
theorem f_iadd {v x y : Int32} (e : v = x + y) : (v.toInt - (x.toInt + y.toInt)) % 4294967296 = 0 := e ▸ c_iadd x y
theorem f_isub {v x y : Int32} (e : v = x - y) : (v.toInt - (x.toInt - y.toInt)) % 4294967296 = 0 := e ▸ c_isub x y
theorem f_imul {v x y : Int32} (e : v = x * y) : (v.toInt - (x.toInt * y.toInt)) % 4294967296 = 0 := e ▸ c_imul x y
theorem f_ineg {v x : Int32} (e : v = -x) : (v.toInt - (-x.toInt)) % 4294967296 = 0 := e ▸ c_ineg x
theorem f_ladd {v x y : Int64} (e : v = x + y) : (v.toInt - (x.toInt + y.toInt)) % 18446744073709551616 = 0 := e ▸ c_ladd x y
theorem f_lsub {v x y : Int64} (e : v = x - y) : (v.toInt - (x.toInt - y.toInt)) % 18446744073709551616 = 0 := e ▸ c_lsub x y
theorem f_lmul {v x y : Int64} (e : v = x * y) : (v.toInt - (x.toInt * y.toInt)) % 18446744073709551616 = 0 := e ▸ c_lmul x y
theorem f_lneg {v x : Int64} (e : v = -x) : (v.toInt - (-x.toInt)) % 18446744073709551616 = 0 := e ▸ c_lneg x
theorem f_l2i {v : Int32} {x : Int64} (e : v = x.toInt32) : (v.toInt - x.toInt) % 4294967296 = 0 := e ▸ c_l2i x
theorem f_i2l {v : Int64} {x : Int32} (e : v = x.toInt64) : v.toInt = x.toInt := e ▸ c_i2l x
theorem f_i2b {v x : Int32} (e : v = x.toInt8.toInt32) : (v.toInt - x.toInt) % 256 = 0 ∧ -128 ≤ v.toInt ∧ v.toInt < 128 := e ▸ c_i2b x
theorem f_i2s {v x : Int32} (e : v = x.toInt16.toInt32) : (v.toInt - x.toInt) % 65536 = 0 ∧ -32768 ≤ v.toInt ∧ v.toInt < 32768 := e ▸ c_i2s x
theorem f_i2c {v x : Int32} (e : v = x.toUInt32.toUInt16.toUInt32.toInt32) : (v.toInt - x.toInt) % 65536 = 0 ∧ 0 ≤ v.toInt ∧ v.toInt < 65536 := e ▸ c_i2c x
theorem f_mask {v x m : Int32} (M : Nat) (k : Nat) (e : v = x &&& m) (hk : k ≤ 31) (hm : m.toBitVec.toNat = 2 ^ k - 1) (hM : 2 ^ k = M) : v.toInt = x.toInt % (M : Nat) := by rw [e, ← hM]; exact c_mask x m k hk hm
theorem f_maskL {v x m : Int64} (M : Nat) (k : Nat) (e : v = x &&& m) (hk : k ≤ 63) (hm : m.toBitVec.toNat = 2 ^ k - 1) (hM : 2 ^ k = M) : v.toInt = x.toInt % (M : Nat) := by rw [e, ← hM]; exact c_maskL x m k hk hm
theorem f_ishr {v x q : Int32} (M : Nat) (k : Nat) (e : v = x >>> (q &&& 31)) (hk : q.toBitVec.toNat % 32 = k) (hM : 2 ^ k = M) : v.toInt = x.toInt / (M : Nat) := by rw [e, ← hM]; exact c_ishr x q k hk
theorem f_ishl {v x q : Int32} (M : Nat) (k : Nat) (e : v = x <<< (q &&& 31)) (hk : q.toBitVec.toNat % 32 = k) (hM : 2 ^ k = M) : (v.toInt - x.toInt * (M : Nat)) % 4294967296 = 0 := by rw [e, ← hM]; exact c_ishl x q k hk
theorem f_iushr {v x q : Int32} (M : Nat) (k : Nat) (e : v = iU x q) (hk : q.toBitVec.toNat % 32 = k) (h0 : 0 < k) (hM : 2 ^ k = M) : v.toInt = (x.toInt % 4294967296) / (M : Nat) := by rw [e, ← hM]; exact c_iushr x q k hk h0
theorem f_lshr {v x : Int64} {q : Int32} (M : Nat) (k : Nat) (e : v = x >>> (q &&& 0x3f).toInt64) (hk : q.toBitVec.toNat % 64 = k) (hM : 2 ^ k = M) : v.toInt = x.toInt / (M : Nat) := by rw [e, ← hM]; exact c_lshr x q k hk
theorem f_lshl {v x : Int64} {q : Int32} (M : Nat) (k : Nat) (e : v = x <<< (q &&& 0x3f).toInt64) (hk : q.toBitVec.toNat % 64 = k) (hM : 2 ^ k = M) : (v.toInt - x.toInt * (M : Nat)) % 18446744073709551616 = 0 := by rw [e, ← hM]; exact c_lshl x q k hk
theorem f_lushr {v x : Int64} {q : Int32} (M : Nat) (k : Nat) (e : v = lU x q) (hk : q.toBitVec.toNat % 64 = k) (h0 : 0 < k) (hM : 2 ^ k = M) : v.toInt = (x.toInt % 18446744073709551616) / (M : Nat) := by rw [e, ← hM]; exact c_lushr x q k hk h0
theorem f_idiv {v x y : Int32} (d : Int) (e : v = x / y) (hy : y.toInt = d) (hd : y ≠ -1) : (0 ≤ x.toInt → v.toInt = x.toInt / d) ∧ (x.toInt < 0 → v.toInt = -((-x.toInt) / d)) := e ▸ c_idiv x y d hy hd
theorem f_irem {v x y : Int32} (d : Int) (e : v = x % y) (hy : y.toInt = d) : (0 ≤ x.toInt → v.toInt = x.toInt % d) ∧ (x.toInt < 0 → v.toInt = -((-x.toInt) % d)) := e ▸ c_irem x y d hy
theorem f_ldiv {v x y : Int64} (d : Int) (e : v = x / y) (hy : y.toInt = d) (hd : y ≠ -1) : (0 ≤ x.toInt → v.toInt = x.toInt / d) ∧ (x.toInt < 0 → v.toInt = -((-x.toInt) / d)) := e ▸ c_ldiv x y d hy hd
theorem f_lrem {v x y : Int64} (d : Int) (e : v = x - (x / y) * y) (hy : y.toInt = d) : (0 ≤ x.toInt → v.toInt = x.toInt % d) ∧ (x.toInt < 0 → v.toInt = -((-x.toInt) % d)) := e ▸ c_lrem x y d hy
theorem f_lcmp {v : Int32} {x y : Int64} (e : v = lcmpW x y) : (x.toInt < y.toInt → v.toInt = -1) ∧ (x.toInt = y.toInt → v.toInt = 0) ∧ (y.toInt < x.toInt → v.toInt = 1) := e ▸ c_lcmp x y
def bI (p : Prop) [Decidable p] : Int32 := if p then 1 else 0
theorem bI_t {p : Prop} [Decidable p] (h : p) : bI p = 1 := if_pos h
theorem bI_f {p : Prop} [Decidable p] (h : ¬ p) : bI p = 0 := if_neg h
theorem bI_nar {p : Prop} [Decidable p] : nar .boolean (bI p) = bI p := by unfold bI; split <;> decide
theorem bI_iff {p q : Prop} [Decidable p] [Decidable q] (h : p ↔ q) : bI p = bI q := by simp [bI, h]
theorem bI_eq0 {p : Prop} [Decidable p] : bI p = 0 ↔ ¬ p := by unfold bI; split <;> simp_all
theorem bI_eq1 {p : Prop} [Decidable p] : bI p = 1 ↔ p := by unfold bI; split <;> simp_all
theorem cat_ref {v : Value} (h : v.isRef = true) : v.category = 1 := by cases v <;> first | rfl | cases h
theorem bI_inj {p q : Prop} [Decidable p] [Decidable q] : bI p = bI q ↔ (p ↔ q) := by unfold bI; split <;> split <;> simp_all
theorem bI_ne0 {p : Prop} [Decidable p] : ¬ bI p = 0 ↔ p := by unfold bI; split <;> simp_all
theorem go_lookupHit (K : Cx w R Z n0 own bytes mx rt nm) (H : At1 w T h k n) {x : Int32} {df b off : Int} {ps : Array (Int × Int)} {q yes : Nat} (d : Dc bytes pc (.lookupswitch df ps) q pc') (hs : (ps.toList.zip (ps.toList.drop 1)).all (fun (a, next) => a.1 < next.1) = true) (hf : ps.find? (·.1 == x.toInt) = some (b, off)) (hy0 : 0 ≤ (pc : Int) + off) (hy : ((pc : Int) + off).toNat = yes)
    (G1 : Go w Q T yes L st) : Go w Q T pc L (.int x :: st) := by
  obtain ⟨p, l, e, R', s, m, args, below, meth, c, Z', k0⟩ := w
  obtain ⟨hx, hby, -⟩ := K
  obtain ⟨locs, X, -⟩ := H
  subst hy
  obtain ⟨s₂, o, g1, g2⟩ := G1
  exact ⟨s₂, o, X.lookupswitchHit hx (g := mkF m pc L (.int x :: st)) rfl rfl (by rw [hby]; exact d.1) hs hf hy0 _ g1, g2⟩
theorem go_lookup (K : Cx w R Z n0 own bytes mx rt nm) (H : At1 w T h k n) {x : Int32} {df off : Int} {ps : Array (Int × Int)} {q yes no : Nat} (d : Dc bytes pc (.lookupswitch df ps) q pc') (hs : (ps.toList.zip (ps.toList.drop 1)).all (fun (a, next) => a.1 < next.1) = true) (hall : ∀ p ∈ ps.toList, p.2 = off) (hy0 : 0 ≤ (pc : Int) + off) (hy : ((pc : Int) + off).toNat = yes) (hn0 : 0 ≤ (pc : Int) + df) (hn : ((pc : Int) + df).toNat = no)
    (G1 : x.toInt ∈ ps.toList.map (·.1) → Go w Q T yes L st) (G2 : x.toInt ∉ ps.toList.map (·.1) → Go w Q T no L st) : Go w Q T pc L (.int x :: st) := by
  obtain ⟨p, l, e, R', s, m, args, below, meth, c, Z', k0⟩ := w
  obtain ⟨hx, hby, -⟩ := K
  obtain ⟨locs, X, -⟩ := H
  subst hy hn
  cases hf : ps.find? (·.1 == x.toInt) with
  | none =>
    have : x.toInt ∉ ps.toList.map (·.1) := by
      intro hm
      obtain ⟨a, ha, e⟩ := List.mem_map.mp hm
      have := Array.find?_eq_none.mp hf a (Array.mem_toList_iff.mp ha)
      simp [e] at this
    obtain ⟨s₂, o, g1, g2⟩ := G2 this
    exact ⟨s₂, o, X.lookupswitchMiss hx (g := mkF m pc L (.int x :: st)) rfl rfl (by rw [hby]; exact d.1) hs hf hn0 _ g1, g2⟩
  | some a =>
    obtain ⟨b, off'⟩ := a
    have hm := Array.mem_toList_iff.mpr (Array.mem_of_find?_eq_some hf)
    have hb : b = x.toInt := by simpa using Array.find?_some hf
    obtain rfl : off' = off := hall _ hm
    obtain ⟨s₂, o, g1, g2⟩ := G1 (List.mem_map.mpr ⟨_, hm, hb⟩)
    exact ⟨s₂, o, X.lookupswitchHit hx (g := mkF m pc L (.int x :: st)) rfl rfl (by rw [hby]; exact d.1) hs hf hy0 _ g1, g2⟩
theorem con_back {l : Launch} {p : Program} {e : Env} {s : State} {args : Array Value} {below : List Frame} {a0 : Array Value} {y : MethodName} {yb : ByteArray} {ym : Nat} {yr : Option FieldType} {rm : Room} {as' : Array Value} {P : Option Value → Heap → Prop} {len W : Nat}
    (C : Con l Z y yb ym yr rm as' h n0 P) (hZ : Z.Warmed39 s.vm) (wc : (Cond.code y yb ym yr).before a0 Z = true) (wz : (Cond.initialized y.cls).before a0 Z = true) (hf : rm.frames + 1 ≤ R.frames) (hl : W + (ym + 11) + rm.locals ≤ R.locals) :
    Back l R p e below s args y len W (fun A a => a = as' ∧ A.U.heap = h ∧ A.cells + rm.cells ≤ R.cells ∧ A.slots + rm.slots ≤ R.slots)
      (fun A _ v B => ∃ Lc, (P v B.U.heap ∧ Fr n0 Lc) ∧ B.locs = A.locs ++ Lc ∧ B.cells = A.cells + rm.cells ∧ B.slots = A.slots + rm.slots) :=
  backOf (Q := fun v hh Lc => P v hh ∧ Fr n0 Lc) (C []) hZ wc wz hf hl
theorem at_size (K : Cx w R Z n0 own bytes mx rt nm) (H : At1 w T h k n) : n0 ≤ h.size := by
  obtain ⟨p, l, e, R', s, m, args, below, meth, c, Z', k0⟩ := w
  obtain ⟨hx, hby, hml, hown, hZ, hret, hnm, hlk, rfl, rfl, rfl, h00⟩ := K
  obtain ⟨locs, X, eT, N⟩ := H
  rw [← eT]; exact Nat.le_trans h00 X.same.2.1
theorem go_callS {a0 : Array Value} {idx : Nat} {y : MethodName} {yb : ByteArray} {ym : Nat} {yr : Option FieldType} {rm : Room} {P : Option Value → Heap → Prop} {ps : List FieldType} {rr : Option FieldType} (argsL : List Value)
    (K : Cx w R Z n0 own bytes mx rt nm) (H : At1 w T h k n) (d : Dc bytes pc (.invokestatic idx) 3 pc') (w1 : (Cond.methodLink own idx y).before a0 Z = true) (w2 : (Cond.static y).before a0 Z = true) (w3 : (Cond.initialized y.cls).before a0 Z = true) (w4 : (Cond.code y yb ym yr).before a0 Z = true)
    (hy : y.cls ≠ "java/lang/invoke/MethodHandle" ∧ y.cls ≠ "java/lang/invoke/VarHandle") (C : ∀ l, Con l Z y yb ym yr rm argsL.toArray h n0 P) (hd : parseMethodDescriptor y.desc = some ⟨ps, rr⟩) (hlen : argsL.length = ps.length) (hs : st = argsL.reverse ++ st')
    (hL : L.size = mx) (hf : rm.frames + 1 ≤ R.frames) {W : Nat} (hW : (st'.map fun v => v.category).sum = W) (hl : W + (ym + 11) + rm.locals ≤ R.locals) (hk : k + rm.cells ≤ R.cells) (hn : n + rm.slots ≤ R.slots)
    (G : ∀ T' h' v, At1 w T' h' (k + rm.cells) (n + rm.slots) → P v h' → Go w Q T' pc' L (v.toList ++ st')) : Go w Q T pc L st := by
  obtain ⟨p, l, e, R', s, m, args, below, meth, c, Z', k0⟩ := w
  obtain ⟨hx, hby, hml, hown, hZ, hret, hnm, hlk, rfl, rfl, rfl, h00⟩ := K
  obtain ⟨locs, X, eT, N⟩ := H
  obtain ⟨d1, rfl⟩ := d
  obtain ⟨v, vm₁, ⟨T', L1, k1, n1⟩, -, X', ⟨Lc, ⟨hQ, N'⟩, l1, y1, z1⟩, stp⟩ := Jvm.LawKit.callS X hx (y := y) hown (mvT hZ w1) (mvT hZ w2) (mvT hZ w3) (mvT hZ w4) hy (con_back (W := W) (C l) hZ w4 w3 hf hl) (g := mkF m pc L st) rfl (hL.trans hml.symm) (argsL := argsL) (rest := st') (lenOf hd hlen) hs (by show 2 * 0 + _ ≤ _; rw [hW]; omega) (by rw [hby]; exact d1) (fun _ _ => ⟨rfl, eT, hk, hn⟩)
  dsimp only [Pt.U, Pt.locs, Pt.cells, Pt.slots] at X' l1 y1 z1 stp hQ
  subst l1 y1 z1
  obtain ⟨s₂, o, g1, g2⟩ := G T' T'.heap v ⟨_, X', rfl, Fr.app N N'⟩ hQ
  exact ⟨s₂, o, stp _ g1, g2⟩
theorem go_callI {a0 : Array Value} {idx : Nat} {y : MethodName} {yb : ByteArray} {ym : Nat} {rm : Room} {P : Option Value → Heap → Prop} {ps : List FieldType} {rr : Option FieldType} {a : Addr} (argsL : List Value)
    (K : Cx w R Z n0 own bytes mx rt nm) (H : At1 w T h k n) (d : Dc bytes pc (.invokespecial idx) 3 pc') (hy1 : y.name = "<init>") (w1 : (Cond.methodLink own idx y).before a0 Z = true) (w2 : (Cond.instanceMethod y).before a0 Z = true) (w3 : (Cond.initialized y.cls).before a0 Z = true) (w4 : (Cond.code y yb ym none).before a0 Z = true)
    (hy : y.cls ≠ "java/lang/invoke/MethodHandle" ∧ y.cls ≠ "java/lang/invoke/VarHandle") (C : ∀ l, Con l Z y yb ym none rm (.ref a :: argsL).toArray h n0 P) (hd : parseMethodDescriptor y.desc = some ⟨ps, rr⟩) (hlen : argsL.length = ps.length) (hs : st = argsL.reverse ++ .ref a :: st')
    (hL : L.size = mx) (hf : rm.frames + 1 ≤ R.frames) {W : Nat} (hW : (st'.map fun v => v.category).sum = W) (hl : W + (ym + 11) + rm.locals ≤ R.locals) (hk : k + rm.cells ≤ R.cells) (hn : n + rm.slots ≤ R.slots)
    (G : ∀ T' h' v, At1 w T' h' (k + rm.cells) (n + rm.slots) → P v h' → Go w Q T' pc' L (v.toList ++ st')) : Go w Q T pc L st := by
  obtain ⟨p, l, e, R', s, m, args, below, meth, c, Z', k0⟩ := w
  obtain ⟨hx, hby, hml, hown, hZ, hret, hnm, hlk, rfl, rfl, rfl, h00⟩ := K
  obtain ⟨locs, X, eT, N⟩ := H
  obtain ⟨d1, rfl⟩ := d
  obtain ⟨v, vm₁, ⟨T', L1, k1, n1⟩, -, X', ⟨Lc, ⟨hQ, N'⟩, l1, y1, z1⟩, stp⟩ := X.specialBack hx (y := y) hy1 hown (mvT hZ w1) (mvT hZ w2) (mvT hZ w4) hy (con_back (W := W) (C l) hZ w4 w3 hf hl) (g := mkF m pc L st) rfl (hL.trans hml.symm) (Steps.refl _) (a := a) (argsL := argsL) (rest := st') (lenOf hd hlen) hs (by show 2 * 0 + _ ≤ _; rw [hW]; omega) (by rw [hby]; exact d1) (fun _ _ => ⟨rfl, eT, hk, hn⟩)
  dsimp only [Pt.U, Pt.locs, Pt.cells, Pt.slots] at X' l1 y1 z1 stp hQ
  subst l1 y1 z1
  obtain ⟨s₂, o, g1, g2⟩ := G T' T'.heap v ⟨_, X', rfl, Fr.app N N'⟩ hQ
  exact ⟨s₂, o, stp.trans g1, g2⟩
theorem go_callV {a0 : Array Value} {idx : Nat} {y z : MethodName} {yb : ByteArray} {ym : Nat} {yr : Option FieldType} {rm : Room} {P : Option Value → Heap → Prop} {ps : List FieldType} {rr : Option FieldType} {a : Addr} {CC : String} (argsL : List Value)
    (K : Cx w R Z n0 own bytes mx rt nm) (H : At1 w T h k n) (d : Dc bytes pc (.invokevirtual idx) 3 pc') (E : Exa Z h a CC) (w1 : (Cond.methodLink own idx y).before a0 Z = true) (wd : (Cond.declares y).before a0 Z = true) (hnf : ∀ s : State, Z.Warmed39 s.vm → NotFace s y) (ws : (Cond.selects CC y z).before a0 Z = true) (w2 : (Cond.instanceMethod z).before a0 Z = true) (w3 : (Cond.initialized z.cls).before a0 Z = true) (w4 : (Cond.code z yb ym yr).before a0 Z = true)
    (hy : y.cls ≠ "java/lang/invoke/MethodHandle" ∧ y.cls ≠ "java/lang/invoke/VarHandle") (C : ∀ l, Con l Z z yb ym yr rm (.ref a :: argsL).toArray h n0 P) (hd : parseMethodDescriptor y.desc = some ⟨ps, rr⟩) (hlen : argsL.length = ps.length) (hs : st = argsL.reverse ++ .ref a :: st')
    (hL : L.size = mx) (hf : rm.frames + 1 ≤ R.frames) {W : Nat} (hW : (st'.map fun v => v.category).sum = W) (hl : W + (ym + 11) + rm.locals ≤ R.locals) (hk : k + rm.cells ≤ R.cells) (hn : n + rm.slots ≤ R.slots)
    (G : ∀ T' h' v, At1 w T' h' (k + rm.cells) (n + rm.slots) → P v h' → Go w Q T' pc' L (v.toList ++ st')) : Go w Q T pc L st := by
  obtain ⟨p, l, e, R', s, m, args, below, meth, c, Z', k0⟩ := w
  obtain ⟨hx, hby, hml, hown, hZ, hret, hnm, hlk, rfl, rfl, rfl, h00⟩ := K
  obtain ⟨locs, X, eT, N⟩ := H
  obtain ⟨d1, rfl⟩ := d
  obtain ⟨cq, kq, q1, q2, q3⟩ := isOf hZ eT E
  obtain ⟨v, vm₁, ⟨T', L1, k1, n1⟩, -, X', ⟨Lc, ⟨hQ, N'⟩, l1, y1, z1⟩, stp⟩ := X.virtualBack hx (y := y) (z := z) hown (mvT hZ w1) (mvT hZ wd) (hnf s hZ) (mvT hZ ws) (mvT hZ w2) hy (con_back (W := W) (C l) hZ w4 w3 hf hl) q1 q3 (g := mkF m pc L st) rfl (hL.trans hml.symm) (Steps.refl _) (argsL := argsL) (rest := st') (lenOf hd hlen) hs (by show 2 * 0 + _ ≤ _; rw [hW]; omega) (by rw [hby]; exact d1) (fun _ _ => ⟨rfl, eT, hk, hn⟩)
  dsimp only [Pt.U, Pt.locs, Pt.cells, Pt.slots] at X' l1 y1 z1 stp hQ
  subst l1 y1 z1
  obtain ⟨s₂, o, g1, g2⟩ := G T' T'.heap v ⟨_, X', rfl, Fr.app N N'⟩ hQ
  exact ⟨s₂, o, stp.trans g1, g2⟩
theorem go_callP {a0 : Array Value} {idx : Nat} {y : MethodName} {yb : ByteArray} {ym : Nat} {yr : Option FieldType} {rm : Room} {P : Option Value → Heap → Prop} {ps : List FieldType} {rr : Option FieldType} {a : Addr} {CC : String} (argsL : List Value)
    (K : Cx w R Z n0 own bytes mx rt nm) (H : At1 w T h k n) (d : Dc bytes pc (.invokevirtual idx) 3 pc') (E : Exa Z h a CC) (w1 : (Cond.methodLink own idx y).before a0 Z = true) (w2 : (Cond.instanceMethod y).before a0 Z = true) (ws : (Cond.selects y.cls y y).before a0 Z = true) (wp : (Cond.privateMethod y).before a0 Z = true) (w3 : (Cond.initialized y.cls).before a0 Z = true) (w4 : (Cond.code y yb ym yr).before a0 Z = true)
    (hy : y.cls ≠ "java/lang/invoke/MethodHandle" ∧ y.cls ≠ "java/lang/invoke/VarHandle") (C : ∀ l, Con l Z y yb ym yr rm (.ref a :: argsL).toArray h n0 P) (hd : parseMethodDescriptor y.desc = some ⟨ps, rr⟩) (hlen : argsL.length = ps.length) (hs : st = argsL.reverse ++ .ref a :: st')
    (hL : L.size = mx) (hf : rm.frames + 1 ≤ R.frames) {W : Nat} (hW : (st'.map fun v => v.category).sum = W) (hl : W + (ym + 11) + rm.locals ≤ R.locals) (hk : k + rm.cells ≤ R.cells) (hn : n + rm.slots ≤ R.slots)
    (G : ∀ T' h' v, At1 w T' h' (k + rm.cells) (n + rm.slots) → P v h' → Go w Q T' pc' L (v.toList ++ st')) : Go w Q T pc L st := by
  obtain ⟨p, l, e, R', s, m, args, below, meth, c, Z', k0⟩ := w
  obtain ⟨hx, hby, hml, hown, hZ, hret, hnm, hlk, rfl, rfl, rfl, h00⟩ := K
  obtain ⟨locs, X, eT, N⟩ := H
  obtain ⟨d1, rfl⟩ := d
  obtain ⟨cq, q1, q2⟩ := E.cell
  obtain ⟨v, vm₁, ⟨T', L1, k1, n1⟩, -, X', ⟨Lc, ⟨hQ, N'⟩, l1, y1, z1⟩, stp⟩ := X.privateBack hx (y := y) hown (mvT hZ w1) (mvT hZ w2) (mvT hZ ws) (Cond.privateMethod_at (mvP hZ wp (args := #[]))) (mvT hZ w4) hy (con_back (W := W) (C l) hZ w4 w3 hf hl) (g := mkF m pc L st) rfl (hL.trans hml.symm) (Steps.refl _) (a := a) (by rw [eT]; exact q1) q2 (argsL := argsL) (rest := st') (lenOf hd hlen) hs (by show 2 * 0 + _ ≤ _; rw [hW]; omega) (by rw [hby]; exact d1) (fun _ _ => ⟨rfl, eT, hk, hn⟩)
  dsimp only [Pt.U, Pt.locs, Pt.cells, Pt.slots] at X' l1 y1 z1 stp hQ
  subst l1 y1 z1
  obtain ⟨s₂, o, g1, g2⟩ := G T' T'.heap v ⟨_, X', rfl, Fr.app N N'⟩ hQ
  exact ⟨s₂, o, stp.trans g1, g2⟩
theorem go_callF {a0 : Array Value} {idx cnt : Nat} {y z : MethodName} {yb : ByteArray} {ym : Nat} {yr : Option FieldType} {rm : Room} {P : Option Value → Heap → Prop} {ps : List FieldType} {rr : Option FieldType} {a : Addr} {CC : String} (argsL : List Value)
    (K : Cx w R Z n0 own bytes mx rt nm) (H : At1 w T h k n) (d : Dc bytes pc (.invokeinterface idx cnt) 5 pc') (E : Exa Z h a CC) (w1 : (Cond.methodLink own idx y).before a0 Z = true) (wd : (Cond.declares y).before a0 Z = true) (wf : (Cond.interfaceMethod y.cls y.cls y.name y.desc).before a0 Z = true) (ws : (Cond.selects CC y z).before a0 Z = true) (w2 : (Cond.instanceMethod z).before a0 Z = true) (wp : (Cond.publicMethod z).before a0 Z = true) (wu : (Cond.unhidden CC y.name y.desc).before a0 Z = true) (wc : (Cond.castable CC y.cls).before a0 Z = true) (w3 : (Cond.initialized z.cls).before a0 Z = true) (w4 : (Cond.code z yb ym yr).before a0 Z = true)
    (hy : y.cls ≠ "java/lang/invoke/MethodHandle" ∧ y.cls ≠ "java/lang/invoke/VarHandle") (C : ∀ l, Con l Z z yb ym yr rm (.ref a :: argsL).toArray h n0 P) (hd : parseMethodDescriptor y.desc = some ⟨ps, rr⟩) (hlen : argsL.length = ps.length) (hs : st = argsL.reverse ++ .ref a :: st')
    (hL : L.size = mx) (hf : rm.frames + 1 ≤ R.frames) {W : Nat} (hW : (st'.map fun v => v.category).sum = W) (hl : W + (ym + 11) + rm.locals ≤ R.locals) (hk : k + rm.cells ≤ R.cells) (hn : n + rm.slots ≤ R.slots)
    (G : ∀ T' h' v, At1 w T' h' (k + rm.cells) (n + rm.slots) → P v h' → Go w Q T' pc' L (v.toList ++ st')) : Go w Q T pc L st := by
  obtain ⟨p, l, e, R', s, m, args, below, meth, c, Z', k0⟩ := w
  obtain ⟨hx, hby, hml, hown, hZ, hret, hnm, hlk, rfl, rfl, rfl, h00⟩ := K
  obtain ⟨locs, X, eT, N⟩ := H
  obtain ⟨d1, rfl⟩ := d
  obtain ⟨cq, kq, q1, q2, q3⟩ := isOf hZ eT E
  obtain ⟨v, vm₁, ⟨T', L1, k1, n1⟩, -, X', ⟨Lc, ⟨hQ, N'⟩, l1, y1, z1⟩, stp⟩ := X.interfaceBack hx (xi := y) (y := z) hown (mvT hZ w1) (mvT hZ wd) (mvT hZ wf (by simp [Cond.onTables, Cond.keepsFace, Cond.keeps, Cond.steady, Cond.faceAtom, hy.1, hy.2])) (mvT hZ ws) (mvT hZ w2) (mvT hZ wp) (mvT hZ wu) (mvT hZ wc) hy (con_back (W := W) (C l) hZ w4 w3 hf hl) q1 q2 q3 (g := mkF m pc L st) rfl (hL.trans hml.symm) (Steps.refl _) (argsL := argsL) (rest := st') (lenOf hd hlen) hs (by show 2 * 0 + _ ≤ _; rw [hW]; omega) (by rw [hby]; exact d1) (fun _ _ => ⟨rfl, eT, hk, hn⟩)
  dsimp only [Pt.U, Pt.locs, Pt.cells, Pt.slots] at X' l1 y1 z1 stp hQ
  subst l1 y1 z1
  obtain ⟨s₂, o, g1, g2⟩ := G T' T'.heap v ⟨_, X', rfl, Fr.app N N'⟩ hQ
  exact ⟨s₂, o, stp.trans g1, g2⟩
theorem ref_at {a0 a1 : Array Value} {U : State} {idx : Nat} {y : MethodName} (hU : Z.Warmed39 U.vm) (hy : y.cls ≠ "java/lang/invoke/MethodHandle" ∧ y.cls ≠ "java/lang/invoke/VarHandle") (w2 : (Cond.instanceMethod y).before a0 Z = true) (w1 : (Cond.methodRef own idx y).before a0 Z = true) : (Cond.methodRef own idx y).before a1 U = true := by
  obtain ⟨mk, _, hn, -⟩ := Cond.instanceMethod_spec w2
  have q := Cond.methodRef_warmed39 hU hn hy w1
  simp only [Cond.before, Cond.holds, Cond.value] at q ⊢
  exact q
theorem go_callIR {a0 : Array Value} {idx : Nat} {y : MethodName} {yb : ByteArray} {ym : Nat} {rm : Room} {P : Option Value → Heap → Prop} {ps : List FieldType} {rr : Option FieldType} {a : Addr} (argsL : List Value)
    (K : Cx w R Z n0 own bytes mx rt nm) (H : At1 w T h k n) (d : Dc bytes pc (.invokespecial idx) 3 pc') (hy1 : y.name = "<init>") (w1 : (Cond.methodRef own idx y).before a0 Z = true) (w2 : (Cond.instanceMethod y).before a0 Z = true) (w3 : (Cond.initialized y.cls).before a0 Z = true) (w4 : (Cond.code y yb ym none).before a0 Z = true)
    (hy : y.cls ≠ "java/lang/invoke/MethodHandle" ∧ y.cls ≠ "java/lang/invoke/VarHandle") (C : ∀ l, Con l Z y yb ym none rm (.ref a :: argsL).toArray h n0 P) (hd : parseMethodDescriptor y.desc = some ⟨ps, rr⟩) (hlen : argsL.length = ps.length) (hs : st = argsL.reverse ++ .ref a :: st')
    (hL : L.size = mx) (hf : rm.frames + 1 ≤ R.frames) {W : Nat} (hW : (st'.map fun v => v.category).sum = W) (hl : W + (ym + 11) + rm.locals ≤ R.locals) (hk : k + rm.cells ≤ R.cells) (hn : n + rm.slots ≤ R.slots)
    (G : ∀ T' h' v, At1 w T' h' (k + rm.cells) (n + rm.slots) → P v h' → Go w Q T' pc' L (v.toList ++ st')) : Go w Q T pc L st := by
  obtain ⟨p, l, e, R', s, m, args, below, meth, c, Z', k0⟩ := w
  obtain ⟨hx, hby, hml, hown, hZ, hret, hnm, hlk, rfl, rfl, rfl, h00⟩ := K
  obtain ⟨locs, X, eT, N⟩ := H
  obtain ⟨d1, rfl⟩ := d
  have S : SCall p l e R' s m args below meth c idx y := SCall.of_ready hx hy1 (mvT hZ w2) (mvT hZ w4) (fun U r hU hnr => by
    have hA := hU.alike
    have hUZ : Z'.Warmed39 U.vm := wtrans hZ hU
    have hnU : U.methodNamed? y = some r := by
      have q : (s.setVm U.vm).methodNamed? y = some r := by rw [State.methodNamed?_setVm hA]; exact hnr
      exact q
    have hoU : U.vm.findClass own = some m.cls := by rw [hA.findClass]; exact hown
    obtain ⟨m', c', e1, e2, e3, e4⟩ := Cond.methodRef_named (first := U) (o := none) (idx := []) (args := args) e hoU (ref_at hUZ hy w2 w1)
    have e5 : U.methodFound? y.cls y.name y.desc = some r := State.methodFound?_of_named hnU hy
    cases e1.symm.trans e5
    cases e3.symm.trans (findClass_of_methodNamed hnU)
    exact ⟨e4, e2⟩)
  obtain ⟨v, vm₁, ⟨T', L1, k1, n1⟩, -, X', ⟨Lc, ⟨hQ, N'⟩, l1, y1, z1⟩, stp⟩ := S X (con_back (W := W) (C l) hZ w4 w3 hf hl) (g := mkF m pc L st) rfl (hL.trans hml.symm) (Steps.refl _) (a := a) (argsL := argsL) (rest := st') (lenOf hd hlen) hs (by show 2 * 0 + _ ≤ _; rw [hW]; omega) (by rw [hby]; exact d1) (fun _ _ => ⟨rfl, eT, hk, hn⟩)
  dsimp only [Pt.U, Pt.locs, Pt.cells, Pt.slots] at X' l1 y1 z1 stp hQ
  subst l1 y1 z1
  obtain ⟨s₂, o, g1, g2⟩ := G T' T'.heap v ⟨_, X', rfl, Fr.app N N'⟩ hQ
  exact ⟨s₂, o, stp.trans g1, g2⟩
theorem sel_priv {a0 : Array Value} {y : MethodName} {j : Nat} (wi : (Cond.instantiable y.cls j).before a0 Z = true) (wp : (Cond.privateMethod y).before a0 Z = true) (w2 : (Cond.instanceMethod y).before a0 Z = true) (hy : y.cls ≠ "java/lang/invoke/MethodHandle" ∧ y.cls ≠ "java/lang/invoke/VarHandle") : (Cond.selects y.cls y y).before a0 Z = true := by
  obtain ⟨c, k, h1, h2, h3, h4, -⟩ := Cond.instantiable_spec wi
  exact selects_self_of_private h1 h2 (Bool.or_eq_false_iff.mp h4).1 (Cond.privateMethod_at wp) w2 hy
theorem nf_sel {a0 : Array Value} {CC : String} {y : MethodName} (ws : (Cond.selects CC y y).before a0 Z = true) : ∀ s : State, Z.Warmed39 s.vm → NotFace s y := fun s hZ => notFace_of_selects (args := #[]) (mvT hZ ws)
theorem go_nret (K : Cx w R Z n0 own bytes mx rt nm) (H : At1 w T h k n) {P : Int32 → Heap → Prop} {z : Int32} {t : FieldType} (d : Dc bytes pc .ireturn 1 pc') (hr : rt = some t) (ht : t = .byte ∨ t = .char) (hz : nar t z = z) (hk : k ≤ R.cells) (hn : n ≤ R.slots) (hq : P z h) : Go w (Fn w (RI P)) T pc L (.int z :: st) :=
  go_retV K H d hr (by rcases ht with rfl | rfl; (show Value.int (nar .byte z) = _; rw [hz]); (show Value.int (nar .char z) = _; rw [hz])) (Or.inl ⟨rfl, by rcases ht with rfl | rfl; exact Or.inr (Or.inr (Or.inl rfl)); exact Or.inr (Or.inr (Or.inr (Or.inl rfl))), z, rfl⟩) hk hn ⟨z, rfl, hq⟩
theorem nf_cls {y y' : MethodName} (hc : y'.cls = y.cls) {a0 : Array Value} (wd : (Cond.declares y).before a0 Z = true) (hnf : ∀ s : State, Z.Warmed39 s.vm → NotFace s y) : ∀ s : State, Z.Warmed39 s.vm → NotFace s y' := fun s hZ r h => by
  obtain ⟨r0, r1, hn, -⟩ := Cond.declares_spec (mvT hZ wd (args := #[]))
  obtain ⟨k, hk, hi⟩ := hnf s hZ r0 hn
  have e1 := findClass_of_methodNamed hn
  have e2 := findClass_of_methodNamed h
  rw [hc] at e2
  rw [show r.cls = r0.cls from Option.some.inj (e2.symm.trans e1)]
  exact ⟨k, hk, hi⟩
def oN (n : Nat) : Int32 := Int32.ofNat n
theorem oN_toInt {n : Nat} (h : n < 2 ^ 31) : (oN n).toInt = (n : Int) := Int32.toInt_ofNat_of_lt h
theorem oN_inj {a b : Nat} (ha : a < 2 ^ 31) (hb : b < 2 ^ 31) : oN a = oN b ↔ a = b := by
  rw [← Int32.toInt_inj, oN_toInt ha, oN_toInt hb]; omega
theorem oN_lt {a b : Nat} (ha : a < 2 ^ 31) (hb : b < 2 ^ 31) : oN a < oN b ↔ a < b := by
  rw [Int32.lt_iff_toInt_lt, oN_toInt ha, oN_toInt hb]; omega
theorem oN_eq {v : Int32} {n : Nat} (h : n < 2 ^ 31) (e : v.toInt = (n : Int)) : v = oN n := Int32.toInt_inj.mp (e.trans (oN_toInt h).symm)
theorem oN_add (a b : Nat) : oN a + oN b = oN (a + b) := by
  show Int32.ofNat a + Int32.ofNat b = Int32.ofNat (a + b)
  exact (Int32.ofNat_add a b).symm
theorem oN_sub {a b : Nat} (h : b ≤ a) : oN a - oN b = oN (a - b) := by
  have q := oN_add (a - b) b
  rw [Nat.sub_add_cancel h] at q
  rw [← q, Int32.add_sub_cancel]
theorem oN_bv {n : Nat} (h : n < 2 ^ 31) : (oN n).toBitVec.toNat = n := by
  show (BitVec.ofNat 32 n).toNat = n
  rw [BitVec.toNat_ofNat]; exact Nat.mod_eq_of_lt (by omega)
theorem oN_of_bv {v : Int32} {n : Nat} (h : v.toBitVec.toNat = n) : v = oN n := by
  apply Int32.toBitVec_inj.mp
  apply BitVec.eq_of_toNat_eq
  show _ = (BitVec.ofNat 32 n).toNat
  rw [BitVec.toNat_ofNat, ← h]; exact (Nat.mod_eq_of_lt (by have := v.toBitVec.isLt; omega)).symm
theorem oN_and (a b : Nat) (ha : a < 2 ^ 31) (hb : b < 2 ^ 31) : oN a &&& oN b = oN (a &&& b) := by
  apply oN_of_bv
  rw [Int32.toBitVec_and, BitVec.toNat_and, oN_bv ha, oN_bv hb]
theorem oN_or (a b : Nat) (ha : a < 2 ^ 31) (hb : b < 2 ^ 31) : oN a ||| oN b = oN (a ||| b) := by
  apply oN_of_bv
  rw [Int32.toBitVec_or, BitVec.toNat_or, oN_bv ha, oN_bv hb]
def bv (b : Nat) : Int32 := Int32.ofInt (if b < 128 then (b : Int) else (b : Int) - 256)
theorem bv_toInt {b : Nat} (h : b < 256) : (bv b).toInt = if b < 128 then (b : Int) else (b : Int) - 256 := by
  unfold bv
  exact Int32.toInt_ofInt_of_le (by split <;> omega) (by split <;> omega)
theorem bv_of {v : Int32} {b : Nat} (h : b < 256) (e : (v.toInt - b) % 256 = 0) (h1 : -128 ≤ v.toInt) (h2 : v.toInt < 128) : v = bv b := by
  apply Int32.toInt_inj.mp
  rw [bv_toInt h]
  split <;> omega
def enc (cd : Nat) (L : List Nat) : List Nat := if cd = 0 then L else L.flatMap fun c => [c % 256, c / 256]
theorem enc0 (L : List Nat) : enc 0 L = L := rfl
theorem enc1 (L : List Nat) : enc 1 L = L.flatMap fun c => [c % 256, c / 256] := rfl
theorem enc1_nil : enc 1 [] = [] := rfl
theorem enc1_cons (c : Nat) (L : List Nat) : enc 1 (c :: L) = c % 256 :: c / 256 :: enc 1 L := by simp [enc]
theorem enc_app (cd : Nat) (L M : List Nat) : enc cd (L ++ M) = enc cd L ++ enc cd M := by
  unfold enc; split <;> simp
theorem enc1_len (L : List Nat) : (enc 1 L).length = 2 * L.length := by
  induction L with
  | nil => rfl
  | cons c L ih => rw [enc1_cons]; simp only [List.length_cons, ih]; omega
theorem enc_len {cd : Nat} (h : cd = 0 ∨ cd = 1) (L : List Nat) : (enc cd L).length = L.length * (cd + 1) := by
  rcases h with rfl | rfl
  · rw [enc0]; omega
  · rw [enc1_len]; omega
theorem enc1_at {L : List Nat} {i c : Nat} (h : L[i]? = some c) : (enc 1 L)[2 * i]? = some (c % 256) ∧ (enc 1 L)[2 * i + 1]? = some (c / 256) := by
  induction L generalizing i with
  | nil => simp at h
  | cons d L ih =>
    rw [enc1_cons]
    cases i with
    | zero => simp at h; subst h; simp
    | succ i =>
      have := ih (i := i) (by simpa using h)
      rw [show 2 * (i + 1) = 2 * i + 1 + 1 by omega]
      simpa using this
theorem enc_lt {cd : Nat} {L : List Nat} (h : ∀ c ∈ L, c < 65536) (h0 : cd = 0 → ∀ c ∈ L, c < 256) : ∀ b ∈ enc cd L, b < 256 := by
  by_cases e : cd = 0
  · subst e; exact h0 rfl
  · intro b hb
    unfold enc at hb
    rw [if_neg e] at hb
    obtain ⟨c, hc, hb⟩ := List.mem_flatMap.mp hb
    have := h c hc
    simp only [List.mem_cons, List.not_mem_nil, or_false] at hb
    rcases hb with rfl | rfl <;> omega
/-- a Latin-1 text laid wide -/
theorem wide_set {L js : List Nat} {c : Nat} (hc : c < 65536) (hj : 2 ≤ js.length) : ((enc 1 L ++ js).set (2 * L.length) (c % 256)).set (2 * L.length + 1) (c / 256) = enc 1 (L ++ [c]) ++ js.drop 2 := by
  match js, hj with
  | a :: b :: js, _ =>
    rw [enc_app, show enc 1 [c] = [c % 256, c / 256] from rfl]
    have e := enc1_len L
    rw [List.set_append_right _ _ (by omega), List.set_append_right _ _ (by omega)]
    rw [show 2 * L.length - (enc 1 L).length = 0 by omega, show 2 * L.length + 1 - (enc 1 L).length = 1 by omega]
    simp
theorem thin_set {L js : List Nat} {c : Nat} (hj : 1 ≤ js.length) : (L ++ js).set L.length c = (L ++ [c]) ++ js.drop 1 := by
  match js, hj with
  | a :: js, _ =>
    rw [List.set_append_right _ _ (by omega), Nat.sub_self]
    simp
def hexd (d : Nat) : Nat := if d < 10 then 48 + d else 87 + d
def ctl (c : Nat) : Prop := c < 32 ∨ (127 ≤ c ∧ c < 160) ∨ c = 8232 ∨ c = 8233
instance (c : Nat) : Decidable (ctl c) := by unfold ctl; infer_instance
def esc (c : Nat) : List Nat :=
  if c = 34 ∨ c = 92 then [92, c] else if c = 9 then [92, 116] else if c = 10 then [92, 110] else if c = 13 then [92, 114]
  else if ctl c then [92, 117, hexd (c / 4096), hexd (c / 256 % 16), hexd (c / 16 % 16), hexd (c % 16)] else [c]
theorem hexd_lt {d : Nat} (h : d < 16) : hexd d < 128 := by unfold hexd; split <;> omega
theorem esc_len (c : Nat) : (esc c).length ≤ 6 := by
  unfold esc
  (repeat' split) <;> simp
theorem esc_pos (c : Nat) : 1 ≤ (esc c).length := by
  unfold esc
  (repeat' split) <;> simp
theorem esc_lt {c : Nat} (h : c < 65536) : ∀ x ∈ esc c, x < 65536 := by
  intro x hx
  have q : ∀ d, d < 16 → hexd d < 65536 := fun d hd => Nat.lt_trans (hexd_lt hd) (by decide)
  unfold esc at hx
  repeat' split at hx
  all_goals simp only [List.mem_cons, List.not_mem_nil, or_false] at hx
  · rcases hx with rfl | rfl <;> omega
  · rcases hx with rfl | rfl <;> omega
  · rcases hx with rfl | rfl <;> omega
  · rcases hx with rfl | rfl <;> omega
  · rcases hx with rfl | rfl | rfl | rfl | rfl | rfl <;> first | omega | exact q _ (by omega)
  · rw [hx]; exact h
theorem all_app {P : Nat → Prop} {L M : List Nat} (h : ∀ c ∈ L, P c) (g : ∀ c ∈ M, P c) : ∀ c ∈ L ++ M, P c := fun c hc => by
  rcases List.mem_append.mp hc with q | q
  · exact h c q
  · exact g c q

theorem oN_nat {n : Nat} (h : n < 2 ^ 31) : ¬ oN n < 0 ∧ (oN n).toNatClampNeg = n := idx_nat (oN_toInt h)
theorem oN_shr {a k : Nat} (ha : a < 2 ^ 31) (hk : k < 32) : oN a >>> (oN k &&& 31) = oN (a / 2 ^ k) := by
  have q := f_ishr (v := oN a >>> (oN k &&& 31)) (x := oN a) (q := oN k) (2 ^ k) k rfl (by rw [oN_bv (by omega)]; exact Nat.mod_eq_of_lt hk) rfl
  rw [oN_toInt ha] at q
  exact oN_eq (Nat.lt_of_le_of_lt (Nat.div_le_self _ _) ha) (by rw [q]; exact (Int.natCast_ediv a (2 ^ k)).symm)
theorem oN_shl {a k : Nat} (hk : k < 32) (ha : a * 2 ^ k < 2 ^ 31) : oN a <<< (oN k &&& 31) = oN (a * 2 ^ k) := by
  have a31 : a < 2 ^ 31 := Nat.lt_of_le_of_lt (Nat.le_mul_of_pos_right a (Nat.two_pow_pos k)) ha
  have q := f_ishl (v := oN a <<< (oN k &&& 31)) (x := oN a) (q := oN k) (2 ^ k) k rfl (by rw [oN_bv (by omega)]; exact Nat.mod_eq_of_lt hk) rfl
  have r := rng32 (oN a <<< (oN k &&& 31))
  rw [oN_toInt a31, ← Int.natCast_mul] at q
  generalize a * 2 ^ k = m at q ha
  exact oN_eq ha (by omega)
theorem bv_and {b : Nat} (h : b < 256) : bv b &&& 255 = oN b := by
  have q := f_mask (v := bv b &&& 255) (x := bv b) (m := 255) 256 8 rfl (by decide) (by decide) (by decide)
  rw [bv_toInt h] at q
  exact oN_eq (by omega) (by rw [q]; split <;> omega)
theorem or_hi {b0 b1 : Nat} (h0 : b0 < 256) (h1 : b1 < 256) : oN b0 ||| oN (b1 * 256) = oN (b0 + 256 * b1) := by
  rw [oN_or _ _ (by omega) (by omega)]
  have q := Nat.two_pow_add_eq_or_of_lt (i := 8) (show b0 < 2 ^ 8 from h0) b1
  congr 1
  rw [Nat.or_comm, Nat.mul_comm b1 256]
  have e : (2 : Nat) ^ 8 = 256 := by decide
  rw [e] at q
  omega
theorem narC {c : Nat} (h : c < 65536) : nar .char (oN c) = oN c := by
  have q := f_i2c (v := nar .char (oN c)) (x := oN c) rfl
  rw [oN_toInt (by omega)] at q
  exact oN_eq (by omega) (by omega)
theorem i2cN {c : Nat} (h : c < 65536) : (oN c).toUInt32.toUInt16.toUInt32.toInt32 = oN c := narC h
def bV (b : Nat) : Value := .int (bv b)
def cV (c : Nat) : Value := .int (oN c)
theorem bV0 : bV 0 = Value.int 0 := congrArg Value.int (by decide)
theorem fitB {b : Nat} (h : b < 256) : fits .byte (bV b) = true := by
  have q := bv_toInt h
  have q1 : (-128 : Int32) ≤ bv b := by rw [Int32.le_iff_toInt_le, q]; show (-128 : Int) ≤ _; split <;> omega
  have q2 : bv b ≤ (127 : Int32) := by rw [Int32.le_iff_toInt_le, q]; show _ ≤ (127 : Int); split <;> omega
  simp [fits, bV, q1, q2]
/-- a byte[]: its bytes, each 0 to 255 -/
def BA (Z : State) (h : Heap) (a : Addr) (bs : List Nat) : Prop := VA Z h a .byte (bs.map bV) ∧ ∀ b ∈ bs, b < 256
/-- a char[] -/
def CA (Z : State) (h : Heap) (a : Addr) (cs : List Nat) : Prop := VA Z h a .char (cs.map cV) ∧ ∀ c ∈ cs, c < 65536
theorem BA.ext {a : Addr} {bs : List Nat} {h' : Heap} (A : BA Z h a bs) (E : Ext h h') : BA Z h' a bs := ⟨A.1.ext E, A.2⟩
theorem BA.other {a b : Addr} {bs : List Nat} {h' : Heap} {sl : Nat} {v : Value} (A : BA Z h a bs) (W : Wr h h' b sl v) (q : a ≠ b) : BA Z h' a bs := ⟨A.1.other W q, A.2⟩
theorem BA.keep {a : Addr} {bs : List Nat} {h' : Heap} {ws : List Addr} (A : BA Z h a bs) (K : Keep h h' ws) (q : a ∉ ws) : BA Z h' a bs := ⟨A.1.keep K q, A.2⟩
theorem BA.lt {a : Addr} {bs : List Nat} (A : BA Z h a bs) : a < h.size := A.1.lt
theorem BA.len {a : Addr} {bs : List Nat} (A : BA Z h a bs) : bs.length < 2 ^ 31 := by simpa using A.1.len
theorem mem_set_lt {bs : List Nat} {i b M : Nat} (h : ∀ c ∈ bs, c < M) (hb : b < M) : ∀ c ∈ bs.set i b, c < M := fun c hc => by
  rcases List.mem_or_eq_of_mem_set hc with q | q
  · exact h c q
  · rw [q]; exact hb
theorem BA.set {a : Addr} {bs : List Nat} {h' : Heap} {i b : Nat} (A : BA Z h a bs) (W : Wr h h' a i (bV b)) (hb : b < 256) : BA Z h' a (bs.set i b) := by
  have q := A.1.set W
  rw [← List.map_set] at q
  exact ⟨q, mem_set_lt A.2 hb⟩
theorem CA.ext {a : Addr} {bs : List Nat} {h' : Heap} (A : CA Z h a bs) (E : Ext h h') : CA Z h' a bs := ⟨A.1.ext E, A.2⟩
theorem CA.other {a b : Addr} {bs : List Nat} {h' : Heap} {sl : Nat} {v : Value} (A : CA Z h a bs) (W : Wr h h' b sl v) (q : a ≠ b) : CA Z h' a bs := ⟨A.1.other W q, A.2⟩
theorem CA.keep {a : Addr} {bs : List Nat} {h' : Heap} {ws : List Addr} (A : CA Z h a bs) (K : Keep h h' ws) (q : a ∉ ws) : CA Z h' a bs := ⟨A.1.keep K q, A.2⟩
theorem CA.lt {a : Addr} {bs : List Nat} (A : CA Z h a bs) : a < h.size := A.1.lt
theorem CA.len {a : Addr} {bs : List Nat} (A : CA Z h a bs) : bs.length < 2 ^ 31 := by simpa using A.1.len
theorem CA.set {a : Addr} {bs : List Nat} {h' : Heap} {i b : Nat} (A : CA Z h a bs) (W : Wr h h' a i (cV b)) (hb : b < 65536) : CA Z h' a (bs.set i b) := by
  have q := A.1.set W
  rw [← List.map_set] at q
  exact ⟨q, mem_set_lt A.2 hb⟩
theorem go_bL {a : Addr} {bs : List Nat} {i b : Nat} (K : Cx w R Z n0 own bytes mx rt nm) (H : At1 w T h k n) (d : Dc bytes pc .baload 1 pc') (A : BA Z h a bs) (hi : bs[i]? = some b) (G : Go w Q T pc' L (.int (bv b) :: st)) : Go w Q T pc L (.int (oN i) :: .ref a :: st) :=
  go_baload i K H d A.1 (oN_toInt (Nat.lt_trans (lt_of_at hi) A.len)) (by rw [List.getElem?_map, hi]; rfl) G
theorem go_cL {a : Addr} {bs : List Nat} {i b : Nat} (K : Cx w R Z n0 own bytes mx rt nm) (H : At1 w T h k n) (d : Dc bytes pc .caload 1 pc') (A : CA Z h a bs) (hi : bs[i]? = some b) (G : Go w Q T pc' L (.int (oN b) :: st)) : Go w Q T pc L (.int (oN i) :: .ref a :: st) :=
  go_caload i K H d A.1 (oN_toInt (Nat.lt_trans (lt_of_at hi) A.len)) (by rw [List.getElem?_map, hi]; rfl) G
theorem go_bS {a : Addr} {bs : List Nat} {i b : Nat} {x : Int32} (K : Cx w R Z n0 own bytes mx rt nm) (H : At1 w T h k n) (d : Dc bytes pc .bastore 1 pc') (A : BA Z h a bs) (hi : i < bs.length) (hb : b < 256) (hx : (x.toInt - b) % 256 = 0) (ha : n0 ≤ a)
    (G : ∀ T' h', At1 w T' h' k n → Wr h h' a i (bV b) → BA Z h' a (bs.set i b) → Go w Q T' pc' L st) : Go w Q T pc L (.int x :: .int (oN i) :: .ref a :: st) := by
  have f := f_i2b (v := x.toInt8.toInt32) (x := x) rfl
  have e : x.toInt8.toInt32 = bv b := bv_of hb (by omega) f.2.1 f.2.2
  refine go_bastore i K H d A.1 (oN_toInt (Nat.lt_trans hi A.len)) (by rw [List.length_map]; exact hi) ha fun T' h' H' W => ?_
  rw [e] at W
  exact G T' h' H' W (A.set W hb)
theorem go_cS {a : Addr} {bs : List Nat} {i b : Nat} (K : Cx w R Z n0 own bytes mx rt nm) (H : At1 w T h k n) (d : Dc bytes pc .castore 1 pc') (A : CA Z h a bs) (hi : i < bs.length) (hb : b < 65536) (ha : n0 ≤ a)
    (G : ∀ T' h', At1 w T' h' k n → Wr h h' a i (cV b) → CA Z h' a (bs.set i b) → Go w Q T' pc' L st) : Go w Q T pc L (.int (oN b) :: .int (oN i) :: .ref a :: st) := by
  refine go_castore i K H d A.1 (oN_toInt (Nat.lt_trans hi A.len)) (by rw [List.length_map]; exact hi) ha fun T' h' H' W => ?_
  rw [narC hb] at W
  exact G T' h' H' W (A.set W hb)
theorem go_lenB {a : Addr} {bs : List Nat} (K : Cx w R Z n0 own bytes mx rt nm) (H : At1 w T h k n) (d : Dc bytes pc .arraylength 1 pc') (A : BA Z h a bs) (G : Go w Q T pc' L (.int (oN bs.length) :: st)) : Go w Q T pc L (.ref a :: st) :=
  go_arraylength K H d A.1 fun z e => by rw [List.length_map] at e; rw [oN_eq A.len e]; exact G
theorem go_lenC {a : Addr} {bs : List Nat} (K : Cx w R Z n0 own bytes mx rt nm) (H : At1 w T h k n) (d : Dc bytes pc .arraylength 1 pc') (A : CA Z h a bs) (G : Go w Q T pc' L (.int (oN bs.length) :: st)) : Go w Q T pc L (.ref a :: st) :=
  go_arraylength K H d A.1 fun z e => by rw [List.length_map] at e; rw [oN_eq A.len e]; exact G
theorem go_newB {a0 : Array Value} {m : Nat} (cap : Nat) (K : Cx w R Z n0 own bytes mx rt nm) (H : At1 w T h k n) (d : Dc bytes pc (.newarray .byte) 2 pc') (w1 : (Cond.arrayClass .byte).before a0 Z = true) (hm : m ≤ cap) (hb : cap * 8 ≤ 536870912) (hk : k + 1 ≤ R.cells) (hn : n + cap ≤ R.slots)
    (G : ∀ T' h' a, At1 w T' h' (k + 1) (n + cap) → a = h.size → n0 ≤ a → Ext h h' → BA Z h' a (List.replicate m 0) → Exa Z h' a "[B" → Go w Q T' pc' L (.ref a :: st)) : Go w Q T pc L (.int (oN m) :: st) := by
  obtain ⟨p, l, e, R', s, mm, args, below, meth, c, Z', k0⟩ := w
  obtain ⟨hx, hby, hml, hown, hZ, hret, hnm, hlk, rfl, rfl, rfl, h00⟩ := K
  obtain ⟨locs, X, eT, N⟩ := H
  obtain ⟨d1, rfl⟩ := d
  have hm' := oN_nat (n := m) (by omega)
  obtain ⟨T', h', cA, X', e', E, A, F, stp⟩ := newPE X hx hZ (aty := .byte) w1 eT (g := mkF mm pc L (.int (oN m) :: st)) rfl (by rw [hby]; exact d1) rfl hm'.1 (by rw [hm'.2]; exact hm) hb hk hn (ad := "[B") (by decide)
  have e2 : (List.replicate m 0).map bV = List.replicate (oN m).toNatClampNeg (defaultValue .byte) := by rw [hm'.2, List.map_replicate, bV0]; rfl
  have hl : ((List.replicate m 0).map bV).length < 2 ^ 31 := by rw [List.length_map, List.length_replicate]; omega
  obtain ⟨s₂, o, g1, g2⟩ := G T' h' h.size ⟨_, X', e', N⟩ rfl (by rw [← eT]; exact Nat.le_trans h00 X.same.2.1) E ⟨⟨_, A, by rw [e2]; simp [newA, newarray.typeOf], hl⟩, fun b hb => by rw [(List.mem_replicate.mp hb).2]; decide⟩ F
  exact ⟨s₂, o, stp _ g1, g2⟩
theorem go_newC {a0 : Array Value} {m : Nat} (cap : Nat) (K : Cx w R Z n0 own bytes mx rt nm) (H : At1 w T h k n) (d : Dc bytes pc (.newarray .char) 2 pc') (w1 : (Cond.arrayClass .char).before a0 Z = true) (hm : m ≤ cap) (hb : cap * 8 ≤ 536870912) (hk : k + 1 ≤ R.cells) (hn : n + cap ≤ R.slots)
    (G : ∀ T' h' a, At1 w T' h' (k + 1) (n + cap) → a = h.size → n0 ≤ a → Ext h h' → CA Z h' a (List.replicate m 0) → Go w Q T' pc' L (.ref a :: st)) : Go w Q T pc L (.int (oN m) :: st) := by
  have hm' := oN_nat (n := m) (by omega)
  refine go_newarray cap K H d w1 hm'.1 (by rw [hm'.2]; exact hm) hb hk hn fun T' h' a H' g l E A => G T' h' a H' g l E ⟨?_, fun b hb => by rw [(List.mem_replicate.mp hb).2]; decide⟩
  rw [hm'.2] at A
  rw [List.map_replicate]
  exact A
theorem go_copyB {a0 : Array Value} {idx : Nat} {a b : Addr} {xs ys : List Nat} (i j l : Nat) (K : Cx w R Z n0 own bytes mx rt nm) (H : At1 w T h k n) (d : Dc bytes pc (.invokestatic idx) 3 pc') (w1 : (Cond.methodLink own idx Jvm.Stand.acN).before a0 Z = true) (w2 : (Cond.native Jvm.Stand.acN).before a0 Z = true) (w3 : (Cond.static Jvm.Stand.acN).before a0 Z = true) (w4 : (Cond.initialized "java/lang/System").before a0 Z = true)
    (A : BA Z h a xs) (B : BA Z h b ys) (b1 : i + l ≤ xs.length) (b2 : j + l ≤ ys.length) (ge : n0 ≤ b) (hL : L.size = mx) (hf : 1 ≤ R.frames) {W : Nat} (hW : (st.map fun v => v.category).sum = W) (hl : W + (nativeFrameWords "java/lang/System" "arraycopy" 5 + 11) ≤ R.locals)
    (G : ∀ T' h', At1 w T' h' k n → Keep h h' [b] → BA Z h' b (ys.take j ++ (xs.drop i).take l ++ ys.drop (j + l)) → Go w Q T' pc' L st) : Go w Q T pc L (.int (oN l) :: .int (oN j) :: .ref b :: .int (oN i) :: .ref a :: st) := by
  obtain ⟨p, l', e, R', s, m, args, below, meth, c, Z', k0⟩ := w
  obtain ⟨hx, hby, hml, hown, hZ, hret, hnm, hlk, rfl, rfl, rfl, h00⟩ := K
  obtain ⟨locs, X, eT, N⟩ := H
  obtain ⟨d1, rfl⟩ := d
  have ft : ∀ (zs : List Nat), (∀ b ∈ zs, b < 256) → ∀ v ∈ zs.map bV, fits .byte v = true := fun zs hz v hv => by obtain ⟨y, hy, rfl⟩ := List.mem_map.mp hv; exact fitB (hz y hy)
  have la := A.len
  have lb := B.len
  obtain ⟨ca, VA1⟩ := VA.arv A.1 (.int 0) (ft xs A.2)
  obtain ⟨cb, VB1⟩ := VA.arv B.1 (.int 0) (ft ys B.2)
  have la' : (Nat.toInt32 (xs.map bV).length).toNatClampNeg = xs.length := by simp only [List.length_map, Int32.toNatClampNeg, len_toInt la]; rfl
  have lb' : (Nat.toInt32 (ys.map bV).length).toNatClampNeg = ys.length := by simp only [List.length_map, Int32.toNatClampNeg, len_toInt lb]; rfl
  have ni := oN_nat (n := i) (by omega)
  have nj := oN_nat (n := j) (by omega)
  have nl := oN_nat (n := l) (by omega)
  have hus : ((xs.drop i).take l).map bV = (List.range (oN l).toNatClampNeg).map fun q => (xs.map bV).getD ((oN i).toNatClampNeg + q) (.int 0) := by
    rw [nl.2, ni.2]
    apply List.ext_getElem?
    intro q
    rw [List.getElem?_map, List.getElem?_map]
    by_cases hq : q < l
    · rw [List.getElem?_take_of_lt hq, List.getElem?_drop, List.getElem?_range hq, List.getElem?_eq_getElem (show i + q < xs.length by omega)]
      simp [List.getD_eq_getElem?_getD, List.getElem?_eq_getElem (show i + q < xs.length by omega)]
    · rw [List.getElem?_eq_none (by simp; omega), List.getElem?_eq_none (by simp; omega)]; rfl
  obtain ⟨T', h', L2, X', e', N', K', B', stp⟩ := cpA X hx hZ hown w1 w2 w3 w4 eT VA1 VB1 (Or.inl ⟨rfl, rfl⟩) ni.1 nj.1 nl.1 (by rw [ni.2, nl.2, la']; exact b1) (by rw [nj.2, nl.2, lb']; exact b2) hus (by rw [nj.2, nl.2, List.length_map]; exact b2) N ge (g := mkF m pc L (.int (oN l) :: .int (oN j) :: .ref b :: .int (oN i) :: .ref a :: st)) rfl (hL.trans hml.symm) rfl (by rw [hby]; exact d1) hf (W := W) (by show 2 * 0 + _ ≤ _; rw [hW]; omega) hl
  rw [nj.2, nl.2] at B'
  have B2 : BA Z' h' b (ys.take j ++ (xs.drop i).take l ++ ys.drop (j + l)) := by
    have q := VA.of_arv B' (by rw [lb']; simp; omega) (by simp; omega)
    rw [← List.map_take, ← List.map_drop, ← List.map_append, ← List.map_append] at q
    refine ⟨q, fun c hc => ?_⟩
    rcases List.mem_append.mp hc with q | q
    · rcases List.mem_append.mp q with q | q
      · exact B.2 c (List.mem_of_mem_take q)
      · exact A.2 c (List.mem_of_mem_drop (List.mem_of_mem_take q))
    · exact B.2 c (List.mem_of_mem_drop q)
  obtain ⟨s₂, o, g1, g2⟩ := G T' h' ⟨_, X', e', N'⟩ K' B2
  exact ⟨s₂, o, stp _ g1, g2⟩
theorem go_cloneB {a0 : Array Value} {idx : Nat} {a : Addr} {bs : List Nat} (cap : Nat) (K : Cx w R Z n0 own bytes mx rt nm) (H : At1 w T h k n) (d : Dc bytes pc (.invokevirtual idx) 3 pc')
    (w1 : (Cond.methodLink own idx ⟨"[B", "clone", "()Ljava/lang/Object;"⟩).before a0 Z = true) (w2 : (Cond.sameMethod "[B" "java/lang/Object" "clone" "()Ljava/lang/Object;").before a0 Z = true) (w3 : (Cond.native ⟨"java/lang/Object", "clone", "()Ljava/lang/Object;"⟩).before a0 Z = true)
    (w4 : (Cond.instanceMethod ⟨"java/lang/Object", "clone", "()Ljava/lang/Object;"⟩).before a0 Z = true) (w5 : (Cond.selects "[B" ⟨"[B", "clone", "()Ljava/lang/Object;"⟩ ⟨"java/lang/Object", "clone", "()Ljava/lang/Object;"⟩).before a0 Z = true) (w6 : (Cond.castable "[B" "java/lang/Cloneable").before a0 Z = true)
    (A : BA Z h a bs) (F : Exa Z h a "[B") (hL : L.size = mx) (hf : 1 ≤ R.frames) {W : Nat} (hW : (st.map fun v => v.category).sum = W) (hl : W + 14 ≤ R.locals) (hcap : bs.length ≤ cap) (hk : k + 1 ≤ R.cells) (hn : n + cap ≤ R.slots)
    (G : ∀ T' h' b, At1 w T' h' (k + 1) (n + cap) → b = h.size → n0 ≤ b → Ext h h' → BA Z h' b bs → Exa Z h' b "[B" → Go w Q T' pc' L (.ref b :: st)) : Go w Q T pc L (.ref a :: st) := by
  obtain ⟨p, l, e, R', s, m, args, below, meth, c, Z', k0⟩ := w
  obtain ⟨hx, hby, hml, hown, hZ, hret, hnm, hlk, rfl, rfl, rfl, h00⟩ := K
  obtain ⟨locs, X, eT, N⟩ := H
  obtain ⟨d1, rfl⟩ := d
  obtain ⟨⟨cl, A1, r1, r2⟩, lt⟩ := A
  have hs : cl.slots.size = bs.length := by rw [← Array.length_toList, r1, List.length_map]
  have FC : FitC Z' cl := fitC_of A1 fun i hi v hv => by
    have hm : v ∈ bs.map bV := by rw [← r1]; exact Array.mem_toList_iff.mpr (Array.mem_of_getElem? hv)
    obtain ⟨y, hy, rfl⟩ := List.mem_map.mp hm
    exact fitB (lt y hy)
  obtain ⟨T', h', X', e', E, A', F', stp⟩ := cloneA X hx hZ hown w1 w2 w3 w4 w5 w6 eT A1 F FC (g := mkF m pc L (.ref a :: st)) rfl (hL.trans hml.symm) rfl (by rw [hby]; exact d1) hf (W := W) (cap := cap) (by show 2 * 0 + _ ≤ _; rw [hW]; omega) hl (by rw [hs]; exact hcap) hk hn
  obtain ⟨s₂, o, g1, g2⟩ := G T' h' h.size ⟨_, X', e', N⟩ rfl (by rw [← eT]; exact Nat.le_trans h00 X.same.2.1) E ⟨⟨_, A', r1, r2⟩, lt⟩ F'
  exact ⟨s₂, o, stp _ g1, g2⟩
theorem same_self {a0 : Array Value} {y : MethodName} (hy : y.cls ≠ "java/lang/invoke/MethodHandle" ∧ y.cls ≠ "java/lang/invoke/VarHandle") (wi : (Cond.instanceMethod y).before a0 Z = true) (nf : NotFace Z y) : (Cond.sameMethod y.cls y.cls y.name y.desc).before a0 Z = true := by
  obtain ⟨mk, meth, hn, -⟩ := Cond.instanceMethod_spec wi
  obtain ⟨k, hk, hi⟩ := nf mk hn
  have e5 := State.methodFound?_of_named hn hy
  have hc := findClass_of_methodNamed hn
  have hn' : Z.methodNamed? ⟨y.cls, y.name, y.desc⟩ = some mk := hn
  simp [Cond.before, Cond.holds, Cond.value, hc, e5, hn', hk, hi]
theorem dec_of {a0 : Array Value} {y : MethodName} {yb : ByteArray} {ym : Nat} {yr : Option FieldType} (w4 : (Cond.code y yb ym yr).before a0 Z = true) (w2 : (Cond.instanceMethod y).before a0 Z = true) : (Cond.declares y).before a0 Z = true := by
  obtain ⟨mk, meth, hn, hm, hs, -⟩ := Cond.instanceMethod_spec w2
  obtain ⟨m2, c, h1, -, -, -, -, -, -, hsig⟩ := Cond.code_spec hn w4
  cases hm.symm.trans h1
  simp [Cond.before, Cond.holds, Cond.value, hn, hm, hs, hsig]
/-- super.y(..) -/
theorem go_callU {a0 : Array Value} {idx : Nat} {y : MethodName} {yb : ByteArray} {ym : Nat} {yr : Option FieldType} {rm : Room} {P : Option Value → Heap → Prop} {ps : List FieldType} {rr : Option FieldType} {a : Addr} {CC : String} (argsL : List Value)
    (K : Cx w R Z n0 own bytes mx rt nm) (H : At1 w T h k n) (d : Dc bytes pc (.invokespecial idx) 3 pc') (E : Exa Z h a CC) (w1 : (Cond.methodLink own idx y).before a0 Z = true) (hnf : ∀ s : State, Z.Warmed39 s.vm → NotFace s y) (w2 : (Cond.instanceMethod y).before a0 Z = true) (ws : (Cond.superclass own y.cls).before a0 Z = true) (w3 : (Cond.initialized y.cls).before a0 Z = true) (w4 : (Cond.code y yb ym yr).before a0 Z = true)
    (hy : y.cls ≠ "java/lang/invoke/MethodHandle" ∧ y.cls ≠ "java/lang/invoke/VarHandle") (C : ∀ l, Con l Z y yb ym yr rm (.ref a :: argsL).toArray h n0 P) (hd : parseMethodDescriptor y.desc = some ⟨ps, rr⟩) (hlen : argsL.length = ps.length) (hs : st = argsL.reverse ++ .ref a :: st') (hi : y.name ≠ "<init>")
    (hL : L.size = mx) (hf : rm.frames + 1 ≤ R.frames) {W : Nat} (hW : (st'.map fun v => v.category).sum = W) (hl : W + (ym + 11) + rm.locals ≤ R.locals) (hk : k + rm.cells ≤ R.cells) (hn : n + rm.slots ≤ R.slots)
    (G : ∀ T' h' v, At1 w T' h' (k + rm.cells) (n + rm.slots) → P v h' → Go w Q T' pc' L (v.toList ++ st')) : Go w Q T pc L st := by
  obtain ⟨p, l, e, R', s, m, args, below, meth, c, Z', k0⟩ := w
  obtain ⟨hx, hby, hml, hown, hZ, hret, hnm, hlk, rfl, rfl, rfl, h00⟩ := K
  obtain ⟨locs, X, eT, N⟩ := H
  obtain ⟨d1, rfl⟩ := d
  obtain ⟨v, vm₁, ⟨T', L1, k1, n1⟩, -, X', ⟨Lc, ⟨hQ, N'⟩, l1, y1, z1⟩, stp⟩ := superBack X hx hZ (y := y) hown w1 (same_self hy w2 (hnf Z' (State.Warmed39.refl Z'))) w2 ws hi (con_back (W := W) (C l) hZ w4 w3 hf hl) eT (Ins.self E) (g := mkF m pc L st) rfl (hL.trans hml.symm) w4 (argsL := argsL) (rest := st') (lenOf hd hlen) hs (by show 2 * 0 + _ ≤ _; rw [hW]; omega) (by rw [hby]; exact d1) (fun _ _ => ⟨rfl, eT, hk, hn⟩)
  dsimp only [Pt.U, Pt.locs, Pt.cells, Pt.slots] at X' l1 y1 z1 stp hQ
  subst l1 y1 z1
  obtain ⟨s₂, o, g1, g2⟩ := G T' T'.heap v ⟨_, X', rfl, Fr.app N N'⟩ hQ
  exact ⟨s₂, o, stp.trans g1, g2⟩
theorem At1.mono {k' n' : Nat} (H : At1 w T h k n) (hk : k ≤ k') (hn : n ≤ n') : At1 w T h k' n' := by
  obtain ⟨p, l, e, R', s, m, args, below, meth, c, Z', k0⟩ := w
  obtain ⟨locs, X, eT, N⟩ := H
  exact ⟨locs, X.more hk hn, eT, N⟩
theorem go_lookupMiss (K : Cx w R Z n0 own bytes mx rt nm) (H : At1 w T h k n) {x : Int32} {df : Int} {ps : Array (Int × Int)} {q no : Nat} (d : Dc bytes pc (.lookupswitch df ps) q pc') (hs : (ps.toList.zip (ps.toList.drop 1)).all (fun (a, next) => a.1 < next.1) = true) (hf : ∀ p ∈ ps.toList, p.1 ≠ x.toInt) (hn0 : 0 ≤ (pc : Int) + df) (hn : ((pc : Int) + df).toNat = no)
    (G1 : Go w Q T no L st) : Go w Q T pc L (.int x :: st) := by
  obtain ⟨p, l, e, R', s, m, args, below, meth, c, Z', k0⟩ := w
  obtain ⟨hx, hby, -⟩ := K
  obtain ⟨locs, X, -⟩ := H
  subst hn
  have hf' : ps.find? (·.1 == x.toInt) = none := Array.find?_eq_none.mpr fun a ha => by
    have := hf a (Array.mem_toList_iff.mpr ha)
    simp [this]
  obtain ⟨s₂, o, g1, g2⟩ := G1
  exact ⟨s₂, o, X.lookupswitchMiss hx (g := mkF m pc L (.int x :: st)) rfl rfl (by rw [hby]; exact d.1) hs hf' hn0 _ g1, g2⟩
/-! a body that may intern -/
/-- the walk's tables come of the true start s0, and what they book for the constants of EL says its text in h -/
def Iv (w : Wk) (s0 : State) (EL : List (String × Nat)) (h : Heap) : Prop :=
  match w with
  | ⟨_, _, _, _, s, _, _, _, _, _, Z, _⟩ => ∃ (vm0 : Vm) (k0 : Nat), s = s0.setVm vm0 ∧ s0.Since vm0 k0 ∧ k0 ≤ h.size ∧ CHr Z EL s0.vm s0.heap vm0 h
/-- x is no constant's cell -/
def Sf (w : Wk) (EL : List (String × Nat)) (h : Heap) (x : Addr) : Prop :=
  match w with
  | ⟨_, _, _, _, s, _, _, _, _, _, Z, _⟩ => Safe Z EL s.vm h x
variable {s0 : State} {EL : List (String × Nat)} {h' : Heap} {ws : List Addr} {x : Addr} {a0 : Array Value}
theorem Iv.ext (I : Iv w s0 EL h) (E : Ext h h') : Iv w s0 EL h' := by
  obtain ⟨p, l, e, R', s, m, args, below, meth, c, Z', k0⟩ := w
  obtain ⟨vm0, k0, e1, S, hk, C⟩ := I
  exact ⟨vm0, k0, e1, S, Nat.le_trans hk E.1, C.trans (CHr.ext E C.1)⟩
theorem Iv.keep (I : Iv w s0 EL h) (K : Keep h h' ws) (q : ∀ x ∈ ws, Sf w EL h x) : Iv w s0 EL h' := by
  obtain ⟨p, l, e, R', s, m, args, below, meth, c, Z', k0⟩ := w
  obtain ⟨vm0, k0, rfl, S, hk, C⟩ := I
  exact ⟨vm0, k0, rfl, S, Nat.le_trans hk K.1, C.trans (CHr.keep K q C.1)⟩
theorem Sf.ext (S : Sf w EL h x) (I : Iv w s0 EL h) (E : Ext h h') : Sf w EL h' x := by
  obtain ⟨p, l, e, R', s, m, args, below, meth, c, Z', k0⟩ := w
  obtain ⟨vm0, k0, rfl, -, hk, C⟩ := I
  exact Safe.ext E C.1 S
theorem Sf.keep (S : Sf w EL h x) (I : Iv w s0 EL h) (K : Keep h h' ws) (q : ∀ x ∈ ws, Sf w EL h x) : Sf w EL h' x := by
  obtain ⟨p, l, e, R', s, m, args, below, meth, c, Z', k0⟩ := w
  obtain ⟨vm0, k0, rfl, -, hk, C⟩ := I
  exact Safe.keep K q C.1 S
theorem Sf.new (hx : h.size ≤ x) : Sf w EL h x := by
  obtain ⟨p, l, e, R', s, m, args, below, meth, c, Z', k0⟩ := w
  exact Safe.new hx
theorem Sf.exa (K : Cx w R Z n0 own bytes mx rt nm) {C : String} (E : Exa Z h x C) (h1 : C ≠ "java/lang/String") (h2 : C ≠ "[B") : Sf w EL h x := by
  obtain ⟨p, l, e, R', s, m, args, below, meth, c, Z', k0⟩ := w
  obtain ⟨hx, hby, hml, hown, hZ, hret, hnm, hlk, rfl, rfl, rfl, h00⟩ := K
  exact Safe.exa hZ.alike E h1 h2
theorem Sf.ca (K : Cx w R Z n0 own bytes mx rt nm) {cs : List Nat} (A : CA Z h x cs) : Sf w EL h x := by
  obtain ⟨p, l, e, R', s, m, args, below, meth, c, Z', k0⟩ := w
  obtain ⟨hx, hby, hml, hown, hZ, hret, hnm, hlk, rfl, rfl, rfl, h00⟩ := K
  obtain ⟨⟨cl, A1, -⟩, -⟩ := A
  exact Safe.arr hZ.alike A1 (by decide)
theorem sf0 : ∀ x ∈ ([] : List Addr), Sf w EL h x := fun _ q => nomatch q
theorem sfS {a : Addr} (q : Sf w EL h a) (r : ∀ x ∈ ws, Sf w EL h x) : ∀ x ∈ a :: ws, Sf w EL h x := fun y m => by
  rcases List.mem_cons.mp m with e | e
  · rw [e]; exact q
  · exact r y e
/-- the contract of a callee that may intern -/
def ConH (l : Launch) (Z : State) (EL : List (String × Nat)) (y : MethodName) (bytes : ByteArray) (mx : Nat) (rt : Option FieldType) (R : Room) (as' : Array Value) (h0 : Heap) (n0 : Nat) (SF : List Addr) (Q : Option Value → Heap → Prop) : Prop :=
  ∀ ws, MetFree l y (head1 (Jvm.Cond.code y bytes mx rt :: ws) R) (fun a U => a = as' ∧ Z.Warmed39 U.vm ∧ U.heap = h0 ∧ CHv Z EL U.vm h0 ∧ ∀ x ∈ SF, Safe Z EL U.vm h0 x) (fun _ _ _ _ _ => True) (fun _ U o U' => ∃ v L, o = .returned v ∧ (Q v U'.heap ∧ Fr n0 L) ∧ CHr Z EL U.vm U.heap U'.vm U'.heap ∧ ReturnedEndW U o U' L R.cells R.slots)
theorem con_introH {l : Launch} {y : MethodName} {as' : Array Value} {h0 : Heap} {SF : List Addr} (hp : plainFor y = true) (hef : ∀ m, entryFrame m as' mx = mkF m 0 L []) (hz : n0 ≤ h0.size)
    (body : ∀ w T s0, Cx w R Z n0 y.cls bytes mx rt y.name → At1 w T h0 0 0 → Iv w s0 EL h0 → (∀ x ∈ SF, Sf w EL h0 x) → Go w (FnH Z EL R n0 s0 Q0) T 0 L []) : ConH l Z EL y bytes mx rt R as' h0 n0 SF Q0 := by
  intro ws
  refine MetFree.of_bodySF hp hisR ?_
  intro p e s m args below meth c s₁ Bd hml0 hP hK
  obtain ⟨rfl, hZ, hh, hC, hS⟩ := hP
  have X0 : Stand p l e R s m args below meth c s₁ [] 0 0 := Stand.of_body Bd
  have e0 : s₁.heap = h0 := by rw [← hh, Bd.state]; rfl
  have B := body ⟨p, l, e, R, s, m, args, below, meth, c, Z, n0⟩ s₁ s ⟨Bd.exec, Bd.bytes, hml0, findClass_of_methodNamed Bd.named, hZ, Bd.returns, (name_of_methodNamed Bd.named Bd.method).1, Bd.notSynchronized, rfl, rfl, rfl, by rw [hh]; exact hz⟩ ⟨[], X0, e0, Fr.nil n0⟩ ⟨s.vm, 0, by cases s; rfl, State.WarmedH.since (State.WarmedH.refl s) 0, Nat.zero_le _, by rw [← hh] at hC ⊢; exact CHr.refl hC⟩ hS
  obtain ⟨s₂, o, h1, h2, h3, v, Lc, rfl, h4, h5, h6⟩ := B
  exact ⟨s₂, _, castTop (hef m) h1, h2, h3, v, Lc, rfl, h4, h5, h6⟩
theorem go_leaveH (K : Cx w R Z n0 own bytes mx rt nm) (H : At1 w T h k n) (I : Iv w s0 EL h) (hEL : EW Z a0 EL) {v : Option Value} (hv : rt = none → v = none) (hk : k ≤ R.cells) (hn : n ≤ R.slots)
    (hs : ∀ (p : Program) (l : Launch) (e : Env) (s : State) (m : MethodId) (args : Array Value) (below : List Frame) (meth : Method) (c : Code) (locs : List Loc), Stand p l e R s m args below meth c T locs k n → p.tables.exec = Jvm.exec → c.code = bytes → meth.sig.returnType = rt → ∀ fs, (∀ (f : JFrame) (acts : List Action), f.method = m → f.locked = none → f.entered = [] → (doReturn e (T.setTop f) acts v).1 = T.setFrames fs) → Steps p.tables e below (T.setTop (mkF m pc L st)) (T.setFrames fs))
    (hq : Q0 v h) : Go w (FnH Z EL R n0 s0 Q0) T pc L st := by
  obtain ⟨p, l, e, R', s, m, args, below, meth, c, Z', k0⟩ := w
  obtain ⟨hx, hby, hml, hown, hZ, hret, hnm, hlk, rfl, rfl, rfl, h00⟩ := K
  obtain ⟨locs, X, eT, N⟩ := H
  obtain ⟨vm0, k1, rfl, S, hk1, C⟩ := I
  obtain ⟨fs, hr, hrun, hended, w1, w2, w3, w4⟩ := X.leaveW S (by rw [eT]; exact hk1) (v := v) (fun q => hv (hret ▸ q)) hlk
  have A := CHv.at X hZ hEL C.1
  refine ⟨_, _, hs p l e _ m args below meth c locs X hx hby hret fs hr, hrun, hended, v, locs, rfl, ⟨by show Q0 v T.heap; rw [eT]; exact hq, N⟩, ?_, w1, w2, w3, w4.mono hk hn⟩
  show CHr Z' EL s0.vm s0.heap T.vm T.heap
  rw [eT]; exact C.trans A
theorem go_retH (K : Cx w R Z n0 own bytes mx rt nm) (H : At1 w T h k n) (I : Iv w s0 EL h) (hEL : EW Z a0 EL) {P : Heap → Prop} (d : Dc bytes pc .return_ 1 pc') (hr : rt = none) (hk : k ≤ R.cells) (hn : n ≤ R.slots) (hq : P h) : Go w (FnH Z EL R n0 s0 (RV P)) T pc L [] :=
  go_leaveH K H I hEL (fun _ => rfl) hk hn (fun p l e s m args below meth c locs X hx hby hret fs hl => X.returnOut hx (hret.trans hr) (dcb hby d) hl) ⟨rfl, hq⟩
theorem go_zretH (K : Cx w R Z n0 own bytes mx rt nm) (H : At1 w T h k n) (I : Iv w s0 EL h) (hEL : EW Z a0 EL) {P : Int32 → Heap → Prop} {z : Int32} (d : Dc bytes pc .ireturn 1 pc') (hr : rt = some .boolean) (hz : nar .boolean z = z) (hk : k ≤ R.cells) (hn : n ≤ R.slots) (hq : P z h) : Go w (FnH Z EL R n0 s0 (RI P)) T pc L (.int z :: st) :=
  go_leaveH K H I hEL (fun q => by rw [hr] at q; cases q) hk hn (fun p l e s m args below meth c locs X hx hby hret fs hl => retOut X hx (hret.trans hr) (by show Value.int (nar .boolean z) = _; rw [hz]) (Or.inl ⟨rfl, Or.inr (Or.inl rfl), z, rfl⟩) (dcb hby d) hl) ⟨z, rfl, hq⟩
theorem go_aretH (K : Cx w R Z n0 own bytes mx rt nm) (H : At1 w T h k n) (I : Iv w s0 EL h) (hEL : EW Z a0 EL) {P : Value → Heap → Prop} {z : Value} {t : FieldType} (d : Dc bytes pc .areturn 1 pc') (hr : rt = some t) (ht : t.isReference = true) (hz : z.isRef = true) (hk : k ≤ R.cells) (hn : n ≤ R.slots) (hq : P z h) : Go w (FnH Z EL R n0 s0 (RR P)) T pc L (z :: st) :=
  go_leaveH K H I hEL (fun q => by rw [hr] at q; cases q) hk hn (fun p l e s m args below meth c locs X hx hby hret fs hl => retOut X hx (hret.trans hr) (by rcases ref_cases hz with rfl | ⟨a, rfl⟩ <;> (cases t <;> first | rfl | (simp [FieldType.isReference] at ht))) (Or.inr (Or.inr (Or.inr (Or.inr ⟨rfl, ht, hz⟩)))) (dcb hby d) hl) ⟨z, rfl, hz, hq⟩
/-- ldc of a String constant of EL: its text is read -/
theorem go_ldcH {idx : Nat} {text : String} (bs : List Nat) (K : Cx w R Z n0 own bytes mx rt nm) (H : At1 w T h k n) (I : Iv w s0 EL h) (hEL : EW Z a0 EL) (d : Dc bytes pc (.ldc idx) 2 pc') (w1 : (Cond.stringLink own idx text).before a0 Z = true) (wS : ∀ a ∈ Bundle.stringAtoms, a.before a0 Z = true) (hmem : (own, idx) ∈ EL)
    (ht : (∀ c ∈ text.toList, c.toNat < 256) ∧ text.toList.map (fun c => Value.int (Jvm.Lit.byteI c.toNat.toUInt16)) = bs.map bV) (hl : bs.length ≤ 8) (hlt : ∀ b ∈ bs, b < 256) {nn : Nat} (hn : 4 * text.toList.length ≤ nn) (hbig : nn ≤ 536870912) (hc : k + 2 ≤ R.cells) (hsl : n + (nn + 4) ≤ R.slots)
    (G : ∀ w' T' h' a b, Cx w' R Z n0 own bytes mx rt nm → At1 w' T' h' (k + 2) (n + (nn + 4)) → Iv w' s0 EL h' → Ext h h' → Exa Z h' a "java/lang/String" → Fld Z h' a "java/lang/String" "coder" "B" (.int 0) → Fld Z h' a "java/lang/String" "value" "[B" (.ref b) → BA Z h' b bs → (∀ x, x < h.size → Sf w EL h x → Sf w' EL h' x) → (∀ x, Sf w' EL h' x → x ≠ a ∧ x ≠ b) → Go w' Q T' pc' L (.ref a :: st)) : Go w Q T pc L st := by
  obtain ⟨p, l, e, R', s, m, args, below, meth, c, Z', k0⟩ := w
  obtain ⟨hx, hby, hml, hown, hZ, hret, hnm, hlk, rfl, rfl, rfl, h00⟩ := K
  obtain ⟨locs, X, eT, N⟩ := H
  obtain ⟨vm0, k1, rfl, S, hk1, C⟩ := I
  obtain ⟨d1, rfl⟩ := d
  have hz := oN_nat (n := bs.length) (by omega)
  obtain ⟨a, T', h', k2, b, kk, X', e', E, S', hk2, hW, hf, EX, FC, FV, B, -, -, C', -, ne, stp⟩ := ldcCH X hx hZ hown w1 wS eT S hk1 hEL hmem C.1 ht hz.1 (by rw [hz.2, List.length_map]) (g := mkF m pc L st) rfl (by rw [hby]; exact d1) hn hbig hc hsl
  have BB : BA Z' h' b bs := by
    have q := VA.of_arv B (by rw [hz.2, List.length_map]) (by simp; omega)
    exact ⟨q, hlt⟩
  obtain ⟨s₂, o, g1, g2⟩ := G ⟨p, l, e, R', s0.setVm T'.vm, m, args, below, meth, c, Z', k0⟩ T' h' a b ⟨hx, hby, hml, hf, hW, hret, hnm, hlk, rfl, rfl, rfl, h00⟩ ⟨locs, X', e', N⟩ ⟨T'.vm, k2, rfl, S', hk2, C.trans C'⟩ E EX FC FV BB (fun x hx S => C'.safe hx S) ne
  exact ⟨s₂, o, stp _ g1, g2⟩
theorem con_backH {l : Launch} {p : Program} {e : Env} {s : State} {args : Array Value} {below : List Frame} {vm0 : Vm} {y : MethodName} {yb : ByteArray} {ym : Nat} {yr : Option FieldType} {rm : Room} {as' : Array Value} {SF : List Addr} {P : Option Value → Heap → Prop} {len W : Nat}
    (C : ConH l Z EL y yb ym yr rm as' h n0 SF P) (hZ : Z.Warmed39 vm0) (wc : (Cond.code y yb ym yr).before a0 Z = true) (wz : (Cond.initialized y.cls).before a0 Z = true) (hf : rm.frames + 1 ≤ R.frames) (hl : W + (ym + 11) + rm.locals ≤ R.locals) (hEL : EW Z a0 EL) (H : CHv Z EL vm0 h) (hSF : ∀ x ∈ SF, x < h.size ∧ Safe Z EL vm0 h x) :
    BackS l R p e below (s.setVm vm0) args y len W (fun A a => a = as' ∧ A.U.heap = h ∧ A.cells + rm.cells ≤ R.cells ∧ A.slots + rm.slots ≤ R.slots)
      (fun A _ v B => ∃ Lc, (P v B.U.heap ∧ Fr n0 Lc) ∧ B.locs = A.locs ++ Lc ∧ B.cells = A.cells + rm.cells ∧ B.slots = A.slots + rm.slots ∧ CHr Z EL vm0 h B.U.vm B.U.heap) :=
  BackS.of_freeW (bytes := yb) (maxL := ym) (ret := yr) (E := fun _ first o t L k n => k = rm.cells ∧ n = rm.slots ∧ (∃ v, o = .returned v ∧ (P v t.heap ∧ Fr n0 L)) ∧ CHr Z EL first.vm first.heap t.vm t.heap) (C []) hf hl
    (fun m meth c A a Y hp => have hU : Z.Warmed39 A.U.vm := wtrans (s := s.setVm vm0) hZ Y.warmed
      ⟨by show (Cond.and _ .tt).before a A.U = true; rw [Cond.before_and, mv hU wc]; rfl, mv hU wc, mv hU wz, hp.2.2.1, hp.2.2.2⟩)
    (fun m meth c A a g mk Y hp => ⟨hp.1, wtrans (s := s.setVm vm0) hZ Y.warmed, hp.2.1, (CHv.at Y hZ hEL H).1, fun x hx => (CHv.at Y hZ hEL H).safe (hSF x hx).1 (hSF x hx).2⟩) (fun _ _ _ _ _ _ _ _ _ => trivial)
    (fun _ _ _ _ ⟨v, L, h1, h2, h3, h4⟩ => ⟨L, _, _, h4, rfl, rfl, ⟨v, h1, h2⟩, h3⟩)
    (fun m meth c A a g mk v t L k n Y hp _ _ ⟨e1, e2, ⟨v', e3, e4⟩, e5⟩ => by
      cases e3; subst e1 e2
      refine ⟨L, e4, rfl, rfl, rfl, (CHv.at Y hZ hEL H).trans ?_⟩
      rw [← hp.2.1]; exact e5)
theorem go_callSH {idx : Nat} {y : MethodName} {yb : ByteArray} {ym : Nat} {yr : Option FieldType} {rm : Room} {SF : List Addr} {P : Option Value → Heap → Prop} {ps : List FieldType} {rr : Option FieldType} (argsL : List Value)
    (K : Cx w R Z n0 own bytes mx rt nm) (H : At1 w T h k n) (I : Iv w s0 EL h) (hEL : EW Z a0 EL) (hSF : ∀ x ∈ SF, x < h.size ∧ Sf w EL h x) (d : Dc bytes pc (.invokestatic idx) 3 pc') (w1 : (Cond.methodLink own idx y).before a0 Z = true) (w2 : (Cond.static y).before a0 Z = true) (w3 : (Cond.initialized y.cls).before a0 Z = true) (w4 : (Cond.code y yb ym yr).before a0 Z = true)
    (hy : y.cls ≠ "java/lang/invoke/MethodHandle" ∧ y.cls ≠ "java/lang/invoke/VarHandle") (C : ∀ l, ConH l Z EL y yb ym yr rm argsL.toArray h n0 SF P) (hd : parseMethodDescriptor y.desc = some ⟨ps, rr⟩) (hlen : argsL.length = ps.length) (hs : st = argsL.reverse ++ st')
    (hL : L.size = mx) (hf : rm.frames + 1 ≤ R.frames) {W : Nat} (hW : (st'.map fun v => v.category).sum = W) (hl : W + (ym + 11) + rm.locals ≤ R.locals) (hk : k + rm.cells ≤ R.cells) (hn : n + rm.slots ≤ R.slots)
    (G : ∀ w' T' h' v, Cx w' R Z n0 own bytes mx rt nm → At1 w' T' h' (k + rm.cells) (n + rm.slots) → Iv w' s0 EL h' → (∀ x, x < h.size → Sf w EL h x → Sf w' EL h' x) → P v h' → Go w' Q T' pc' L (v.toList ++ st')) : Go w Q T pc L st := by
  obtain ⟨p, l, e, R', s, m, args, below, meth, c, Z', k0⟩ := w
  obtain ⟨hx, hby, hml, hown, hZ, hret, hnm, hlk, rfl, rfl, rfl, h00⟩ := K
  obtain ⟨locs, X, eT, N⟩ := H
  obtain ⟨vm0, kk, rfl, S, hk1, CC⟩ := I
  obtain ⟨d1, rfl⟩ := d
  obtain ⟨v, vm₁, ⟨T', L1, k1, n1⟩, -, X', S', gr, ⟨Lc, ⟨hQ, N'⟩, l1, y1, z1, C'⟩, stp⟩ := callSS X hx (y := y) hown (mvT hZ w1) (mvT hZ w2) (mvT hZ w3) (mvT hZ w4) hy (con_backH (W := W) (C l) hZ w4 w3 hf hl hEL CC.1 hSF) (g := mkF m pc L st) rfl (hL.trans hml.symm) (argsL := argsL) (rest := st') (lenOf hd hlen) hs (by show 2 * 0 + _ ≤ _; rw [hW]; omega) (by rw [hby]; exact d1) (fun _ _ => ⟨rfl, eT, hk, hn⟩)
  dsimp only [Pt.U, Pt.locs, Pt.cells, Pt.slots] at X' S' gr C' l1 y1 z1 stp hQ
  subst l1 y1 z1
  obtain ⟨X2, S2, hZ2, hf2⟩ := rebS (Z := Z') (own := own) S (show kk ≤ T.heap.size by rw [eT]; exact hk1) X' S' gr hZ hown
  obtain ⟨s₂, o, g1, g2⟩ := G ⟨p, l, e, R', s0.setVm T'.vm, m, args, below, meth, c, Z', k0⟩ T' T'.heap v ⟨hx, hby, hml, hf2, hZ2, hret, hnm, hlk, rfl, rfl, rfl, h00⟩ ⟨_, X2, rfl, Fr.app N N'⟩ ⟨T'.vm, _, rfl, S2, Nat.le_refl _, CC.trans C'⟩ (fun x hx S => C'.safe hx S) hQ
  exact ⟨s₂, o, stp.trans g1, g2⟩
theorem go_callIH {idx : Nat} {y : MethodName} {yb : ByteArray} {ym : Nat} {rm : Room} {SF : List Addr} {P : Option Value → Heap → Prop} {ps : List FieldType} {rr : Option FieldType} {a : Addr} (argsL : List Value)
    (K : Cx w R Z n0 own bytes mx rt nm) (H : At1 w T h k n) (I : Iv w s0 EL h) (hEL : EW Z a0 EL) (hSF : ∀ x ∈ SF, x < h.size ∧ Sf w EL h x) (d : Dc bytes pc (.invokespecial idx) 3 pc') (hy1 : y.name = "<init>") (w1 : (Cond.methodLink own idx y).before a0 Z = true) (w2 : (Cond.instanceMethod y).before a0 Z = true) (w3 : (Cond.initialized y.cls).before a0 Z = true) (w4 : (Cond.code y yb ym none).before a0 Z = true)
    (hy : y.cls ≠ "java/lang/invoke/MethodHandle" ∧ y.cls ≠ "java/lang/invoke/VarHandle") (C : ∀ l, ConH l Z EL y yb ym none rm (.ref a :: argsL).toArray h n0 SF P) (hd : parseMethodDescriptor y.desc = some ⟨ps, rr⟩) (hlen : argsL.length = ps.length) (hs : st = argsL.reverse ++ .ref a :: st')
    (hL : L.size = mx) (hf : rm.frames + 1 ≤ R.frames) {W : Nat} (hW : (st'.map fun v => v.category).sum = W) (hl : W + (ym + 11) + rm.locals ≤ R.locals) (hk : k + rm.cells ≤ R.cells) (hn : n + rm.slots ≤ R.slots)
    (G : ∀ w' T' h' v, Cx w' R Z n0 own bytes mx rt nm → At1 w' T' h' (k + rm.cells) (n + rm.slots) → Iv w' s0 EL h' → (∀ x, x < h.size → Sf w EL h x → Sf w' EL h' x) → P v h' → Go w' Q T' pc' L (v.toList ++ st')) : Go w Q T pc L st := by
  obtain ⟨p, l, e, R', s, m, args, below, meth, c, Z', k0⟩ := w
  obtain ⟨hx, hby, hml, hown, hZ, hret, hnm, hlk, rfl, rfl, rfl, h00⟩ := K
  obtain ⟨locs, X, eT, N⟩ := H
  obtain ⟨vm0, kk, rfl, S, hk1, CC⟩ := I
  obtain ⟨d1, rfl⟩ := d
  obtain ⟨v, vm₁, ⟨T', L1, k1, n1⟩, -, X', S', gr, ⟨Lc, ⟨hQ, N'⟩, l1, y1, z1, C'⟩, stp⟩ := X.specialBackS hx (y := y) hy1 hown (mvT hZ w1) (mvT hZ w2) (mvT hZ w4) hy (con_backH (W := W) (C l) hZ w4 w3 hf hl hEL CC.1 hSF) (g := mkF m pc L st) rfl (hL.trans hml.symm) (Steps.refl _) (a := a) (argsL := argsL) (rest := st') (lenOf hd hlen) hs (by show 2 * 0 + _ ≤ _; rw [hW]; omega) (by rw [hby]; exact d1) (fun _ _ => ⟨rfl, eT, hk, hn⟩)
  dsimp only [Pt.U, Pt.locs, Pt.cells, Pt.slots] at X' S' gr C' l1 y1 z1 stp hQ
  subst l1 y1 z1
  obtain ⟨X2, S2, hZ2, hf2⟩ := rebS (Z := Z') (own := own) S (show kk ≤ T.heap.size by rw [eT]; exact hk1) X' S' gr hZ hown
  obtain ⟨s₂, o, g1, g2⟩ := G ⟨p, l, e, R', s0.setVm T'.vm, m, args, below, meth, c, Z', k0⟩ T' T'.heap v ⟨hx, hby, hml, hf2, hZ2, hret, hnm, hlk, rfl, rfl, rfl, h00⟩ ⟨_, X2, rfl, Fr.app N N'⟩ ⟨T'.vm, _, rfl, S2, Nat.le_refl _, CC.trans C'⟩ (fun x hx S => C'.safe hx S) hQ
  exact ⟨s₂, o, stp.trans g1, g2⟩
end Own
theorem own_comesH {Post : Tables → Env → Array Value → State → Outcome → State → Prop} {ck sk : Nat} (hpost : ∀ tb e args s v u, (limb_1_1.after args s (.returned v) u = true ∧ limb_1_2.after args s (.returned v) u = true) → ReturnedEndW s (.returned v) u (Jvm.fieldLocs frame_1_writes args s ++ Jvm.arrayLocs frame_1_arrays args s ++ Jvm.staticLocs frame_1_statics s) ck sk → Post tb e args s (.returned v) u) (h1 : room_1.cells ≤ ck) (h2 : room_1.slots ≤ sk)
    (hl : ∀ (l : Launch) (tb : Tables) (e : Env) (s : State) (args : Array Value), heapFits s = true → rest_1 tb e args s → (∀ p ∈ consts_1, Jvm.Lit.constHeld s p.1 p.2) → (Jvm.Cond.and given_1 narrow_1).value args s none s [] = some true → (∀ d ∈ tables_1, d.before args s = true) → CHv s consts_1 s.vm s.heap ∧ ConH l s consts_1 x code maxLocals ret room_1 args s.heap s.heap.size [] (RI fun z _ => z = 1)) :
    ArmFor flags0 classFile x code maxLocals ret World_1 tables_1 room_1 Calls_1 rest_1 Pre_1 Post := by
  intro l hfl _ _ p e ha hc hk s m args below hf hA hF happ hP
  obtain ⟨hcalls, hrest, hpre⟩ := hP
  obtain ⟨-, -, -, hnamed, -, -, -, hat⟩ := (Spec.applies_iff hf).mp happ
  have hg := Cond.before_iff.mp (show (Jvm.Cond.and given_1 narrow_1).before args s = true from hpre)
  have hw := fun d (hd : d ∈ tables_1) => atoms_spec (ws := Jvm.Cond.code x code maxLocals ret :: tables_1) hat d (List.mem_cons_of_mem _ hd)
  obtain ⟨hCH, hcon⟩ := hl l _ _ s args hF hrest (fun p hp => hcalls.1 p hp) hg hw
  obtain ⟨n, o, g1, g2, g3, v, L, rfl, ⟨⟨z, rfl, rfl⟩, N⟩, -, hq⟩ := hcon tables_1 p e ha hc hk s m _ below hf ((Spec.applies_iff_loose hf).mp happ).1 ⟨rfl, State.Warmed39.refl s, rfl, hCH, fun _ q => nomatch q⟩ trivial
  exact ⟨n, _, g1, g2, g3, hpost _ _ _ _ _ _ ⟨Cond.after_iff.mpr rfl, Cond.after_iff.mpr (eq_i res_at (Term.int_eval (1)) rfl)⟩ ⟨hq.1, hq.2.1, hq.2.2.1, (hq.2.2.2.sift fun y hy => Or.inr (N y hy)).mono h1 h2⟩⟩
end Jvm.Pilot.@@N@@
namespace Jvm.Pilot.@@N@@
open Jvm Jvm.ClassFile Sem Op Lib Jvm.Free Jvm.Stand Jvm.LawKit Jvm.RoadKit Bundle Jvm.Pilot.@@N@@.Jvm.D
theorem ne_lt {a b : Addr} {n : Nat} (h : a < n) (g : n ≤ b) : a ≠ b := Nat.ne_of_lt (Nat.lt_of_lt_of_le h g)
theorem oN_inc (a : Nat) : oN a + Int32.ofInt 1 = oN (a + 1) := by rw [show Int32.ofInt 1 = oN 1 by decide, oN_add]
theorem ext_keep {hz h h' : Heap} {ws : List Addr} (X : Ext hz h) (K : Keep h h' ws) (q : ∀ x ∈ ws, hz.size ≤ x) : Ext hz h' := ⟨Nat.le_trans X.1 K.1, fun a c e => K.2.1 a c (X.2 a c e) fun m => absurd (q a m) (Nat.not_le_of_lt (Array.getElem?_eq_some_iff.mp e).1)⟩
theorem ext_trans {hz h h' : Heap} (X : Ext hz h) (E : Ext h h') : Ext hz h' := ⟨Nat.le_trans X.1 E.1, fun a c e => E.2 a c (X.2 a c e)⟩
theorem ext_wr {hz h h' : Heap} {a : Addr} {sl : Nat} {v : Value} (X : Ext hz h) (W : Wr h h' a sl v) (q : hz.size ≤ a) : Ext hz h' := ext_keep X (Keep.of_wr W) fun x m => by cases List.mem_singleton.mp m; exact q
theorem all0 {n : Nat} : ∀ y ∈ ([] : List Addr), n ≤ y := fun _ q => nomatch q
theorem allS {a : Addr} {n : Nat} {ws : List Addr} (q : n ≤ a) (r : ∀ y ∈ ws, n ≤ y) : ∀ y ∈ a :: ws, n ≤ y := fun y m => by rcases List.mem_cons.mp m with e | e; rw [e]; exact q; exact r y e
theorem in0 {n : Nat} {vs : List Addr} : ∀ y ∈ ([] : List Addr), y ∈ vs ∨ n ≤ y := fun _ q => nomatch q
theorem inS {a : Addr} {n : Nat} {ws vs : List Addr} (q : a ∈ vs ∨ n ≤ a) (r : ∀ y ∈ ws, y ∈ vs ∨ n ≤ y) : ∀ y ∈ a :: ws, y ∈ vs ∨ n ≤ y := fun y m => by rcases List.mem_cons.mp m with e | e; rw [e]; exact q; exact r y e
theorem keep_fresh {h h' : Heap} {ws : List Addr} (K : Keep h h' ws) (q : ∀ x ∈ ws, h.size ≤ x) : Ext h h' := ⟨K.1, fun a c e => K.2.1 a c e fun m => absurd (q a m) (Nat.not_le_of_lt (Array.getElem?_eq_some_iff.mp e).1)⟩
theorem keep_more {h h' : Heap} {ws vs : List Addr} (K : Keep h h' ws) (q : ∀ x ∈ ws, x ∈ vs) : Keep h h' vs := ⟨K.1, fun a c e m => K.2.1 a c e fun z => m (q a z), K.2.2⟩
def SSt (Z : State) : Prop := (∃ cs : Int32, cs ≠ 0 ∧ Sta Z Z.heap "java/lang/String" "COMPACT_STRINGS" "Z" (.int cs)) ∧ (∃ fv : Value, fv.isRef = true ∧ Sta Z Z.heap "jdk/internal/util/Preconditions" "SIOOBE_FORMATTER" "Ljava/util/function/BiFunction;" fv) ∧ Sta Z Z.heap "java/lang/StringUTF16" "$assertionsDisabled" "Z" (.int 1) ∧ Sta Z Z.heap "java/lang/StringUTF16" "HI_BYTE_SHIFT" "I" (.int 0) ∧ Sta Z Z.heap "java/lang/StringUTF16" "LO_BYTE_SHIFT" "I" (.int 8)
/-- the String s: its bytes at v, coder cd, chars L -/
def Sx (Z : State) (h : Heap) (s v : Addr) (cd : Nat) (L : List Nat) : Prop := Exa Z h s "java/lang/String" ∧ Fld Z h s "java/lang/String" "value" "[B" (.ref v) ∧ Fld Z h s "java/lang/String" "coder" "B" (.int (oN cd)) ∧ BA Z h v (enc cd L) ∧ (cd = 0 ∨ cd = 1)
theorem Sx.ext {Z : State} {h h' : Heap} {s v : Addr} {cd : Nat} {L : List Nat} (S : Sx Z h s v cd L) (E : Ext h h') : Sx Z h' s v cd L := ⟨S.1.ext E, S.2.1.ext E, S.2.2.1.ext E, S.2.2.2.1.ext E, S.2.2.2.2⟩
theorem Sx.keep {Z : State} {h h' : Heap} {s v : Addr} {cd : Nat} {L : List Nat} {ws : List Addr} (S : Sx Z h s v cd L) (K : Keep h h' ws) (q1 : s ∉ ws) (q2 : v ∉ ws) : Sx Z h' s v cd L := ⟨S.1.keep K, S.2.1.keep K q1, S.2.2.1.keep K q1, S.2.2.2.1.keep K q2, S.2.2.2.2⟩
/-- the StringBuilder b: its bytes at v (the text L's, then js), coder cd -/
def Sb (Z : State) (h : Heap) (b v : Addr) (cd : Nat) (L js : List Nat) : Prop := Exa Z h b "java/lang/StringBuilder" ∧ Fld Z h b "java/lang/AbstractStringBuilder" "value" "[B" (.ref v) ∧ Fld Z h b "java/lang/AbstractStringBuilder" "coder" "B" (.int (oN cd)) ∧ Fld Z h b "java/lang/AbstractStringBuilder" "count" "I" (.int (oN L.length)) ∧ Fld Z h b "java/lang/AbstractStringBuilder" "maybeLatin1" "Z" (.int 0) ∧ BA Z h v (enc cd L ++ js) ∧ Exa Z h v "[B" ∧ (cd = 0 ∨ cd = 1) ∧ (enc cd L ++ js).length ≤ 30 * (cd + 1)
theorem Sb.ext {Z : State} {h h' : Heap} {b v : Addr} {cd : Nat} {L js : List Nat} (S : Sb Z h b v cd L js) (E : Ext h h') : Sb Z h' b v cd L js := by
  obtain ⟨a1, a2, a3, a4, a5, a6, a7, r⟩ := S
  exact ⟨a1.ext E, a2.ext E, a3.ext E, a4.ext E, a5.ext E, a6.ext E, a7.ext E, r⟩
theorem Sb.keep {Z : State} {h h' : Heap} {b v : Addr} {cd : Nat} {L js : List Nat} {ws : List Addr} (S : Sb Z h b v cd L js) (K : Keep h h' ws) (q1 : b ∉ ws) (q2 : v ∉ ws) : Sb Z h' b v cd L js := by
  obtain ⟨a1, a2, a3, a4, a5, a6, a7, r⟩ := S
  exact ⟨a1.keep K, a2.keep K q1, a3.keep K q1, a4.keep K q1, a5.keep K q1, a6.keep K q2, a7.keep K, r⟩
theorem Sb.ne {Z : State} {h : Heap} {b v : Addr} {cd : Nat} {L js : List Nat} (S : Sb Z h b v cd L js) : b ≠ v := Exa.ne S.1 S.2.2.2.2.2.2.1 (by decide)
theorem enc_div {cd : Nat} (h : cd = 0 ∨ cd = 1) (L : List Nat) : (enc cd L).length / 2 ^ cd = L.length := by
  rcases h with rfl | rfl
  · rw [enc0]; simp
  · rw [enc1_len]; omega
theorem lenA {cd : Nat} (h : cd = 0 ∨ cd = 1) (L js : List Nat) : (enc cd L ++ js).length = L.length * (cd + 1) + js.length := by rw [List.length_append, enc_len h]
theorem take_enc {cd : Nat} (h : cd = 0 ∨ cd = 1) (L js : List Nat) : (enc cd L ++ js).take (L.length * (cd + 1)) = enc cd L := by rw [← enc_len h L]; exact List.take_left' rfl
theorem set3 {P r : List Nat} {c : Nat} (hj : 1 ≤ r.length) : (P ++ r).set P.length c = (P ++ [c]) ++ r.drop 1 := thin_set hj
theorem hex16 {k : Nat} (h : k < 16) : ((List.range 16).map hexd)[k]? = some (hexd k) := by rw [List.getElem?_map, List.getElem?_range h]; rfl
theorem Sx.len {Z : State} {h : Heap} {s v : Addr} {cd : Nat} {L : List Nat} (S : Sx Z h s v cd L) : L.length < 2 ^ 31 := by
  have q := S.2.2.2.1.len
  rcases S.2.2.2.2 with e | e <;> rw [e] at q
  · rw [enc0] at q; exact q
  · rw [enc1_len] at q; omega
theorem put_at {P xs r : List Nat} {x k : Nat} (hk : xs.length = k) (hr : k < r.length) : (P ++ xs ++ r.drop k).set (P.length + k) x = P ++ (xs ++ [x]) ++ r.drop (k + 1) := by
  have e : P.length + k = (P ++ xs).length := by rw [List.length_append, hk]
  rw [e, thin_set (by rw [List.length_drop]; omega), List.drop_drop, List.append_assoc P xs [x]]
theorem oN_and15 {a : Nat} (h : a < 2 ^ 31) : oN a &&& 15 = oN (a % 16) := by
  have q := f_mask (v := oN a &&& 15) (x := oN a) (m := 15) 16 4 rfl (by decide) (by decide) (by decide)
  rw [oN_toInt h] at q
  exact oN_eq (by omega) (by rw [q]; omega)
theorem same_at {M es : List Nat} {i c : Nat} {r : List Nat} (e : es = M ++ r) (h : M[i]? = some c) : es[i]? = some c := by rw [e, List.getElem?_append_left (lt_of_at h)]; exact h

theorem oN_of {v : Int32} {N : Nat} (h0 : 0 ≤ v.toInt) (h1 : v.toInt < N) (hN : N ≤ 2 ^ 31) : ∃ j, j < N ∧ v = oN j := by
  refine ⟨v.toInt.toNat, by omega, Int32.toInt_inj.mp ?_⟩
  rw [oN_toInt (by omega)]; omega
/-- what stands at quote's loop -/
def QS (Z : State) (n0 : Nat) (w : Wk) (s0 : State) (h0 h : Heap) (t tv : Addr) (tcd : Nat) (M : List Nat) (b v : Addr) (cd : Nat) (L js : List Nat) : Prop :=
  Iv w s0 consts_1 h ∧ Sx Z h t tv tcd M ∧ Sb Z h b v cd L js ∧ n0 ≤ b ∧ n0 ≤ v ∧ Sf w consts_1 h v ∧ Ext Z.heap h ∧ Ext h0 h ∧ h0.size ≤ b ∧ h0.size ≤ v ∧ t ≠ b ∧ t ≠ v ∧ tv ≠ b ∧ tv ≠ v
section
variable {Z : State} {n0 : Nat} {w w' : Wk} {s0 : State} {h0 h h' : Heap} {t tv : Addr} {tcd : Nat} {M : List Nat} {b v v' : Addr} {cd cd' : Nat} {L L' js js' : List Nat} {R : Room} {own : String} {bytes : ByteArray} {mx : Nat} {rt : Option FieldType} {nm : String}
theorem QS.app (q : QS Z n0 w s0 h0 h t tv tcd M b v cd L js) (K : Cx w R Z n0 own bytes mx rt nm) (hz : Z.heap.size ≤ n0) (Kp : Keep h h' [b, v]) (f : v' = v ∨ h.size ≤ v') (g : n0 ≤ v') (B : Sb Z h' b v' cd' L' js') : QS Z n0 w s0 h0 h' t tv tcd M b v' cd' L' js' := by
  obtain ⟨q1, q2, q3, q4, q5, q6, q7, q8, q9, q10, q11, q12, q13, q14⟩ := q
  have sb : Sf w consts_1 h b := Sf.exa K q3.1 (by decide) (by decide)
  have sf := sfS sb (sfS q6 sf0)
  refine ⟨q1.keep Kp sf, q2.keep Kp (ninS q11 (ninS q12 nin0)) (ninS q13 (ninS q14 nin0)), B, q4, g, ?_, ext_keep q7 Kp (allS (Nat.le_trans hz q4) (allS (Nat.le_trans hz q5) all0)), ext_keep q8 Kp (allS q9 (allS q10 all0)), q9, ?_, q11, ?_, q13, ?_⟩
  · rcases f with e | e
    · rw [e]; exact q6.keep q1 Kp sf
    · exact (Sf.new e).keep q1 Kp sf
  · rcases f with e | e
    · rw [e]; exact q10
    · exact Nat.le_trans q8.1 e
  · rcases f with e | e
    · rw [e]; exact q12
    · exact ne_lt q2.1.lt e
  · rcases f with e | e
    · rw [e]; exact q14
    · exact ne_lt q2.2.2.2.1.lt e
theorem QS.ldc (q : QS Z n0 w s0 h0 h t tv tcd M b v cd L js) (E : Ext h h') (I : Iv w' s0 consts_1 h') (F : ∀ x, x < h.size → Sf w consts_1 h x → Sf w' consts_1 h' x) : QS Z n0 w' s0 h0 h' t tv tcd M b v cd L js := by
  obtain ⟨q1, q2, q3, q4, q5, q6, q7, q8, r⟩ := q
  exact ⟨I, q2.ext E, q3.ext E, q4, q5, F v q3.2.2.2.2.2.1.lt q6, ext_trans q7 E, ext_trans q8 E, r⟩
theorem QS.lit (q : QS Z n0 w s0 h0 h t tv tcd M b v cd L js) (K : Cx w R Z n0 own bytes mx rt nm) {s bl : Addr} (A : Exa Z h s "java/lang/String") (N : ∀ x, Sf w consts_1 h x → x ≠ s ∧ x ≠ bl) : s ≠ b ∧ s ≠ v ∧ bl ≠ b ∧ bl ≠ v := by
  obtain ⟨q1, q2, q3, q4, q5, q6, -⟩ := q
  exact ⟨Exa.ne A q3.1 (by decide), (N v q6).1.symm, (N b (Sf.exa K q3.1 (by decide) (by decide))).2.symm, (N v q6).2.symm⟩
theorem QS.cong (q : QS Z n0 w s0 h0 h t tv tcd M b v cd L js) (e : L = L') : QS Z n0 w s0 h0 h t tv tcd M b v cd L' js := e ▸ q
end
theorem all_at {t : Term} {b : Jvm.Cond} {args : Array Value} {s : State} {a : Addr} {c : Cell} (h : (Jvm.Cond.all t b).value args s none s [] = some true) (ht : t.eval args s none [] s = some (.ref a)) (hc : s.heap[a]? = some c) {i : Nat} (hi : i < c.slots.size) : b.value args s none s [i] = some true := by
  cases hq : s.arrayAt? a with
  | none => rw [Cond.all_of_no_array ht hq] at h; cases h
  | some c' => obtain ⟨hc', -⟩ := State.arrayAt?_spec hq; cases hc.symm.trans hc'; exact Jvm.Example.Scan.all_true ht hq h i hi

theorem hex_el {t : Term} {args : Array Value} {s : State} {a : Addr} {c : Cell} {i : Nat} {kk : Int64} (q : (Jvm.Cond.eq (.op1 .i2l (.elem t (.index 0))) (.op2 .ladd (.op1 .i2l (.index 0)) (.long kk))).value args s none s [i] = some true) (ev : t.eval args s none [i] s = some (.ref a)) (hc : s.heap[a]? = some c) (hi : i < 2 ^ 31) : ∃ x : Int32, c.slots[i]? = some (.int x) ∧ x.toInt64 = (Nat.toInt32 i).toInt64 + kk := by
  have hj : (Nat.toInt32 i).toNatClampNeg = i := by simp only [Int32.toNatClampNeg, len_toInt hi]; rfl
  obtain ⟨X, Y, h1, h2, -⟩ := cmp_v (Or.inl q)
  have E1 : (Term.op1 .i2l (.elem t (.index 0))).eval args s none [i] s = ((Term.elem t (.index 0)).eval args s none [i] s).bind fun v => Unary.i2l.apply v := rfl
  have h2' : some (Value.long ((Nat.toInt32 i).toInt64 + kk)) = some Y := h2
  cases h2'
  cases he : (Term.elem t (.index 0)).eval args s none [i] s with
  | none => rw [E1, he] at h1; cases h1
  | some v =>
    have d := (elem_in he ev (Term.index_eval _) hc).2
    rw [hj] at d
    cases v with
    | int x =>
      have h1' : some (Value.long x.toInt64) = some X := by rw [E1, he] at h1; exact h1
      cases h1'
      exact ⟨x, d, by simpa [Cond.value, h1, h2] using q⟩
    | _ => rw [E1, he] at h1; exact absurd h1 (by simp [Unary.apply])
theorem hex_v {x : Int32} {i k : Nat} (hi : i < 16) (hk : k < 100) (q : x.toInt64 = (Nat.toInt32 i).toInt64 + Int64.ofNat k) : x = oN (i + k) := by
  have f1 := f_i2l (v := x.toInt64) (x := x) rfl
  have f2 := f_i2l (v := (Nat.toInt32 i).toInt64) (x := Nat.toInt32 i) rfl
  have f3 := f_ladd (v := x.toInt64) q
  have r := rng32 x
  rw [f2, len_toInt (show i < 2 ^ 31 by omega)] at f3
  have f4 : (Int64.ofNat k).toInt = (k : Int) := Int64.toInt_ofNat_of_lt (by omega)
  exact oN_eq (by omega) (by omega)
theorem d0_0 : Dc jdk_43_method_3_code 0 (.iload_n 0) 1 1 := ⟨by decide +kernel, rfl⟩
theorem d0_1 : Dc jdk_43_method_3_code 1 (.sipush 255) 3 4 := ⟨by decide +kernel, rfl⟩
theorem d0_4 : Jp jdk_43_method_3_code 4 (.if_icmp .gt) 11 7 := ⟨7, by decide +kernel, by decide, by decide, rfl⟩
theorem d0_7 : Dc jdk_43_method_3_code 7 (.iconst 1) 1 8 := ⟨by decide +kernel, rfl⟩
theorem d0_8 : Jp jdk_43_method_3_code 8 .goto 12 11 := ⟨4, by decide +kernel, by decide, by decide, rfl⟩
theorem d0_11 : Dc jdk_43_method_3_code 11 (.iconst 0) 1 12 := ⟨by decide +kernel, rfl⟩
theorem d0_12 : Dc jdk_43_method_3_code 12 .ireturn 1 13 := ⟨by decide +kernel, rfl⟩
theorem d1_0 : Dc jdk_42_method_152_code 0 (.getstatic 38) 3 3 := ⟨by decide +kernel, rfl⟩
theorem d1_3 : Jp jdk_42_method_152_code 3 (.ifCond .eq) 13 6 := ⟨10, by decide +kernel, by decide, by decide, rfl⟩
theorem d1_6 : Dc jdk_42_method_152_code 6 (.aload_n 0) 1 7 := ⟨by decide +kernel, rfl⟩
theorem d1_7 : Dc jdk_42_method_152_code 7 (.getfield 15) 3 10 := ⟨by decide +kernel, rfl⟩
theorem d1_10 : Jp jdk_42_method_152_code 10 .goto 14 13 := ⟨4, by decide +kernel, by decide, by decide, rfl⟩
theorem d1_14 : Dc jdk_42_method_152_code 14 .ireturn 1 15 := ⟨by decide +kernel, rfl⟩
theorem d2_0 : Dc jdk_42_method_154_code 0 (.getstatic 38) 3 3 := ⟨by decide +kernel, rfl⟩
theorem d2_3 : Jp jdk_42_method_154_code 3 (.ifCond .eq) 17 6 := ⟨14, by decide +kernel, by decide, by decide, rfl⟩
theorem d2_6 : Dc jdk_42_method_154_code 6 (.aload_n 0) 1 7 := ⟨by decide +kernel, rfl⟩
theorem d2_7 : Dc jdk_42_method_154_code 7 (.getfield 15) 3 10 := ⟨by decide +kernel, rfl⟩
theorem d2_10 : Jp jdk_42_method_154_code 10 (.ifCond .ne) 17 13 := ⟨7, by decide +kernel, by decide, by decide, rfl⟩
theorem d2_13 : Dc jdk_42_method_154_code 13 (.iconst 1) 1 14 := ⟨by decide +kernel, rfl⟩
theorem d2_14 : Jp jdk_42_method_154_code 14 .goto 18 17 := ⟨4, by decide +kernel, by decide, by decide, rfl⟩
theorem d2_17 : Dc jdk_42_method_154_code 17 (.iconst 0) 1 18 := ⟨by decide +kernel, rfl⟩
theorem d2_18 : Dc jdk_42_method_154_code 18 .ireturn 1 19 := ⟨by decide +kernel, rfl⟩
theorem d3_0 : Dc jdk_42_method_54_code 0 (.aload_n 0) 1 1 := ⟨by decide +kernel, rfl⟩
theorem d3_1 : Dc jdk_42_method_54_code 1 (.getfield 9) 3 4 := ⟨by decide +kernel, rfl⟩
theorem d3_4 : Dc jdk_42_method_54_code 4 .arraylength 1 5 := ⟨by decide +kernel, rfl⟩
theorem d3_5 : Dc jdk_42_method_54_code 5 (.aload_n 0) 1 6 := ⟨by decide +kernel, rfl⟩
theorem d3_6 : Dc jdk_42_method_54_code 6 (.invokevirtual 335) 3 9 := ⟨by decide +kernel, rfl⟩
theorem d3_9 : Dc jdk_42_method_54_code 9 .ishr 1 10 := ⟨by decide +kernel, rfl⟩
theorem d3_10 : Dc jdk_42_method_54_code 10 .ireturn 1 11 := ⟨by decide +kernel, rfl⟩
theorem d4_0 : Dc jdk_41_method_11_code 0 (.iload_n 0) 1 1 := ⟨by decide +kernel, rfl⟩
theorem d4_1 : Jp jdk_41_method_11_code 1 (.ifCond .lt) 9 4 := ⟨8, by decide +kernel, by decide, by decide, rfl⟩
theorem d4_4 : Dc jdk_41_method_11_code 4 (.iload_n 0) 1 5 := ⟨by decide +kernel, rfl⟩
theorem d4_5 : Dc jdk_41_method_11_code 5 (.iload_n 1) 1 6 := ⟨by decide +kernel, rfl⟩
theorem d4_6 : Jp jdk_41_method_11_code 6 (.if_icmp .lt) 16 9 := ⟨10, by decide +kernel, by decide, by decide, rfl⟩
theorem d4_16 : Dc jdk_41_method_11_code 16 (.iload_n 0) 1 17 := ⟨by decide +kernel, rfl⟩
theorem d4_17 : Dc jdk_41_method_11_code 17 .ireturn 1 18 := ⟨by decide +kernel, rfl⟩
theorem d5_0 : Dc jdk_42_method_155_code 0 (.iload_n 0) 1 1 := ⟨by decide +kernel, rfl⟩
theorem d5_1 : Dc jdk_42_method_155_code 1 (.iload_n 1) 1 2 := ⟨by decide +kernel, rfl⟩
theorem d5_2 : Dc jdk_42_method_155_code 2 (.getstatic 1053) 3 5 := ⟨by decide +kernel, rfl⟩
theorem d5_5 : Dc jdk_42_method_155_code 5 (.invokestatic 1059) 3 8 := ⟨by decide +kernel, rfl⟩
theorem d5_8 : Dc jdk_42_method_155_code 8 .pop 1 9 := ⟨by decide +kernel, rfl⟩
theorem d5_9 : Dc jdk_42_method_155_code 9 .return_ 1 10 := ⟨by decide +kernel, rfl⟩
theorem d6_0 : Dc jdk_43_method_2_code 0 (.iload_n 1) 1 1 := ⟨by decide +kernel, rfl⟩
theorem d6_1 : Dc jdk_43_method_2_code 1 (.aload_n 0) 1 2 := ⟨by decide +kernel, rfl⟩
theorem d6_2 : Dc jdk_43_method_2_code 2 .arraylength 1 3 := ⟨by decide +kernel, rfl⟩
theorem d6_3 : Dc jdk_43_method_2_code 3 (.invokestatic 9) 3 6 := ⟨by decide +kernel, rfl⟩
theorem d6_6 : Dc jdk_43_method_2_code 6 (.aload_n 0) 1 7 := ⟨by decide +kernel, rfl⟩
theorem d6_7 : Dc jdk_43_method_2_code 7 (.iload_n 1) 1 8 := ⟨by decide +kernel, rfl⟩
theorem d6_8 : Dc jdk_43_method_2_code 8 .baload 1 9 := ⟨by decide +kernel, rfl⟩
theorem d6_9 : Dc jdk_43_method_2_code 9 (.sipush 255) 3 12 := ⟨by decide +kernel, rfl⟩
theorem d6_12 : Dc jdk_43_method_2_code 12 .iand 1 13 := ⟨by decide +kernel, rfl⟩
theorem d6_13 : Dc jdk_43_method_2_code 13 .i2c 1 14 := ⟨by decide +kernel, rfl⟩
theorem d6_14 : Dc jdk_43_method_2_code 14 .ireturn 1 15 := ⟨by decide +kernel, rfl⟩
theorem d7_0 : Dc jdk_52_method_6_code 0 (.aload_n 0) 1 1 := ⟨by decide +kernel, rfl⟩
theorem d7_1 : Dc jdk_52_method_6_code 1 .arraylength 1 2 := ⟨by decide +kernel, rfl⟩
theorem d7_2 : Dc jdk_52_method_6_code 2 (.iconst 1) 1 3 := ⟨by decide +kernel, rfl⟩
theorem d7_3 : Dc jdk_52_method_6_code 3 .ishr 1 4 := ⟨by decide +kernel, rfl⟩
theorem d7_4 : Dc jdk_52_method_6_code 4 .ireturn 1 5 := ⟨by decide +kernel, rfl⟩
theorem d8_0 : Dc jdk_52_method_91_code 0 (.iload_n 0) 1 1 := ⟨by decide +kernel, rfl⟩
theorem d8_1 : Dc jdk_52_method_91_code 1 (.aload_n 1) 1 2 := ⟨by decide +kernel, rfl⟩
theorem d8_2 : Dc jdk_52_method_91_code 2 (.invokestatic 48) 3 5 := ⟨by decide +kernel, rfl⟩
theorem d8_5 : Dc jdk_52_method_91_code 5 (.invokestatic 414) 3 8 := ⟨by decide +kernel, rfl⟩
theorem d8_8 : Dc jdk_52_method_91_code 8 .return_ 1 9 := ⟨by decide +kernel, rfl⟩
theorem d9_0 : Dc jdk_52_method_5_code 0 (.getstatic 44) 3 3 := ⟨by decide +kernel, rfl⟩
theorem d9_3 : Jp jdk_52_method_5_code 3 (.ifCond .ne) 28 6 := ⟨25, by decide +kernel, by decide, by decide, rfl⟩
theorem d9_28 : Dc jdk_52_method_5_code 28 (.iload_n 1) 1 29 := ⟨by decide +kernel, rfl⟩
theorem d9_29 : Dc jdk_52_method_5_code 29 (.iconst 1) 1 30 := ⟨by decide +kernel, rfl⟩
theorem d9_30 : Dc jdk_52_method_5_code 30 .ishl 1 31 := ⟨by decide +kernel, rfl⟩
theorem d9_31 : Dc jdk_52_method_5_code 31 (.istore_n 1) 1 32 := ⟨by decide +kernel, rfl⟩
theorem d9_32 : Dc jdk_52_method_5_code 32 (.aload_n 0) 1 33 := ⟨by decide +kernel, rfl⟩
theorem d9_33 : Dc jdk_52_method_5_code 33 (.iload_n 1) 1 34 := ⟨by decide +kernel, rfl⟩
theorem d9_34 : Dc jdk_52_method_5_code 34 (.iinc 1 1) 3 37 := ⟨by decide +kernel, rfl⟩
theorem d9_37 : Dc jdk_52_method_5_code 37 .baload 1 38 := ⟨by decide +kernel, rfl⟩
theorem d9_38 : Dc jdk_52_method_5_code 38 (.sipush 255) 3 41 := ⟨by decide +kernel, rfl⟩
theorem d9_41 : Dc jdk_52_method_5_code 41 .iand 1 42 := ⟨by decide +kernel, rfl⟩
theorem d9_42 : Dc jdk_52_method_5_code 42 (.getstatic 59) 3 45 := ⟨by decide +kernel, rfl⟩
theorem d9_45 : Dc jdk_52_method_5_code 45 .ishl 1 46 := ⟨by decide +kernel, rfl⟩
theorem d9_46 : Dc jdk_52_method_5_code 46 (.aload_n 0) 1 47 := ⟨by decide +kernel, rfl⟩
theorem d9_47 : Dc jdk_52_method_5_code 47 (.iload_n 1) 1 48 := ⟨by decide +kernel, rfl⟩
theorem d9_48 : Dc jdk_52_method_5_code 48 .baload 1 49 := ⟨by decide +kernel, rfl⟩
theorem d9_49 : Dc jdk_52_method_5_code 49 (.sipush 255) 3 52 := ⟨by decide +kernel, rfl⟩
theorem d9_52 : Dc jdk_52_method_5_code 52 .iand 1 53 := ⟨by decide +kernel, rfl⟩
theorem d9_53 : Dc jdk_52_method_5_code 53 (.getstatic 63) 3 56 := ⟨by decide +kernel, rfl⟩
theorem d9_56 : Dc jdk_52_method_5_code 56 .ishl 1 57 := ⟨by decide +kernel, rfl⟩
theorem d9_57 : Dc jdk_52_method_5_code 57 .ior 1 58 := ⟨by decide +kernel, rfl⟩
theorem d9_58 : Dc jdk_52_method_5_code 58 .i2c 1 59 := ⟨by decide +kernel, rfl⟩
theorem d9_59 : Dc jdk_52_method_5_code 59 .ireturn 1 60 := ⟨by decide +kernel, rfl⟩
theorem d10_0 : Dc jdk_52_method_83_code 0 (.iload_n 1) 1 1 := ⟨by decide +kernel, rfl⟩
theorem d10_1 : Dc jdk_52_method_83_code 1 (.aload_n 0) 1 2 := ⟨by decide +kernel, rfl⟩
theorem d10_2 : Dc jdk_52_method_83_code 2 (.invokestatic 67) 3 5 := ⟨by decide +kernel, rfl⟩
theorem d10_5 : Dc jdk_52_method_83_code 5 (.aload_n 0) 1 6 := ⟨by decide +kernel, rfl⟩
theorem d10_6 : Dc jdk_52_method_83_code 6 (.iload_n 1) 1 7 := ⟨by decide +kernel, rfl⟩
theorem d10_7 : Dc jdk_52_method_83_code 7 (.invokestatic 71) 3 10 := ⟨by decide +kernel, rfl⟩
theorem d10_10 : Dc jdk_52_method_83_code 10 .ireturn 1 11 := ⟨by decide +kernel, rfl⟩
theorem d11_0 : Dc jdk_42_method_56_code 0 (.aload_n 0) 1 1 := ⟨by decide +kernel, rfl⟩
theorem d11_1 : Dc jdk_42_method_56_code 1 (.invokevirtual 492) 3 4 := ⟨by decide +kernel, rfl⟩
theorem d11_4 : Jp jdk_42_method_56_code 4 (.ifCond .eq) 16 7 := ⟨12, by decide +kernel, by decide, by decide, rfl⟩
theorem d11_7 : Dc jdk_42_method_56_code 7 (.aload_n 0) 1 8 := ⟨by decide +kernel, rfl⟩
theorem d11_8 : Dc jdk_42_method_56_code 8 (.getfield 9) 3 11 := ⟨by decide +kernel, rfl⟩
theorem d11_11 : Dc jdk_42_method_56_code 11 (.iload_n 1) 1 12 := ⟨by decide +kernel, rfl⟩
theorem d11_12 : Dc jdk_42_method_56_code 12 (.invokestatic 495) 3 15 := ⟨by decide +kernel, rfl⟩
theorem d11_15 : Dc jdk_42_method_56_code 15 .ireturn 1 16 := ⟨by decide +kernel, rfl⟩
theorem d11_16 : Dc jdk_42_method_56_code 16 (.aload_n 0) 1 17 := ⟨by decide +kernel, rfl⟩
theorem d11_17 : Dc jdk_42_method_56_code 17 (.getfield 9) 3 20 := ⟨by decide +kernel, rfl⟩
theorem d11_20 : Dc jdk_42_method_56_code 20 (.iload_n 1) 1 21 := ⟨by decide +kernel, rfl⟩
theorem d11_21 : Dc jdk_42_method_56_code 21 (.invokestatic 498) 3 24 := ⟨by decide +kernel, rfl⟩
theorem d11_24 : Dc jdk_42_method_56_code 24 .ireturn 1 25 := ⟨by decide +kernel, rfl⟩
theorem d12_0 : Dc jdk_52_method_4_code 0 (.getstatic 44) 3 3 := ⟨by decide +kernel, rfl⟩
theorem d12_3 : Jp jdk_52_method_4_code 3 (.ifCond .ne) 28 6 := ⟨25, by decide +kernel, by decide, by decide, rfl⟩
theorem d12_28 : Dc jdk_52_method_4_code 28 (.iload_n 1) 1 29 := ⟨by decide +kernel, rfl⟩
theorem d12_29 : Dc jdk_52_method_4_code 29 (.iconst 1) 1 30 := ⟨by decide +kernel, rfl⟩
theorem d12_30 : Dc jdk_52_method_4_code 30 .ishl 1 31 := ⟨by decide +kernel, rfl⟩
theorem d12_31 : Dc jdk_52_method_4_code 31 (.istore_n 1) 1 32 := ⟨by decide +kernel, rfl⟩
theorem d12_32 : Dc jdk_52_method_4_code 32 (.aload_n 0) 1 33 := ⟨by decide +kernel, rfl⟩
theorem d12_33 : Dc jdk_52_method_4_code 33 (.iload_n 1) 1 34 := ⟨by decide +kernel, rfl⟩
theorem d12_34 : Dc jdk_52_method_4_code 34 (.iinc 1 1) 3 37 := ⟨by decide +kernel, rfl⟩
theorem d12_37 : Dc jdk_52_method_4_code 37 (.iload_n 2) 1 38 := ⟨by decide +kernel, rfl⟩
theorem d12_38 : Dc jdk_52_method_4_code 38 (.getstatic 59) 3 41 := ⟨by decide +kernel, rfl⟩
theorem d12_41 : Dc jdk_52_method_4_code 41 .ishr 1 42 := ⟨by decide +kernel, rfl⟩
theorem d12_42 : Dc jdk_52_method_4_code 42 .i2b 1 43 := ⟨by decide +kernel, rfl⟩
theorem d12_43 : Dc jdk_52_method_4_code 43 .bastore 1 44 := ⟨by decide +kernel, rfl⟩
theorem d12_44 : Dc jdk_52_method_4_code 44 (.aload_n 0) 1 45 := ⟨by decide +kernel, rfl⟩
theorem d12_45 : Dc jdk_52_method_4_code 45 (.iload_n 1) 1 46 := ⟨by decide +kernel, rfl⟩
theorem d12_46 : Dc jdk_52_method_4_code 46 (.iload_n 2) 1 47 := ⟨by decide +kernel, rfl⟩
theorem d12_47 : Dc jdk_52_method_4_code 47 (.getstatic 63) 3 50 := ⟨by decide +kernel, rfl⟩
theorem d12_50 : Dc jdk_52_method_4_code 50 .ishr 1 51 := ⟨by decide +kernel, rfl⟩
theorem d12_51 : Dc jdk_52_method_4_code 51 .i2b 1 52 := ⟨by decide +kernel, rfl⟩
theorem d12_52 : Dc jdk_52_method_4_code 52 .bastore 1 53 := ⟨by decide +kernel, rfl⟩
theorem d12_53 : Dc jdk_52_method_4_code 53 .return_ 1 54 := ⟨by decide +kernel, rfl⟩
theorem d13_0 : Dc jdk_52_method_71_code 0 (.iload_n 1) 1 1 := ⟨by decide +kernel, rfl⟩
theorem d13_1 : Dc jdk_52_method_71_code 1 (.aload_n 0) 1 2 := ⟨by decide +kernel, rfl⟩
theorem d13_2 : Dc jdk_52_method_71_code 2 (.invokestatic 67) 3 5 := ⟨by decide +kernel, rfl⟩
theorem d13_5 : Dc jdk_52_method_71_code 5 (.aload_n 0) 1 6 := ⟨by decide +kernel, rfl⟩
theorem d13_6 : Dc jdk_52_method_71_code 6 (.iload_n 1) 1 7 := ⟨by decide +kernel, rfl⟩
theorem d13_7 : Dc jdk_52_method_71_code 7 (.iload_n 2) 1 8 := ⟨by decide +kernel, rfl⟩
theorem d13_8 : Dc jdk_52_method_71_code 8 (.invokestatic 111) 3 11 := ⟨by decide +kernel, rfl⟩
theorem d13_11 : Dc jdk_52_method_71_code 11 .return_ 1 12 := ⟨by decide +kernel, rfl⟩
theorem d14_0 : Dc jdk_52_method_3_code 0 (.iload_n 0) 1 1 := ⟨by decide +kernel, rfl⟩
theorem d14_1 : Jp jdk_52_method_3_code 1 (.ifCond .ge) 12 4 := ⟨11, by decide +kernel, by decide, by decide, rfl⟩
theorem d14_12 : Dc jdk_52_method_3_code 12 (.iload_n 0) 1 13 := ⟨by decide +kernel, rfl⟩
theorem d14_13 : Dc jdk_52_method_3_code 13 (.ldc 20) 2 15 := ⟨by decide +kernel, rfl⟩
theorem d14_15 : Jp jdk_52_method_3_code 15 (.if_icmp .lt) 55 18 := ⟨40, by decide +kernel, by decide, by decide, rfl⟩
theorem d14_55 : Dc jdk_52_method_3_code 55 (.iload_n 0) 1 56 := ⟨by decide +kernel, rfl⟩
theorem d14_56 : Dc jdk_52_method_3_code 56 (.iconst 1) 1 57 := ⟨by decide +kernel, rfl⟩
theorem d14_57 : Dc jdk_52_method_3_code 57 .ishl 1 58 := ⟨by decide +kernel, rfl⟩
theorem d14_58 : Dc jdk_52_method_3_code 58 .ireturn 1 59 := ⟨by decide +kernel, rfl⟩
theorem d15_0 : Dc jdk_52_method_2_code 0 (.iload_n 0) 1 1 := ⟨by decide +kernel, rfl⟩
theorem d15_1 : Dc jdk_52_method_2_code 1 (.invokestatic 11) 3 4 := ⟨by decide +kernel, rfl⟩
theorem d15_4 : Dc jdk_52_method_2_code 4 (.newarray .byte) 2 6 := ⟨by decide +kernel, rfl⟩
theorem d15_6 : Dc jdk_52_method_2_code 6 .areturn 1 7 := ⟨by decide +kernel, rfl⟩
theorem d16_0 : Dc jdk_41_method_13_code 0 (.iload_n 2) 1 1 := ⟨by decide +kernel, rfl⟩
theorem d16_1 : Dc jdk_41_method_13_code 1 (.iload_n 0) 1 2 := ⟨by decide +kernel, rfl⟩
theorem d16_2 : Dc jdk_41_method_13_code 2 .ior 1 3 := ⟨by decide +kernel, rfl⟩
theorem d16_3 : Dc jdk_41_method_13_code 3 (.iload_n 1) 1 4 := ⟨by decide +kernel, rfl⟩
theorem d16_4 : Dc jdk_41_method_13_code 4 .ior 1 5 := ⟨by decide +kernel, rfl⟩
theorem d16_5 : Jp jdk_41_method_13_code 5 (.ifCond .lt) 15 8 := ⟨10, by decide +kernel, by decide, by decide, rfl⟩
theorem d16_8 : Dc jdk_41_method_13_code 8 (.iload_n 1) 1 9 := ⟨by decide +kernel, rfl⟩
theorem d16_9 : Dc jdk_41_method_13_code 9 (.iload_n 2) 1 10 := ⟨by decide +kernel, rfl⟩
theorem d16_10 : Dc jdk_41_method_13_code 10 (.iload_n 0) 1 11 := ⟨by decide +kernel, rfl⟩
theorem d16_11 : Dc jdk_41_method_13_code 11 .isub 1 12 := ⟨by decide +kernel, rfl⟩
theorem d16_12 : Jp jdk_41_method_13_code 12 (.if_icmp .le) 23 15 := ⟨11, by decide +kernel, by decide, by decide, rfl⟩
theorem d16_23 : Dc jdk_41_method_13_code 23 (.iload_n 0) 1 24 := ⟨by decide +kernel, rfl⟩
theorem d16_24 : Dc jdk_41_method_13_code 24 .ireturn 1 25 := ⟨by decide +kernel, rfl⟩
theorem d17_0 : Dc jdk_42_method_157_code 0 (.iload_n 0) 1 1 := ⟨by decide +kernel, rfl⟩
theorem d17_1 : Dc jdk_42_method_157_code 1 (.iload_n 1) 1 2 := ⟨by decide +kernel, rfl⟩
theorem d17_2 : Dc jdk_42_method_157_code 2 (.iload_n 2) 1 3 := ⟨by decide +kernel, rfl⟩
theorem d17_3 : Dc jdk_42_method_157_code 3 (.getstatic 1053) 3 6 := ⟨by decide +kernel, rfl⟩
theorem d17_6 : Dc jdk_42_method_157_code 6 (.invokestatic 1065) 3 9 := ⟨by decide +kernel, rfl⟩
theorem d17_9 : Dc jdk_42_method_157_code 9 .ireturn 1 10 := ⟨by decide +kernel, rfl⟩
theorem d18_0 : Dc jdk_52_method_94_code 0 (.iload_n 0) 1 1 := ⟨by decide +kernel, rfl⟩
theorem d18_1 : Dc jdk_52_method_94_code 1 (.iload_n 1) 1 2 := ⟨by decide +kernel, rfl⟩
theorem d18_2 : Dc jdk_52_method_94_code 2 (.aload_n 2) 1 3 := ⟨by decide +kernel, rfl⟩
theorem d18_3 : Dc jdk_52_method_94_code 3 (.invokestatic 48) 3 6 := ⟨by decide +kernel, rfl⟩
theorem d18_6 : Dc jdk_52_method_94_code 6 (.invokestatic 419) 3 9 := ⟨by decide +kernel, rfl⟩
theorem d18_9 : Dc jdk_52_method_94_code 9 .pop 1 10 := ⟨by decide +kernel, rfl⟩
theorem d18_10 : Dc jdk_52_method_94_code 10 .return_ 1 11 := ⟨by decide +kernel, rfl⟩
theorem d19_0 : Dc jdk_52_method_86_code 0 (.iload_n 3) 1 1 := ⟨by decide +kernel, rfl⟩
theorem d19_1 : Dc jdk_52_method_86_code 1 (.iload 4) 2 3 := ⟨by decide +kernel, rfl⟩
theorem d19_3 : Dc jdk_52_method_86_code 3 (.aload_n 2) 1 4 := ⟨by decide +kernel, rfl⟩
theorem d19_4 : Dc jdk_52_method_86_code 4 (.invokestatic 173) 3 7 := ⟨by decide +kernel, rfl⟩
theorem d19_7 : Dc jdk_52_method_86_code 7 (.iconst 0) 1 8 := ⟨by decide +kernel, rfl⟩
theorem d19_8 : Dc jdk_52_method_86_code 8 (.istore 5) 2 10 := ⟨by decide +kernel, rfl⟩
theorem d19_10 : Dc jdk_52_method_86_code 10 (.iload 5) 2 12 := ⟨by decide +kernel, rfl⟩
theorem d19_12 : Dc jdk_52_method_86_code 12 (.iload 4) 2 14 := ⟨by decide +kernel, rfl⟩
theorem d19_14 : Jp jdk_52_method_86_code 14 (.if_icmp .ge) 41 17 := ⟨27, by decide +kernel, by decide, by decide, rfl⟩
theorem d19_17 : Dc jdk_52_method_86_code 17 (.aload_n 2) 1 18 := ⟨by decide +kernel, rfl⟩
theorem d19_18 : Dc jdk_52_method_86_code 18 (.iload_n 3) 1 19 := ⟨by decide +kernel, rfl⟩
theorem d19_19 : Dc jdk_52_method_86_code 19 (.iinc 3 1) 3 22 := ⟨by decide +kernel, rfl⟩
theorem d19_22 : Dc jdk_52_method_86_code 22 (.aload_n 0) 1 23 := ⟨by decide +kernel, rfl⟩
theorem d19_23 : Dc jdk_52_method_86_code 23 (.iload_n 1) 1 24 := ⟨by decide +kernel, rfl⟩
theorem d19_24 : Dc jdk_52_method_86_code 24 (.iinc 1 1) 3 27 := ⟨by decide +kernel, rfl⟩
theorem d19_27 : Dc jdk_52_method_86_code 27 .baload 1 28 := ⟨by decide +kernel, rfl⟩
theorem d19_28 : Dc jdk_52_method_86_code 28 (.sipush 255) 3 31 := ⟨by decide +kernel, rfl⟩
theorem d19_31 : Dc jdk_52_method_86_code 31 .iand 1 32 := ⟨by decide +kernel, rfl⟩
theorem d19_32 : Dc jdk_52_method_86_code 32 (.invokestatic 111) 3 35 := ⟨by decide +kernel, rfl⟩
theorem d19_35 : Dc jdk_52_method_86_code 35 (.iinc 5 1) 3 38 := ⟨by decide +kernel, rfl⟩
theorem d19_38 : Jp jdk_52_method_86_code 38 .goto 10 41 := ⟨-28, by decide +kernel, by decide, by decide, rfl⟩
theorem d19_41 : Dc jdk_52_method_86_code 41 .return_ 1 42 := ⟨by decide +kernel, rfl⟩
theorem d20_0 : Dc jdk_43_method_50_code 0 (.aload_n 0) 1 1 := ⟨by decide +kernel, rfl⟩
theorem d20_1 : Dc jdk_43_method_50_code 1 (.iload_n 1) 1 2 := ⟨by decide +kernel, rfl⟩
theorem d20_2 : Dc jdk_43_method_50_code 2 (.aload_n 2) 1 3 := ⟨by decide +kernel, rfl⟩
theorem d20_3 : Dc jdk_43_method_50_code 3 (.iload_n 3) 1 4 := ⟨by decide +kernel, rfl⟩
theorem d20_4 : Dc jdk_43_method_50_code 4 (.iload 4) 2 6 := ⟨by decide +kernel, rfl⟩
theorem d20_6 : Dc jdk_43_method_50_code 6 (.invokestatic 240) 3 9 := ⟨by decide +kernel, rfl⟩
theorem d20_9 : Dc jdk_43_method_50_code 9 .return_ 1 10 := ⟨by decide +kernel, rfl⟩
theorem d21_0 : Dc jdk_29_method_65_code 0 (.iload_n 0) 1 1 := ⟨by decide +kernel, rfl⟩
theorem d21_1 : Dc jdk_29_method_65_code 1 (.iload_n 1) 1 2 := ⟨by decide +kernel, rfl⟩
theorem d21_2 : Jp jdk_29_method_65_code 2 (.if_icmp .lt) 9 5 := ⟨7, by decide +kernel, by decide, by decide, rfl⟩
theorem d21_5 : Dc jdk_29_method_65_code 5 (.iload_n 0) 1 6 := ⟨by decide +kernel, rfl⟩
theorem d21_6 : Jp jdk_29_method_65_code 6 .goto 10 9 := ⟨4, by decide +kernel, by decide, by decide, rfl⟩
theorem d21_9 : Dc jdk_29_method_65_code 9 (.iload_n 1) 1 10 := ⟨by decide +kernel, rfl⟩
theorem d21_10 : Dc jdk_29_method_65_code 10 .ireturn 1 11 := ⟨by decide +kernel, rfl⟩
theorem d22_0 : Dc jdk_29_method_69_code 0 (.iload_n 0) 1 1 := ⟨by decide +kernel, rfl⟩
theorem d22_1 : Dc jdk_29_method_69_code 1 (.iload_n 1) 1 2 := ⟨by decide +kernel, rfl⟩
theorem d22_2 : Jp jdk_29_method_69_code 2 (.if_icmp .gt) 9 5 := ⟨7, by decide +kernel, by decide, by decide, rfl⟩
theorem d22_5 : Dc jdk_29_method_69_code 5 (.iload_n 0) 1 6 := ⟨by decide +kernel, rfl⟩
theorem d22_6 : Jp jdk_29_method_69_code 6 .goto 10 9 := ⟨4, by decide +kernel, by decide, by decide, rfl⟩
theorem d22_9 : Dc jdk_29_method_69_code 9 (.iload_n 1) 1 10 := ⟨by decide +kernel, rfl⟩
theorem d22_10 : Dc jdk_29_method_69_code 10 .ireturn 1 11 := ⟨by decide +kernel, rfl⟩
theorem d23_0 : Dc jdk_48_method_27_code 0 (.iload_n 0) 1 1 := ⟨by decide +kernel, rfl⟩
theorem d23_1 : Dc jdk_48_method_27_code 1 (.iload_n 1) 1 2 := ⟨by decide +kernel, rfl⟩
theorem d23_2 : Dc jdk_48_method_27_code 2 (.iload_n 2) 1 3 := ⟨by decide +kernel, rfl⟩
theorem d23_3 : Dc jdk_48_method_27_code 3 (.invokestatic 194) 3 6 := ⟨by decide +kernel, rfl⟩
theorem d23_6 : Dc jdk_48_method_27_code 6 .iadd 1 7 := ⟨by decide +kernel, rfl⟩
theorem d23_7 : Dc jdk_48_method_27_code 7 (.istore_n 3) 1 8 := ⟨by decide +kernel, rfl⟩
theorem d23_8 : Dc jdk_48_method_27_code 8 (.iconst 0) 1 9 := ⟨by decide +kernel, rfl⟩
theorem d23_9 : Dc jdk_48_method_27_code 9 (.iload_n 3) 1 10 := ⟨by decide +kernel, rfl⟩
theorem d23_10 : Jp jdk_48_method_27_code 10 (.if_icmp .ge) 21 13 := ⟨11, by decide +kernel, by decide, by decide, rfl⟩
theorem d23_13 : Dc jdk_48_method_27_code 13 (.iload_n 3) 1 14 := ⟨by decide +kernel, rfl⟩
theorem d23_14 : Dc jdk_48_method_27_code 14 (.ldc 200) 2 16 := ⟨by decide +kernel, rfl⟩
theorem d23_16 : Jp jdk_48_method_27_code 16 (.if_icmp .gt) 21 19 := ⟨5, by decide +kernel, by decide, by decide, rfl⟩
theorem d23_19 : Dc jdk_48_method_27_code 19 (.iload_n 3) 1 20 := ⟨by decide +kernel, rfl⟩
theorem d23_20 : Dc jdk_48_method_27_code 20 .ireturn 1 21 := ⟨by decide +kernel, rfl⟩
theorem d24_0 : Dc jdk_65_method_121_code 0 (.iload_n 1) 1 1 := ⟨by decide +kernel, rfl⟩
theorem d24_1 : Dc jdk_65_method_121_code 1 (.aload_n 0) 1 2 := ⟨by decide +kernel, rfl⟩
theorem d24_2 : Dc jdk_65_method_121_code 2 .arraylength 1 3 := ⟨by decide +kernel, rfl⟩
theorem d24_3 : Jp jdk_65_method_121_code 3 (.if_icmp .ne) 14 6 := ⟨11, by decide +kernel, by decide, by decide, rfl⟩
theorem d24_14 : Dc jdk_65_method_121_code 14 (.iload_n 1) 1 15 := ⟨by decide +kernel, rfl⟩
theorem d24_15 : Dc jdk_65_method_121_code 15 (.newarray .byte) 2 17 := ⟨by decide +kernel, rfl⟩
theorem d24_17 : Dc jdk_65_method_121_code 17 (.astore_n 2) 1 18 := ⟨by decide +kernel, rfl⟩
theorem d24_18 : Dc jdk_65_method_121_code 18 (.aload_n 0) 1 19 := ⟨by decide +kernel, rfl⟩
theorem d24_19 : Dc jdk_65_method_121_code 19 (.iconst 0) 1 20 := ⟨by decide +kernel, rfl⟩
theorem d24_20 : Dc jdk_65_method_121_code 20 (.aload_n 2) 1 21 := ⟨by decide +kernel, rfl⟩
theorem d24_21 : Dc jdk_65_method_121_code 21 (.iconst 0) 1 22 := ⟨by decide +kernel, rfl⟩
theorem d24_22 : Dc jdk_65_method_121_code 22 (.aload_n 0) 1 23 := ⟨by decide +kernel, rfl⟩
theorem d24_23 : Dc jdk_65_method_121_code 23 .arraylength 1 24 := ⟨by decide +kernel, rfl⟩
theorem d24_24 : Dc jdk_65_method_121_code 24 (.iload_n 1) 1 25 := ⟨by decide +kernel, rfl⟩
theorem d24_25 : Dc jdk_65_method_121_code 25 (.invokestatic 304) 3 28 := ⟨by decide +kernel, rfl⟩
theorem d24_28 : Dc jdk_65_method_121_code 28 (.invokestatic 150) 3 31 := ⟨by decide +kernel, rfl⟩
theorem d24_31 : Dc jdk_65_method_121_code 31 (.aload_n 2) 1 32 := ⟨by decide +kernel, rfl⟩
theorem d24_32 : Dc jdk_65_method_121_code 32 .areturn 1 33 := ⟨by decide +kernel, rfl⟩
theorem d25_0 : Dc jdk_65_method_131_code 0 (.iload_n 1) 1 1 := ⟨by decide +kernel, rfl⟩
theorem d25_1 : Dc jdk_65_method_131_code 1 (.iload_n 0) 1 2 := ⟨by decide +kernel, rfl⟩
theorem d25_2 : Jp jdk_65_method_131_code 2 (.if_icmp .ge) 37 5 := ⟨35, by decide +kernel, by decide, by decide, rfl⟩
theorem d25_37 : Dc jdk_65_method_131_code 37 .return_ 1 38 := ⟨by decide +kernel, rfl⟩
theorem d26_0 : Dc jdk_65_method_133_code 0 (.iload_n 1) 1 1 := ⟨by decide +kernel, rfl⟩
theorem d26_1 : Dc jdk_65_method_133_code 1 (.iload_n 2) 1 2 := ⟨by decide +kernel, rfl⟩
theorem d26_2 : Dc jdk_65_method_133_code 2 (.invokestatic 343) 3 5 := ⟨by decide +kernel, rfl⟩
theorem d26_5 : Dc jdk_65_method_133_code 5 (.iload_n 2) 1 6 := ⟨by decide +kernel, rfl⟩
theorem d26_6 : Dc jdk_65_method_133_code 6 (.iload_n 1) 1 7 := ⟨by decide +kernel, rfl⟩
theorem d26_7 : Dc jdk_65_method_133_code 7 .isub 1 8 := ⟨by decide +kernel, rfl⟩
theorem d26_8 : Dc jdk_65_method_133_code 8 (.istore_n 3) 1 9 := ⟨by decide +kernel, rfl⟩
theorem d26_9 : Dc jdk_65_method_133_code 9 (.iload_n 3) 1 10 := ⟨by decide +kernel, rfl⟩
theorem d26_10 : Dc jdk_65_method_133_code 10 (.newarray .byte) 2 12 := ⟨by decide +kernel, rfl⟩
theorem d26_12 : Dc jdk_65_method_133_code 12 (.astore 4) 2 14 := ⟨by decide +kernel, rfl⟩
theorem d26_14 : Dc jdk_65_method_133_code 14 (.aload_n 0) 1 15 := ⟨by decide +kernel, rfl⟩
theorem d26_15 : Dc jdk_65_method_133_code 15 (.iload_n 1) 1 16 := ⟨by decide +kernel, rfl⟩
theorem d26_16 : Dc jdk_65_method_133_code 16 (.aload 4) 2 18 := ⟨by decide +kernel, rfl⟩
theorem d26_18 : Dc jdk_65_method_133_code 18 (.iconst 0) 1 19 := ⟨by decide +kernel, rfl⟩
theorem d26_19 : Dc jdk_65_method_133_code 19 (.aload_n 0) 1 20 := ⟨by decide +kernel, rfl⟩
theorem d26_20 : Dc jdk_65_method_133_code 20 .arraylength 1 21 := ⟨by decide +kernel, rfl⟩
theorem d26_21 : Dc jdk_65_method_133_code 21 (.iload_n 1) 1 22 := ⟨by decide +kernel, rfl⟩
theorem d26_22 : Dc jdk_65_method_133_code 22 .isub 1 23 := ⟨by decide +kernel, rfl⟩
theorem d26_23 : Dc jdk_65_method_133_code 23 (.iload_n 3) 1 24 := ⟨by decide +kernel, rfl⟩
theorem d26_24 : Dc jdk_65_method_133_code 24 (.invokestatic 304) 3 27 := ⟨by decide +kernel, rfl⟩
theorem d26_27 : Dc jdk_65_method_133_code 27 (.invokestatic 150) 3 30 := ⟨by decide +kernel, rfl⟩
theorem d26_30 : Dc jdk_65_method_133_code 30 (.aload 4) 2 32 := ⟨by decide +kernel, rfl⟩
theorem d26_32 : Dc jdk_65_method_133_code 32 .areturn 1 33 := ⟨by decide +kernel, rfl⟩
theorem d27_0 : Dc jdk_65_method_132_code 0 (.iload_n 1) 1 1 := ⟨by decide +kernel, rfl⟩
theorem d27_1 : Jp jdk_65_method_132_code 1 (.ifCond .ne) 10 4 := ⟨9, by decide +kernel, by decide, by decide, rfl⟩
theorem d27_4 : Dc jdk_65_method_132_code 4 (.iload_n 2) 1 5 := ⟨by decide +kernel, rfl⟩
theorem d27_5 : Dc jdk_65_method_132_code 5 (.aload_n 0) 1 6 := ⟨by decide +kernel, rfl⟩
theorem d27_6 : Dc jdk_65_method_132_code 6 .arraylength 1 7 := ⟨by decide +kernel, rfl⟩
theorem d27_7 : Jp jdk_65_method_132_code 7 (.if_icmp .eq) 17 10 := ⟨10, by decide +kernel, by decide, by decide, rfl⟩
theorem d27_10 : Dc jdk_65_method_132_code 10 (.aload_n 0) 1 11 := ⟨by decide +kernel, rfl⟩
theorem d27_11 : Dc jdk_65_method_132_code 11 (.iload_n 1) 1 12 := ⟨by decide +kernel, rfl⟩
theorem d27_12 : Dc jdk_65_method_132_code 12 (.iload_n 2) 1 13 := ⟨by decide +kernel, rfl⟩
theorem d27_13 : Dc jdk_65_method_132_code 13 (.invokestatic 339) 3 16 := ⟨by decide +kernel, rfl⟩
theorem d27_16 : Dc jdk_65_method_132_code 16 .areturn 1 17 := ⟨by decide +kernel, rfl⟩
theorem d27_17 : Dc jdk_65_method_132_code 17 (.aload_n 0) 1 18 := ⟨by decide +kernel, rfl⟩
theorem d27_18 : Dc jdk_65_method_132_code 18 (.invokevirtual 310) 3 21 := ⟨by decide +kernel, rfl⟩
theorem d27_21 : Dc jdk_65_method_132_code 21 (.checkcast 311) 3 24 := ⟨by decide +kernel, rfl⟩
theorem d27_24 : Dc jdk_65_method_132_code 24 .areturn 1 25 := ⟨by decide +kernel, rfl⟩
theorem d28_0 : Dc jdk_68_method_68_code 0 (.getstatic 18) 3 3 := ⟨by decide +kernel, rfl⟩
theorem d28_3 : Jp jdk_68_method_68_code 3 (.ifCond .eq) 17 6 := ⟨14, by decide +kernel, by decide, by decide, rfl⟩
theorem d28_6 : Dc jdk_68_method_68_code 6 (.aload_n 0) 1 7 := ⟨by decide +kernel, rfl⟩
theorem d28_7 : Dc jdk_68_method_68_code 7 (.getfield 22) 3 10 := ⟨by decide +kernel, rfl⟩
theorem d28_10 : Jp jdk_68_method_68_code 10 (.ifCond .ne) 17 13 := ⟨7, by decide +kernel, by decide, by decide, rfl⟩
theorem d28_13 : Dc jdk_68_method_68_code 13 (.iconst 1) 1 14 := ⟨by decide +kernel, rfl⟩
theorem d28_14 : Jp jdk_68_method_68_code 14 .goto 18 17 := ⟨4, by decide +kernel, by decide, by decide, rfl⟩
theorem d28_17 : Dc jdk_68_method_68_code 17 (.iconst 0) 1 18 := ⟨by decide +kernel, rfl⟩
theorem d28_18 : Dc jdk_68_method_68_code 18 .ireturn 1 19 := ⟨by decide +kernel, rfl⟩
theorem d29_0 : Dc jdk_68_method_10_code 0 (.aload_n 0) 1 1 := ⟨by decide +kernel, rfl⟩
theorem d29_1 : Dc jdk_68_method_10_code 1 (.getfield 15) 3 4 := ⟨by decide +kernel, rfl⟩
theorem d29_4 : Dc jdk_68_method_10_code 4 .arraylength 1 5 := ⟨by decide +kernel, rfl⟩
theorem d29_5 : Dc jdk_68_method_10_code 5 (.istore_n 2) 1 6 := ⟨by decide +kernel, rfl⟩
theorem d29_6 : Dc jdk_68_method_10_code 6 (.iload_n 1) 1 7 := ⟨by decide +kernel, rfl⟩
theorem d29_7 : Dc jdk_68_method_10_code 7 (.aload_n 0) 1 8 := ⟨by decide +kernel, rfl⟩
theorem d29_8 : Dc jdk_68_method_10_code 8 (.getfield 22) 3 11 := ⟨by decide +kernel, rfl⟩
theorem d29_11 : Dc jdk_68_method_10_code 11 .ishl 1 12 := ⟨by decide +kernel, rfl⟩
theorem d29_12 : Dc jdk_68_method_10_code 12 (.istore_n 3) 1 13 := ⟨by decide +kernel, rfl⟩
theorem d29_13 : Dc jdk_68_method_10_code 13 (.iload_n 3) 1 14 := ⟨by decide +kernel, rfl⟩
theorem d29_14 : Dc jdk_68_method_10_code 14 (.iload_n 2) 1 15 := ⟨by decide +kernel, rfl⟩
theorem d29_15 : Dc jdk_68_method_10_code 15 .isub 1 16 := ⟨by decide +kernel, rfl⟩
theorem d29_16 : Dc jdk_68_method_10_code 16 (.istore 4) 2 18 := ⟨by decide +kernel, rfl⟩
theorem d29_18 : Dc jdk_68_method_10_code 18 (.iload_n 2) 1 19 := ⟨by decide +kernel, rfl⟩
theorem d29_19 : Dc jdk_68_method_10_code 19 (.iload 4) 2 21 := ⟨by decide +kernel, rfl⟩
theorem d29_21 : Dc jdk_68_method_10_code 21 (.iload_n 2) 1 22 := ⟨by decide +kernel, rfl⟩
theorem d29_22 : Dc jdk_68_method_10_code 22 (.iconst 2) 1 23 := ⟨by decide +kernel, rfl⟩
theorem d29_23 : Dc jdk_68_method_10_code 23 (.aload_n 0) 1 24 := ⟨by decide +kernel, rfl⟩
theorem d29_24 : Dc jdk_68_method_10_code 24 (.getfield 22) 3 27 := ⟨by decide +kernel, rfl⟩
theorem d29_27 : Dc jdk_68_method_10_code 27 .ishl 1 28 := ⟨by decide +kernel, rfl⟩
theorem d29_28 : Dc jdk_68_method_10_code 28 .iadd 1 29 := ⟨by decide +kernel, rfl⟩
theorem d29_29 : Dc jdk_68_method_10_code 29 (.invokestatic 114) 3 32 := ⟨by decide +kernel, rfl⟩
theorem d29_32 : Dc jdk_68_method_10_code 32 (.istore 5) 2 34 := ⟨by decide +kernel, rfl⟩
theorem d29_34 : Dc jdk_68_method_10_code 34 (.iload 5) 2 36 := ⟨by decide +kernel, rfl⟩
theorem d29_36 : Dc jdk_68_method_10_code 36 (.ldc 39) 2 38 := ⟨by decide +kernel, rfl⟩
theorem d29_38 : Jp jdk_68_method_10_code 38 (.if_icmp .ne) 51 41 := ⟨13, by decide +kernel, by decide, by decide, rfl⟩
theorem d29_51 : Dc jdk_68_method_10_code 51 (.iload 5) 2 53 := ⟨by decide +kernel, rfl⟩
theorem d29_53 : Dc jdk_68_method_10_code 53 (.aload_n 0) 1 54 := ⟨by decide +kernel, rfl⟩
theorem d29_54 : Dc jdk_68_method_10_code 54 (.getfield 22) 3 57 := ⟨by decide +kernel, rfl⟩
theorem d29_57 : Dc jdk_68_method_10_code 57 .ishr 1 58 := ⟨by decide +kernel, rfl⟩
theorem d29_58 : Dc jdk_68_method_10_code 58 .ireturn 1 59 := ⟨by decide +kernel, rfl⟩
theorem d30_0 : Dc jdk_68_method_9_code 0 (.aload_n 0) 1 1 := ⟨by decide +kernel, rfl⟩
theorem d30_1 : Dc jdk_68_method_9_code 1 (.getfield 15) 3 4 := ⟨by decide +kernel, rfl⟩
theorem d30_4 : Dc jdk_68_method_9_code 4 .arraylength 1 5 := ⟨by decide +kernel, rfl⟩
theorem d30_5 : Dc jdk_68_method_9_code 5 (.aload_n 0) 1 6 := ⟨by decide +kernel, rfl⟩
theorem d30_6 : Dc jdk_68_method_9_code 6 (.getfield 22) 3 9 := ⟨by decide +kernel, rfl⟩
theorem d30_9 : Dc jdk_68_method_9_code 9 .ishr 1 10 := ⟨by decide +kernel, rfl⟩
theorem d30_10 : Dc jdk_68_method_9_code 10 (.istore_n 2) 1 11 := ⟨by decide +kernel, rfl⟩
theorem d30_11 : Dc jdk_68_method_9_code 11 (.iload_n 1) 1 12 := ⟨by decide +kernel, rfl⟩
theorem d30_12 : Dc jdk_68_method_9_code 12 (.iload_n 2) 1 13 := ⟨by decide +kernel, rfl⟩
theorem d30_13 : Dc jdk_68_method_9_code 13 .isub 1 14 := ⟨by decide +kernel, rfl⟩
theorem d30_14 : Jp jdk_68_method_9_code 14 (.ifCond .le) 38 17 := ⟨24, by decide +kernel, by decide, by decide, rfl⟩
theorem d30_17 : Dc jdk_68_method_9_code 17 (.aload_n 0) 1 18 := ⟨by decide +kernel, rfl⟩
theorem d30_18 : Dc jdk_68_method_9_code 18 (.aload_n 0) 1 19 := ⟨by decide +kernel, rfl⟩
theorem d30_19 : Dc jdk_68_method_9_code 19 (.getfield 15) 3 22 := ⟨by decide +kernel, rfl⟩
theorem d30_22 : Dc jdk_68_method_9_code 22 (.aload_n 0) 1 23 := ⟨by decide +kernel, rfl⟩
theorem d30_23 : Dc jdk_68_method_9_code 23 (.iload_n 1) 1 24 := ⟨by decide +kernel, rfl⟩
theorem d30_24 : Dc jdk_68_method_9_code 24 (.invokevirtual 104) 3 27 := ⟨by decide +kernel, rfl⟩
theorem d30_27 : Dc jdk_68_method_9_code 27 (.aload_n 0) 1 28 := ⟨by decide +kernel, rfl⟩
theorem d30_28 : Dc jdk_68_method_9_code 28 (.getfield 22) 3 31 := ⟨by decide +kernel, rfl⟩
theorem d30_31 : Dc jdk_68_method_9_code 31 .ishl 1 32 := ⟨by decide +kernel, rfl⟩
theorem d30_32 : Dc jdk_68_method_9_code 32 (.invokestatic 108) 3 35 := ⟨by decide +kernel, rfl⟩
theorem d30_35 : Dc jdk_68_method_9_code 35 (.putfield 15) 3 38 := ⟨by decide +kernel, rfl⟩
theorem d30_38 : Dc jdk_68_method_9_code 38 .return_ 1 39 := ⟨by decide +kernel, rfl⟩
theorem d31_0 : Dc jdk_68_method_11_code 0 (.aload_n 0) 1 1 := ⟨by decide +kernel, rfl⟩
theorem d31_1 : Dc jdk_68_method_11_code 1 (.invokevirtual 83) 3 4 := ⟨by decide +kernel, rfl⟩
theorem d31_4 : Jp jdk_68_method_11_code 4 (.ifCond .ne) 8 7 := ⟨4, by decide +kernel, by decide, by decide, rfl⟩
theorem d31_7 : Dc jdk_68_method_11_code 7 .return_ 1 8 := ⟨by decide +kernel, rfl⟩
theorem d31_8 : Dc jdk_68_method_11_code 8 (.aload_n 0) 1 9 := ⟨by decide +kernel, rfl⟩
theorem d31_9 : Dc jdk_68_method_11_code 9 (.getfield 15) 3 12 := ⟨by decide +kernel, rfl⟩
theorem d31_12 : Dc jdk_68_method_11_code 12 .arraylength 1 13 := ⟨by decide +kernel, rfl⟩
theorem d31_13 : Dc jdk_68_method_11_code 13 (.invokestatic 26) 3 16 := ⟨by decide +kernel, rfl⟩
theorem d31_16 : Dc jdk_68_method_11_code 16 (.astore_n 1) 1 17 := ⟨by decide +kernel, rfl⟩
theorem d31_17 : Dc jdk_68_method_11_code 17 (.aload_n 0) 1 18 := ⟨by decide +kernel, rfl⟩
theorem d31_18 : Dc jdk_68_method_11_code 18 (.getfield 15) 3 21 := ⟨by decide +kernel, rfl⟩
theorem d31_21 : Dc jdk_68_method_11_code 21 (.iconst 0) 1 22 := ⟨by decide +kernel, rfl⟩
theorem d31_22 : Dc jdk_68_method_11_code 22 (.aload_n 1) 1 23 := ⟨by decide +kernel, rfl⟩
theorem d31_23 : Dc jdk_68_method_11_code 23 (.iconst 0) 1 24 := ⟨by decide +kernel, rfl⟩
theorem d31_24 : Dc jdk_68_method_11_code 24 (.aload_n 0) 1 25 := ⟨by decide +kernel, rfl⟩
theorem d31_25 : Dc jdk_68_method_11_code 25 (.getfield 79) 3 28 := ⟨by decide +kernel, rfl⟩
theorem d31_28 : Dc jdk_68_method_11_code 28 (.invokestatic 125) 3 31 := ⟨by decide +kernel, rfl⟩
theorem d31_31 : Dc jdk_68_method_11_code 31 (.aload_n 0) 1 32 := ⟨by decide +kernel, rfl⟩
theorem d31_32 : Dc jdk_68_method_11_code 32 (.aload_n 1) 1 33 := ⟨by decide +kernel, rfl⟩
theorem d31_33 : Dc jdk_68_method_11_code 33 (.putfield 15) 3 36 := ⟨by decide +kernel, rfl⟩
theorem d31_36 : Dc jdk_68_method_11_code 36 (.aload_n 0) 1 37 := ⟨by decide +kernel, rfl⟩
theorem d31_37 : Dc jdk_68_method_11_code 37 (.iconst 1) 1 38 := ⟨by decide +kernel, rfl⟩
theorem d31_38 : Dc jdk_68_method_11_code 38 (.putfield 22) 3 41 := ⟨by decide +kernel, rfl⟩
theorem d31_41 : Dc jdk_68_method_11_code 41 .return_ 1 42 := ⟨by decide +kernel, rfl⟩
theorem d32_0 : Dc jdk_68_method_31_code 0 (.aload_n 0) 1 1 := ⟨by decide +kernel, rfl⟩
theorem d32_1 : Dc jdk_68_method_31_code 1 (.aload_n 0) 1 2 := ⟨by decide +kernel, rfl⟩
theorem d32_2 : Dc jdk_68_method_31_code 2 (.getfield 79) 3 5 := ⟨by decide +kernel, rfl⟩
theorem d32_5 : Dc jdk_68_method_31_code 5 (.iconst 1) 1 6 := ⟨by decide +kernel, rfl⟩
theorem d32_6 : Dc jdk_68_method_31_code 6 .iadd 1 7 := ⟨by decide +kernel, rfl⟩
theorem d32_7 : Dc jdk_68_method_31_code 7 (.invokevirtual 100) 3 10 := ⟨by decide +kernel, rfl⟩
theorem d32_10 : Dc jdk_68_method_31_code 10 (.aload_n 0) 1 11 := ⟨by decide +kernel, rfl⟩
theorem d32_11 : Dc jdk_68_method_31_code 11 (.invokevirtual 83) 3 14 := ⟨by decide +kernel, rfl⟩
theorem d32_14 : Jp jdk_68_method_31_code 14 (.ifCond .eq) 45 17 := ⟨31, by decide +kernel, by decide, by decide, rfl⟩
theorem d32_17 : Dc jdk_68_method_31_code 17 (.iload_n 1) 1 18 := ⟨by decide +kernel, rfl⟩
theorem d32_18 : Dc jdk_68_method_31_code 18 (.invokestatic 191) 3 21 := ⟨by decide +kernel, rfl⟩
theorem d32_21 : Jp jdk_68_method_31_code 21 (.ifCond .eq) 45 24 := ⟨24, by decide +kernel, by decide, by decide, rfl⟩
theorem d32_24 : Dc jdk_68_method_31_code 24 (.aload_n 0) 1 25 := ⟨by decide +kernel, rfl⟩
theorem d32_25 : Dc jdk_68_method_31_code 25 (.getfield 15) 3 28 := ⟨by decide +kernel, rfl⟩
theorem d32_28 : Dc jdk_68_method_31_code 28 (.aload_n 0) 1 29 := ⟨by decide +kernel, rfl⟩
theorem d32_29 : Dc jdk_68_method_31_code 29 .dup 1 30 := ⟨by decide +kernel, rfl⟩
theorem d32_30 : Dc jdk_68_method_31_code 30 (.getfield 79) 3 33 := ⟨by decide +kernel, rfl⟩
theorem d32_33 : Dc jdk_68_method_31_code 33 .dup_x1 1 34 := ⟨by decide +kernel, rfl⟩
theorem d32_34 : Dc jdk_68_method_31_code 34 (.iconst 1) 1 35 := ⟨by decide +kernel, rfl⟩
theorem d32_35 : Dc jdk_68_method_31_code 35 .iadd 1 36 := ⟨by decide +kernel, rfl⟩
theorem d32_36 : Dc jdk_68_method_31_code 36 (.putfield 79) 3 39 := ⟨by decide +kernel, rfl⟩
theorem d32_39 : Dc jdk_68_method_31_code 39 (.iload_n 1) 1 40 := ⟨by decide +kernel, rfl⟩
theorem d32_40 : Dc jdk_68_method_31_code 40 .i2b 1 41 := ⟨by decide +kernel, rfl⟩
theorem d32_41 : Dc jdk_68_method_31_code 41 .bastore 1 42 := ⟨by decide +kernel, rfl⟩
theorem d32_42 : Jp jdk_68_method_31_code 42 .goto 75 45 := ⟨33, by decide +kernel, by decide, by decide, rfl⟩
theorem d32_45 : Dc jdk_68_method_31_code 45 (.aload_n 0) 1 46 := ⟨by decide +kernel, rfl⟩
theorem d32_46 : Dc jdk_68_method_31_code 46 (.invokevirtual 83) 3 49 := ⟨by decide +kernel, rfl⟩
theorem d32_49 : Jp jdk_68_method_31_code 49 (.ifCond .eq) 56 52 := ⟨7, by decide +kernel, by decide, by decide, rfl⟩
theorem d32_52 : Dc jdk_68_method_31_code 52 (.aload_n 0) 1 53 := ⟨by decide +kernel, rfl⟩
theorem d32_53 : Dc jdk_68_method_31_code 53 (.invokevirtual 195) 3 56 := ⟨by decide +kernel, rfl⟩
theorem d32_56 : Dc jdk_68_method_31_code 56 (.aload_n 0) 1 57 := ⟨by decide +kernel, rfl⟩
theorem d32_57 : Dc jdk_68_method_31_code 57 (.getfield 15) 3 60 := ⟨by decide +kernel, rfl⟩
theorem d32_60 : Dc jdk_68_method_31_code 60 (.aload_n 0) 1 61 := ⟨by decide +kernel, rfl⟩
theorem d32_61 : Dc jdk_68_method_31_code 61 .dup 1 62 := ⟨by decide +kernel, rfl⟩
theorem d32_62 : Dc jdk_68_method_31_code 62 (.getfield 79) 3 65 := ⟨by decide +kernel, rfl⟩
theorem d32_65 : Dc jdk_68_method_31_code 65 .dup_x1 1 66 := ⟨by decide +kernel, rfl⟩
theorem d32_66 : Dc jdk_68_method_31_code 66 (.iconst 1) 1 67 := ⟨by decide +kernel, rfl⟩
theorem d32_67 : Dc jdk_68_method_31_code 67 .iadd 1 68 := ⟨by decide +kernel, rfl⟩
theorem d32_68 : Dc jdk_68_method_31_code 68 (.putfield 79) 3 71 := ⟨by decide +kernel, rfl⟩
theorem d32_71 : Dc jdk_68_method_31_code 71 (.iload_n 1) 1 72 := ⟨by decide +kernel, rfl⟩
theorem d32_72 : Dc jdk_68_method_31_code 72 (.invokestatic 197) 3 75 := ⟨by decide +kernel, rfl⟩
theorem d32_75 : Dc jdk_68_method_31_code 75 (.aload_n 0) 1 76 := ⟨by decide +kernel, rfl⟩
theorem d32_76 : Dc jdk_68_method_31_code 76 .areturn 1 77 := ⟨by decide +kernel, rfl⟩
theorem d33_0 : Dc jdk_67_method_14_code 0 (.aload_n 0) 1 1 := ⟨by decide +kernel, rfl⟩
theorem d33_1 : Dc jdk_67_method_14_code 1 (.iload_n 1) 1 2 := ⟨by decide +kernel, rfl⟩
theorem d33_2 : Dc jdk_67_method_14_code 2 (.invokespecial 50) 3 5 := ⟨by decide +kernel, rfl⟩
theorem d33_5 : Dc jdk_67_method_14_code 5 .pop 1 6 := ⟨by decide +kernel, rfl⟩
theorem d33_6 : Dc jdk_67_method_14_code 6 (.aload_n 0) 1 7 := ⟨by decide +kernel, rfl⟩
theorem d33_7 : Dc jdk_67_method_14_code 7 .areturn 1 8 := ⟨by decide +kernel, rfl⟩
theorem d34_0 : Dc jdk_68_method_71_code 0 (.getstatic 18) 3 3 := ⟨by decide +kernel, rfl⟩
theorem d34_3 : Jp jdk_68_method_71_code 3 (.ifCond .eq) 21 6 := ⟨18, by decide +kernel, by decide, by decide, rfl⟩
theorem d34_6 : Dc jdk_68_method_71_code 6 (.aload_n 0) 1 7 := ⟨by decide +kernel, rfl⟩
theorem d34_7 : Dc jdk_68_method_71_code 7 (.getfield 22) 3 10 := ⟨by decide +kernel, rfl⟩
theorem d34_10 : Dc jdk_68_method_71_code 10 (.aload_n 1) 1 11 := ⟨by decide +kernel, rfl⟩
theorem d34_11 : Dc jdk_68_method_71_code 11 (.invokevirtual 40) 3 14 := ⟨by decide +kernel, rfl⟩
theorem d34_14 : Jp jdk_68_method_71_code 14 (.if_icmp .eq) 21 17 := ⟨7, by decide +kernel, by decide, by decide, rfl⟩
theorem d34_17 : Dc jdk_68_method_71_code 17 (.aload_n 0) 1 18 := ⟨by decide +kernel, rfl⟩
theorem d34_18 : Dc jdk_68_method_71_code 18 (.invokevirtual 195) 3 21 := ⟨by decide +kernel, rfl⟩
theorem d34_21 : Dc jdk_68_method_71_code 21 .return_ 1 22 := ⟨by decide +kernel, rfl⟩
theorem d35_0 : Dc jdk_42_method_147_code 0 (.aload_n 0) 1 1 := ⟨by decide +kernel, rfl⟩
theorem d35_1 : Dc jdk_42_method_147_code 1 (.invokevirtual 335) 3 4 := ⟨by decide +kernel, rfl⟩
theorem d35_4 : Dc jdk_42_method_147_code 4 (.iload_n 3) 1 5 := ⟨by decide +kernel, rfl⟩
theorem d35_5 : Jp jdk_42_method_147_code 5 (.if_icmp .ne) 28 8 := ⟨23, by decide +kernel, by decide, by decide, rfl⟩
theorem d35_8 : Dc jdk_42_method_147_code 8 (.aload_n 0) 1 9 := ⟨by decide +kernel, rfl⟩
theorem d35_9 : Dc jdk_42_method_147_code 9 (.getfield 9) 3 12 := ⟨by decide +kernel, rfl⟩
theorem d35_12 : Dc jdk_42_method_147_code 12 (.iconst 0) 1 13 := ⟨by decide +kernel, rfl⟩
theorem d35_13 : Dc jdk_42_method_147_code 13 (.aload_n 1) 1 14 := ⟨by decide +kernel, rfl⟩
theorem d35_14 : Dc jdk_42_method_147_code 14 (.iload_n 2) 1 15 := ⟨by decide +kernel, rfl⟩
theorem d35_15 : Dc jdk_42_method_147_code 15 (.iload_n 3) 1 16 := ⟨by decide +kernel, rfl⟩
theorem d35_16 : Dc jdk_42_method_147_code 16 .ishl 1 17 := ⟨by decide +kernel, rfl⟩
theorem d35_17 : Dc jdk_42_method_147_code 17 (.aload_n 0) 1 18 := ⟨by decide +kernel, rfl⟩
theorem d35_18 : Dc jdk_42_method_147_code 18 (.getfield 9) 3 21 := ⟨by decide +kernel, rfl⟩
theorem d35_21 : Dc jdk_42_method_147_code 21 .arraylength 1 22 := ⟨by decide +kernel, rfl⟩
theorem d35_22 : Dc jdk_42_method_147_code 22 (.invokestatic 212) 3 25 := ⟨by decide +kernel, rfl⟩
theorem d35_25 : Jp jdk_42_method_147_code 25 .goto 43 28 := ⟨18, by decide +kernel, by decide, by decide, rfl⟩
theorem d35_28 : Dc jdk_42_method_147_code 28 (.aload_n 0) 1 29 := ⟨by decide +kernel, rfl⟩
theorem d35_29 : Dc jdk_42_method_147_code 29 (.getfield 9) 3 32 := ⟨by decide +kernel, rfl⟩
theorem d35_32 : Dc jdk_42_method_147_code 32 (.iconst 0) 1 33 := ⟨by decide +kernel, rfl⟩
theorem d35_33 : Dc jdk_42_method_147_code 33 (.aload_n 1) 1 34 := ⟨by decide +kernel, rfl⟩
theorem d35_34 : Dc jdk_42_method_147_code 34 (.iload_n 2) 1 35 := ⟨by decide +kernel, rfl⟩
theorem d35_35 : Dc jdk_42_method_147_code 35 (.aload_n 0) 1 36 := ⟨by decide +kernel, rfl⟩
theorem d35_36 : Dc jdk_42_method_147_code 36 (.getfield 9) 3 39 := ⟨by decide +kernel, rfl⟩
theorem d35_39 : Dc jdk_42_method_147_code 39 .arraylength 1 40 := ⟨by decide +kernel, rfl⟩
theorem d35_40 : Dc jdk_42_method_147_code 40 (.invokestatic 106) 3 43 := ⟨by decide +kernel, rfl⟩
theorem d35_43 : Dc jdk_42_method_147_code 43 .return_ 1 44 := ⟨by decide +kernel, rfl⟩
theorem d36_0 : Dc jdk_68_method_73_code 0 (.aload_n 0) 1 1 := ⟨by decide +kernel, rfl⟩
theorem d36_1 : Dc jdk_68_method_73_code 1 (.aload_n 2) 1 2 := ⟨by decide +kernel, rfl⟩
theorem d36_2 : Dc jdk_68_method_73_code 2 (.invokevirtual 397) 3 5 := ⟨by decide +kernel, rfl⟩
theorem d36_5 : Dc jdk_68_method_73_code 5 (.aload_n 2) 1 6 := ⟨by decide +kernel, rfl⟩
theorem d36_6 : Dc jdk_68_method_73_code 6 (.aload_n 0) 1 7 := ⟨by decide +kernel, rfl⟩
theorem d36_7 : Dc jdk_68_method_73_code 7 (.getfield 15) 3 10 := ⟨by decide +kernel, rfl⟩
theorem d36_10 : Dc jdk_68_method_73_code 10 (.iload_n 1) 1 11 := ⟨by decide +kernel, rfl⟩
theorem d36_11 : Dc jdk_68_method_73_code 11 (.aload_n 0) 1 12 := ⟨by decide +kernel, rfl⟩
theorem d36_12 : Dc jdk_68_method_73_code 12 (.getfield 22) 3 15 := ⟨by decide +kernel, rfl⟩
theorem d36_15 : Dc jdk_68_method_73_code 15 (.invokevirtual 399) 3 18 := ⟨by decide +kernel, rfl⟩
theorem d36_18 : Dc jdk_68_method_73_code 18 .return_ 1 19 := ⟨by decide +kernel, rfl⟩
theorem d37_0 : Dc jdk_68_method_22_code 0 (.aload_n 1) 1 1 := ⟨by decide +kernel, rfl⟩
theorem d37_1 : Jp jdk_68_method_22_code 1 .ifnonnull 9 4 := ⟨8, by decide +kernel, by decide, by decide, rfl⟩
theorem d37_9 : Dc jdk_68_method_22_code 9 (.aload_n 1) 1 10 := ⟨by decide +kernel, rfl⟩
theorem d37_10 : Dc jdk_68_method_22_code 10 (.invokevirtual 32) 3 13 := ⟨by decide +kernel, rfl⟩
theorem d37_13 : Dc jdk_68_method_22_code 13 (.istore_n 2) 1 14 := ⟨by decide +kernel, rfl⟩
theorem d37_14 : Dc jdk_68_method_22_code 14 (.aload_n 0) 1 15 := ⟨by decide +kernel, rfl⟩
theorem d37_15 : Dc jdk_68_method_22_code 15 (.aload_n 0) 1 16 := ⟨by decide +kernel, rfl⟩
theorem d37_16 : Dc jdk_68_method_22_code 16 (.getfield 79) 3 19 := ⟨by decide +kernel, rfl⟩
theorem d37_19 : Dc jdk_68_method_22_code 19 (.iload_n 2) 1 20 := ⟨by decide +kernel, rfl⟩
theorem d37_20 : Dc jdk_68_method_22_code 20 .iadd 1 21 := ⟨by decide +kernel, rfl⟩
theorem d37_21 : Dc jdk_68_method_22_code 21 (.invokevirtual 100) 3 24 := ⟨by decide +kernel, rfl⟩
theorem d37_24 : Dc jdk_68_method_22_code 24 (.aload_n 0) 1 25 := ⟨by decide +kernel, rfl⟩
theorem d37_25 : Dc jdk_68_method_22_code 25 (.aload_n 0) 1 26 := ⟨by decide +kernel, rfl⟩
theorem d37_26 : Dc jdk_68_method_22_code 26 (.getfield 79) 3 29 := ⟨by decide +kernel, rfl⟩
theorem d37_29 : Dc jdk_68_method_22_code 29 (.aload_n 1) 1 30 := ⟨by decide +kernel, rfl⟩
theorem d37_30 : Dc jdk_68_method_22_code 30 (.invokevirtual 208) 3 33 := ⟨by decide +kernel, rfl⟩
theorem d37_33 : Dc jdk_68_method_22_code 33 (.aload_n 0) 1 34 := ⟨by decide +kernel, rfl⟩
theorem d37_34 : Dc jdk_68_method_22_code 34 .dup 1 35 := ⟨by decide +kernel, rfl⟩
theorem d37_35 : Dc jdk_68_method_22_code 35 (.getfield 79) 3 38 := ⟨by decide +kernel, rfl⟩
theorem d37_38 : Dc jdk_68_method_22_code 38 (.iload_n 2) 1 39 := ⟨by decide +kernel, rfl⟩
theorem d37_39 : Dc jdk_68_method_22_code 39 .iadd 1 40 := ⟨by decide +kernel, rfl⟩
theorem d37_40 : Dc jdk_68_method_22_code 40 (.putfield 79) 3 43 := ⟨by decide +kernel, rfl⟩
theorem d37_43 : Dc jdk_68_method_22_code 43 (.aload_n 0) 1 44 := ⟨by decide +kernel, rfl⟩
theorem d37_44 : Dc jdk_68_method_22_code 44 .areturn 1 45 := ⟨by decide +kernel, rfl⟩
theorem d38_0 : Dc jdk_67_method_7_code 0 (.aload_n 0) 1 1 := ⟨by decide +kernel, rfl⟩
theorem d38_1 : Dc jdk_67_method_7_code 1 (.aload_n 1) 1 2 := ⟨by decide +kernel, rfl⟩
theorem d38_2 : Dc jdk_67_method_7_code 2 (.invokespecial 29) 3 5 := ⟨by decide +kernel, rfl⟩
theorem d38_5 : Dc jdk_67_method_7_code 5 .pop 1 6 := ⟨by decide +kernel, rfl⟩
theorem d38_6 : Dc jdk_67_method_7_code 6 (.aload_n 0) 1 7 := ⟨by decide +kernel, rfl⟩
theorem d38_7 : Dc jdk_67_method_7_code 7 .areturn 1 8 := ⟨by decide +kernel, rfl⟩
theorem d39_0 : Dc jdk_68_method_2_code 0 (.aload_n 0) 1 1 := ⟨by decide +kernel, rfl⟩
theorem d39_1 : Dc jdk_68_method_2_code 1 (.invokespecial 3) 3 4 := ⟨by decide +kernel, rfl⟩
theorem d39_4 : Dc jdk_68_method_2_code 4 (.getstatic 18) 3 7 := ⟨by decide +kernel, rfl⟩
theorem d39_7 : Jp jdk_68_method_2_code 7 (.ifCond .eq) 25 10 := ⟨18, by decide +kernel, by decide, by decide, rfl⟩
theorem d39_10 : Dc jdk_68_method_2_code 10 (.aload_n 0) 1 11 := ⟨by decide +kernel, rfl⟩
theorem d39_11 : Dc jdk_68_method_2_code 11 (.iload_n 1) 1 12 := ⟨by decide +kernel, rfl⟩
theorem d39_12 : Dc jdk_68_method_2_code 12 (.newarray .byte) 2 14 := ⟨by decide +kernel, rfl⟩
theorem d39_14 : Dc jdk_68_method_2_code 14 (.putfield 15) 3 17 := ⟨by decide +kernel, rfl⟩
theorem d39_17 : Dc jdk_68_method_2_code 17 (.aload_n 0) 1 18 := ⟨by decide +kernel, rfl⟩
theorem d39_18 : Dc jdk_68_method_2_code 18 (.iconst 0) 1 19 := ⟨by decide +kernel, rfl⟩
theorem d39_19 : Dc jdk_68_method_2_code 19 (.putfield 22) 3 22 := ⟨by decide +kernel, rfl⟩
theorem d39_22 : Jp jdk_68_method_2_code 22 .goto 38 25 := ⟨16, by decide +kernel, by decide, by decide, rfl⟩
theorem d39_38 : Dc jdk_68_method_2_code 38 .return_ 1 39 := ⟨by decide +kernel, rfl⟩
theorem d40_0 : Dc jdk_67_method_2_code 0 (.aload_n 0) 1 1 := ⟨by decide +kernel, rfl⟩
theorem d40_1 : Dc jdk_67_method_2_code 1 (.iload_n 1) 1 2 := ⟨by decide +kernel, rfl⟩
theorem d40_2 : Dc jdk_67_method_2_code 2 (.invokespecial 1) 3 5 := ⟨by decide +kernel, rfl⟩
theorem d40_5 : Dc jdk_67_method_2_code 5 .return_ 1 6 := ⟨by decide +kernel, rfl⟩
theorem d41_0 : Dc jdk_68_method_64_code 0 (.aload_n 0) 1 1 := ⟨by decide +kernel, rfl⟩
theorem d41_1 : Dc jdk_68_method_64_code 1 (.getfield 15) 3 4 := ⟨by decide +kernel, rfl⟩
theorem d41_4 : Dc jdk_68_method_64_code 4 .areturn 1 5 := ⟨by decide +kernel, rfl⟩
theorem d42_0 : Dc jdk_68_method_6_code 0 (.aload_n 0) 1 1 := ⟨by decide +kernel, rfl⟩
theorem d42_1 : Dc jdk_68_method_6_code 1 (.getfield 79) 3 4 := ⟨by decide +kernel, rfl⟩
theorem d42_4 : Dc jdk_68_method_6_code 4 .ireturn 1 5 := ⟨by decide +kernel, rfl⟩
theorem d43_0 : Dc jdk_67_method_93_code 0 (.aload_n 0) 1 1 := ⟨by decide +kernel, rfl⟩
theorem d43_1 : Dc jdk_67_method_93_code 1 (.invokespecial 343) 3 4 := ⟨by decide +kernel, rfl⟩
theorem d43_4 : Dc jdk_67_method_93_code 4 .ireturn 1 5 := ⟨by decide +kernel, rfl⟩
theorem d44_0 : Dc jdk_42_method_150_code 0 (.aload_n 0) 1 1 := ⟨by decide +kernel, rfl⟩
theorem d44_1 : Dc jdk_42_method_150_code 1 (.invokespecial 1) 3 4 := ⟨by decide +kernel, rfl⟩
theorem d44_4 : Dc jdk_42_method_150_code 4 (.aload_n 1) 1 5 := ⟨by decide +kernel, rfl⟩
theorem d44_5 : Dc jdk_42_method_150_code 5 (.invokevirtual 552) 3 8 := ⟨by decide +kernel, rfl⟩
theorem d44_8 : Dc jdk_42_method_150_code 8 (.astore_n 3) 1 9 := ⟨by decide +kernel, rfl⟩
theorem d44_9 : Dc jdk_42_method_150_code 9 (.aload_n 1) 1 10 := ⟨by decide +kernel, rfl⟩
theorem d44_10 : Dc jdk_42_method_150_code 10 (.invokevirtual 549) 3 13 := ⟨by decide +kernel, rfl⟩
theorem d44_13 : Dc jdk_42_method_150_code 13 (.istore 4) 2 15 := ⟨by decide +kernel, rfl⟩
theorem d44_15 : Dc jdk_42_method_150_code 15 (.aload_n 1) 1 16 := ⟨by decide +kernel, rfl⟩
theorem d44_16 : Dc jdk_42_method_150_code 16 (.invokevirtual 1047) 3 19 := ⟨by decide +kernel, rfl⟩
theorem d44_19 : Jp jdk_42_method_150_code 19 (.ifCond .eq) 41 22 := ⟨22, by decide +kernel, by decide, by decide, rfl⟩
theorem d44_22 : Dc jdk_42_method_150_code 22 (.aload_n 0) 1 23 := ⟨by decide +kernel, rfl⟩
theorem d44_23 : Dc jdk_42_method_150_code 23 (.iconst 0) 1 24 := ⟨by decide +kernel, rfl⟩
theorem d44_24 : Dc jdk_42_method_150_code 24 (.putfield 15) 3 27 := ⟨by decide +kernel, rfl⟩
theorem d44_27 : Dc jdk_42_method_150_code 27 (.aload_n 0) 1 28 := ⟨by decide +kernel, rfl⟩
theorem d44_28 : Dc jdk_42_method_150_code 28 (.aload_n 3) 1 29 := ⟨by decide +kernel, rfl⟩
theorem d44_29 : Dc jdk_42_method_150_code 29 (.iconst 0) 1 30 := ⟨by decide +kernel, rfl⟩
theorem d44_30 : Dc jdk_42_method_150_code 30 (.iload 4) 2 32 := ⟨by decide +kernel, rfl⟩
theorem d44_32 : Dc jdk_42_method_150_code 32 (.invokestatic 54) 3 35 := ⟨by decide +kernel, rfl⟩
theorem d44_35 : Dc jdk_42_method_150_code 35 (.putfield 9) 3 38 := ⟨by decide +kernel, rfl⟩
theorem d44_38 : Jp jdk_42_method_150_code 38 .goto 97 41 := ⟨59, by decide +kernel, by decide, by decide, rfl⟩
theorem d44_41 : Dc jdk_42_method_150_code 41 (.getstatic 38) 3 44 := ⟨by decide +kernel, rfl⟩
theorem d44_44 : Jp jdk_42_method_150_code 44 (.ifCond .eq) 79 47 := ⟨35, by decide +kernel, by decide, by decide, rfl⟩
theorem d44_47 : Dc jdk_42_method_150_code 47 (.aload_n 1) 1 48 := ⟨by decide +kernel, rfl⟩
theorem d44_48 : Dc jdk_42_method_150_code 48 (.getfield 1048) 3 51 := ⟨by decide +kernel, rfl⟩
theorem d44_51 : Jp jdk_42_method_150_code 51 (.ifCond .eq) 79 54 := ⟨28, by decide +kernel, by decide, by decide, rfl⟩
theorem d44_79 : Dc jdk_42_method_150_code 79 (.aload_n 0) 1 80 := ⟨by decide +kernel, rfl⟩
theorem d44_80 : Dc jdk_42_method_150_code 80 (.iconst 1) 1 81 := ⟨by decide +kernel, rfl⟩
theorem d44_81 : Dc jdk_42_method_150_code 81 (.putfield 15) 3 84 := ⟨by decide +kernel, rfl⟩
theorem d44_84 : Dc jdk_42_method_150_code 84 (.aload_n 0) 1 85 := ⟨by decide +kernel, rfl⟩
theorem d44_85 : Dc jdk_42_method_150_code 85 (.aload_n 3) 1 86 := ⟨by decide +kernel, rfl⟩
theorem d44_86 : Dc jdk_42_method_150_code 86 (.iconst 0) 1 87 := ⟨by decide +kernel, rfl⟩
theorem d44_87 : Dc jdk_42_method_150_code 87 (.iload 4) 2 89 := ⟨by decide +kernel, rfl⟩
theorem d44_89 : Dc jdk_42_method_150_code 89 (.iconst 1) 1 90 := ⟨by decide +kernel, rfl⟩
theorem d44_90 : Dc jdk_42_method_150_code 90 .ishl 1 91 := ⟨by decide +kernel, rfl⟩
theorem d44_91 : Dc jdk_42_method_150_code 91 (.invokestatic 54) 3 94 := ⟨by decide +kernel, rfl⟩
theorem d44_94 : Dc jdk_42_method_150_code 94 (.putfield 9) 3 97 := ⟨by decide +kernel, rfl⟩
theorem d44_97 : Dc jdk_42_method_150_code 97 .return_ 1 98 := ⟨by decide +kernel, rfl⟩
theorem d45_0 : Dc jdk_42_method_53_code 0 (.aload_n 0) 1 1 := ⟨by decide +kernel, rfl⟩
theorem d45_1 : Dc jdk_42_method_53_code 1 (.aload_n 1) 1 2 := ⟨by decide +kernel, rfl⟩
theorem d45_2 : Dc jdk_42_method_53_code 2 .aconst_null 1 3 := ⟨by decide +kernel, rfl⟩
theorem d45_3 : Dc jdk_42_method_53_code 3 (.invokespecial 489) 3 6 := ⟨by decide +kernel, rfl⟩
theorem d45_6 : Dc jdk_42_method_53_code 6 .return_ 1 7 := ⟨by decide +kernel, rfl⟩
theorem d46_0 : Dc jdk_67_method_42_code 0 (.new 18) 3 3 := ⟨by decide +kernel, rfl⟩
theorem d46_3 : Dc jdk_67_method_42_code 3 .dup 1 4 := ⟨by decide +kernel, rfl⟩
theorem d46_4 : Dc jdk_67_method_42_code 4 (.aload_n 0) 1 5 := ⟨by decide +kernel, rfl⟩
theorem d46_5 : Dc jdk_67_method_42_code 5 (.invokespecial 137) 3 8 := ⟨by decide +kernel, rfl⟩
theorem d46_8 : Dc jdk_67_method_42_code 8 .areturn 1 9 := ⟨by decide +kernel, rfl⟩
theorem d47_0 : Dc jdk_43_method_46_code 0 (.iconst 1) 1 1 := ⟨by decide +kernel, rfl⟩
theorem d47_1 : Dc jdk_43_method_46_code 1 (.newarray .byte) 2 3 := ⟨by decide +kernel, rfl⟩
theorem d47_3 : Dc jdk_43_method_46_code 3 .dup 1 4 := ⟨by decide +kernel, rfl⟩
theorem d47_4 : Dc jdk_43_method_46_code 4 (.iconst 0) 1 5 := ⟨by decide +kernel, rfl⟩
theorem d47_5 : Dc jdk_43_method_46_code 5 (.iload_n 0) 1 6 := ⟨by decide +kernel, rfl⟩
theorem d47_6 : Dc jdk_43_method_46_code 6 .i2b 1 7 := ⟨by decide +kernel, rfl⟩
theorem d47_7 : Dc jdk_43_method_46_code 7 .bastore 1 8 := ⟨by decide +kernel, rfl⟩
theorem d47_8 : Dc jdk_43_method_46_code 8 .areturn 1 9 := ⟨by decide +kernel, rfl⟩
theorem d48_0 : Dc jdk_52_method_24_code 0 (.iconst 2) 1 1 := ⟨by decide +kernel, rfl⟩
theorem d48_1 : Dc jdk_52_method_24_code 1 (.newarray .byte) 2 3 := ⟨by decide +kernel, rfl⟩
theorem d48_3 : Dc jdk_52_method_24_code 3 (.astore_n 1) 1 4 := ⟨by decide +kernel, rfl⟩
theorem d48_4 : Dc jdk_52_method_24_code 4 (.aload_n 1) 1 5 := ⟨by decide +kernel, rfl⟩
theorem d48_5 : Dc jdk_52_method_24_code 5 (.iconst 0) 1 6 := ⟨by decide +kernel, rfl⟩
theorem d48_6 : Dc jdk_52_method_24_code 6 (.iload_n 0) 1 7 := ⟨by decide +kernel, rfl⟩
theorem d48_7 : Dc jdk_52_method_24_code 7 (.invokestatic 111) 3 10 := ⟨by decide +kernel, rfl⟩
theorem d48_10 : Dc jdk_52_method_24_code 10 (.aload_n 1) 1 11 := ⟨by decide +kernel, rfl⟩
theorem d48_11 : Dc jdk_52_method_24_code 11 .areturn 1 12 := ⟨by decide +kernel, rfl⟩
theorem d49_0 : Dc jdk_42_method_151_code 0 (.aload_n 0) 1 1 := ⟨by decide +kernel, rfl⟩
theorem d49_1 : Dc jdk_42_method_151_code 1 (.invokespecial 1) 3 4 := ⟨by decide +kernel, rfl⟩
theorem d49_4 : Dc jdk_42_method_151_code 4 (.aload_n 0) 1 5 := ⟨by decide +kernel, rfl⟩
theorem d49_5 : Dc jdk_42_method_151_code 5 (.aload_n 1) 1 6 := ⟨by decide +kernel, rfl⟩
theorem d49_6 : Dc jdk_42_method_151_code 6 (.putfield 9) 3 9 := ⟨by decide +kernel, rfl⟩
theorem d49_9 : Dc jdk_42_method_151_code 9 (.aload_n 0) 1 10 := ⟨by decide +kernel, rfl⟩
theorem d49_10 : Dc jdk_42_method_151_code 10 (.iload_n 2) 1 11 := ⟨by decide +kernel, rfl⟩
theorem d49_11 : Dc jdk_42_method_151_code 11 (.putfield 15) 3 14 := ⟨by decide +kernel, rfl⟩
theorem d49_14 : Dc jdk_42_method_151_code 14 .return_ 1 15 := ⟨by decide +kernel, rfl⟩
theorem d50_0 : Dc jdk_42_method_139_code 0 (.getstatic 38) 3 3 := ⟨by decide +kernel, rfl⟩
theorem d50_3 : Jp jdk_42_method_139_code 3 (.ifCond .eq) 26 6 := ⟨23, by decide +kernel, by decide, by decide, rfl⟩
theorem d50_6 : Dc jdk_42_method_139_code 6 (.iload_n 0) 1 7 := ⟨by decide +kernel, rfl⟩
theorem d50_7 : Dc jdk_42_method_139_code 7 (.invokestatic 1015) 3 10 := ⟨by decide +kernel, rfl⟩
theorem d50_10 : Jp jdk_42_method_139_code 10 (.ifCond .eq) 26 13 := ⟨16, by decide +kernel, by decide, by decide, rfl⟩
theorem d50_13 : Dc jdk_42_method_139_code 13 (.new 10) 3 16 := ⟨by decide +kernel, rfl⟩
theorem d50_16 : Dc jdk_42_method_139_code 16 .dup 1 17 := ⟨by decide +kernel, rfl⟩
theorem d50_17 : Dc jdk_42_method_139_code 17 (.iload_n 0) 1 18 := ⟨by decide +kernel, rfl⟩
theorem d50_18 : Dc jdk_42_method_139_code 18 (.invokestatic 1018) 3 21 := ⟨by decide +kernel, rfl⟩
theorem d50_21 : Dc jdk_42_method_139_code 21 (.iconst 0) 1 22 := ⟨by decide +kernel, rfl⟩
theorem d50_22 : Dc jdk_42_method_139_code 22 (.invokespecial 209) 3 25 := ⟨by decide +kernel, rfl⟩
theorem d50_25 : Dc jdk_42_method_139_code 25 .areturn 1 26 := ⟨by decide +kernel, rfl⟩
theorem d50_26 : Dc jdk_42_method_139_code 26 (.new 10) 3 29 := ⟨by decide +kernel, rfl⟩
theorem d50_29 : Dc jdk_42_method_139_code 29 .dup 1 30 := ⟨by decide +kernel, rfl⟩
theorem d50_30 : Dc jdk_42_method_139_code 30 (.iload_n 0) 1 31 := ⟨by decide +kernel, rfl⟩
theorem d50_31 : Dc jdk_42_method_139_code 31 (.invokestatic 1021) 3 34 := ⟨by decide +kernel, rfl⟩
theorem d50_34 : Dc jdk_42_method_139_code 34 (.iconst 1) 1 35 := ⟨by decide +kernel, rfl⟩
theorem d50_35 : Dc jdk_42_method_139_code 35 (.invokespecial 209) 3 38 := ⟨by decide +kernel, rfl⟩
theorem d50_38 : Dc jdk_42_method_139_code 38 .areturn 1 39 := ⟨by decide +kernel, rfl⟩
theorem d51_0 : Dc jdk_52_method_21_code 0 (.iconst 0) 1 1 := ⟨by decide +kernel, rfl⟩
theorem d51_1 : Dc jdk_52_method_21_code 1 (.istore 5) 2 3 := ⟨by decide +kernel, rfl⟩
theorem d51_3 : Dc jdk_52_method_21_code 3 (.iload 5) 2 5 := ⟨by decide +kernel, rfl⟩
theorem d51_5 : Dc jdk_52_method_21_code 5 (.iload 4) 2 7 := ⟨by decide +kernel, rfl⟩
theorem d51_7 : Jp jdk_52_method_21_code 7 (.if_icmp .ge) 44 10 := ⟨37, by decide +kernel, by decide, by decide, rfl⟩
theorem d51_10 : Dc jdk_52_method_21_code 10 (.aload_n 0) 1 11 := ⟨by decide +kernel, rfl⟩
theorem d51_11 : Dc jdk_52_method_21_code 11 (.iload_n 1) 1 12 := ⟨by decide +kernel, rfl⟩
theorem d51_12 : Dc jdk_52_method_21_code 12 .caload 1 13 := ⟨by decide +kernel, rfl⟩
theorem d51_13 : Dc jdk_52_method_21_code 13 (.istore 6) 2 15 := ⟨by decide +kernel, rfl⟩
theorem d51_15 : Dc jdk_52_method_21_code 15 (.iload 6) 2 17 := ⟨by decide +kernel, rfl⟩
theorem d51_17 : Dc jdk_52_method_21_code 17 (.sipush 255) 3 20 := ⟨by decide +kernel, rfl⟩
theorem d51_20 : Jp jdk_52_method_21_code 20 (.if_icmp .le) 26 23 := ⟨6, by decide +kernel, by decide, by decide, rfl⟩
theorem d51_23 : Dc jdk_52_method_21_code 23 (.iload 5) 2 25 := ⟨by decide +kernel, rfl⟩
theorem d51_25 : Dc jdk_52_method_21_code 25 .ireturn 1 26 := ⟨by decide +kernel, rfl⟩
theorem d51_26 : Dc jdk_52_method_21_code 26 (.aload_n 2) 1 27 := ⟨by decide +kernel, rfl⟩
theorem d51_27 : Dc jdk_52_method_21_code 27 (.iload_n 3) 1 28 := ⟨by decide +kernel, rfl⟩
theorem d51_28 : Dc jdk_52_method_21_code 28 (.iload 6) 2 30 := ⟨by decide +kernel, rfl⟩
theorem d51_30 : Dc jdk_52_method_21_code 30 .i2b 1 31 := ⟨by decide +kernel, rfl⟩
theorem d51_31 : Dc jdk_52_method_21_code 31 .bastore 1 32 := ⟨by decide +kernel, rfl⟩
theorem d51_32 : Dc jdk_52_method_21_code 32 (.iinc 1 1) 3 35 := ⟨by decide +kernel, rfl⟩
theorem d51_35 : Dc jdk_52_method_21_code 35 (.iinc 3 1) 3 38 := ⟨by decide +kernel, rfl⟩
theorem d51_38 : Dc jdk_52_method_21_code 38 (.iinc 5 1) 3 41 := ⟨by decide +kernel, rfl⟩
theorem d51_41 : Jp jdk_52_method_21_code 41 .goto 3 44 := ⟨-38, by decide +kernel, by decide, by decide, rfl⟩
theorem d51_44 : Dc jdk_52_method_21_code 44 (.iload 4) 2 46 := ⟨by decide +kernel, rfl⟩
theorem d51_46 : Dc jdk_52_method_21_code 46 .ireturn 1 47 := ⟨by decide +kernel, rfl⟩
theorem d52_0 : Dc jdk_52_method_14_code 0 (.iload_n 2) 1 1 := ⟨by decide +kernel, rfl⟩
theorem d52_1 : Dc jdk_52_method_14_code 1 (.invokestatic 107) 3 4 := ⟨by decide +kernel, rfl⟩
theorem d52_4 : Dc jdk_52_method_14_code 4 (.astore_n 3) 1 5 := ⟨by decide +kernel, rfl⟩
theorem d52_5 : Dc jdk_52_method_14_code 5 (.iconst 0) 1 6 := ⟨by decide +kernel, rfl⟩
theorem d52_6 : Dc jdk_52_method_14_code 6 (.istore 4) 2 8 := ⟨by decide +kernel, rfl⟩
theorem d52_8 : Dc jdk_52_method_14_code 8 (.iload 4) 2 10 := ⟨by decide +kernel, rfl⟩
theorem d52_10 : Dc jdk_52_method_14_code 10 (.iload_n 2) 1 11 := ⟨by decide +kernel, rfl⟩
theorem d52_11 : Jp jdk_52_method_14_code 11 (.if_icmp .ge) 32 14 := ⟨21, by decide +kernel, by decide, by decide, rfl⟩
theorem d52_14 : Dc jdk_52_method_14_code 14 (.aload_n 3) 1 15 := ⟨by decide +kernel, rfl⟩
theorem d52_15 : Dc jdk_52_method_14_code 15 (.iload 4) 2 17 := ⟨by decide +kernel, rfl⟩
theorem d52_17 : Dc jdk_52_method_14_code 17 (.aload_n 0) 1 18 := ⟨by decide +kernel, rfl⟩
theorem d52_18 : Dc jdk_52_method_14_code 18 (.iload_n 1) 1 19 := ⟨by decide +kernel, rfl⟩
theorem d52_19 : Dc jdk_52_method_14_code 19 .caload 1 20 := ⟨by decide +kernel, rfl⟩
theorem d52_20 : Dc jdk_52_method_14_code 20 (.invokestatic 111) 3 23 := ⟨by decide +kernel, rfl⟩
theorem d52_23 : Dc jdk_52_method_14_code 23 (.iinc 1 1) 3 26 := ⟨by decide +kernel, rfl⟩
theorem d52_26 : Dc jdk_52_method_14_code 26 (.iinc 4 1) 3 29 := ⟨by decide +kernel, rfl⟩
theorem d52_29 : Jp jdk_52_method_14_code 29 .goto 8 32 := ⟨-21, by decide +kernel, by decide, by decide, rfl⟩
theorem d52_32 : Dc jdk_52_method_14_code 32 (.aload_n 3) 1 33 := ⟨by decide +kernel, rfl⟩
theorem d52_33 : Dc jdk_52_method_14_code 33 .areturn 1 34 := ⟨by decide +kernel, rfl⟩
theorem d53_0 : Dc jdk_52_method_16_code 0 (.iload_n 2) 1 1 := ⟨by decide +kernel, rfl⟩
theorem d53_1 : Dc jdk_52_method_16_code 1 (.newarray .byte) 2 3 := ⟨by decide +kernel, rfl⟩
theorem d53_3 : Dc jdk_52_method_16_code 3 (.astore_n 3) 1 4 := ⟨by decide +kernel, rfl⟩
theorem d53_4 : Dc jdk_52_method_16_code 4 (.aload_n 0) 1 5 := ⟨by decide +kernel, rfl⟩
theorem d53_5 : Dc jdk_52_method_16_code 5 (.iload_n 1) 1 6 := ⟨by decide +kernel, rfl⟩
theorem d53_6 : Dc jdk_52_method_16_code 6 (.aload_n 3) 1 7 := ⟨by decide +kernel, rfl⟩
theorem d53_7 : Dc jdk_52_method_16_code 7 (.iconst 0) 1 8 := ⟨by decide +kernel, rfl⟩
theorem d53_8 : Dc jdk_52_method_16_code 8 (.iload_n 2) 1 9 := ⟨by decide +kernel, rfl⟩
theorem d53_9 : Dc jdk_52_method_16_code 9 (.invokestatic 115) 3 12 := ⟨by decide +kernel, rfl⟩
theorem d53_12 : Dc jdk_52_method_16_code 12 (.istore 4) 2 14 := ⟨by decide +kernel, rfl⟩
theorem d53_14 : Dc jdk_52_method_16_code 14 (.iload 4) 2 16 := ⟨by decide +kernel, rfl⟩
theorem d53_16 : Dc jdk_52_method_16_code 16 (.iload_n 2) 1 17 := ⟨by decide +kernel, rfl⟩
theorem d53_17 : Jp jdk_52_method_16_code 17 (.if_icmp .eq) 57 20 := ⟨40, by decide +kernel, by decide, by decide, rfl⟩
theorem d53_20 : Dc jdk_52_method_16_code 20 (.aload_n 0) 1 21 := ⟨by decide +kernel, rfl⟩
theorem d53_21 : Dc jdk_52_method_16_code 21 (.iload_n 1) 1 22 := ⟨by decide +kernel, rfl⟩
theorem d53_22 : Dc jdk_52_method_16_code 22 (.iload_n 2) 1 23 := ⟨by decide +kernel, rfl⟩
theorem d53_23 : Dc jdk_52_method_16_code 23 (.invokestatic 119) 3 26 := ⟨by decide +kernel, rfl⟩
theorem d53_26 : Dc jdk_52_method_16_code 26 (.astore 5) 2 28 := ⟨by decide +kernel, rfl⟩
theorem d53_28 : Dc jdk_52_method_16_code 28 (.aload 5) 2 30 := ⟨by decide +kernel, rfl⟩
theorem d53_30 : Dc jdk_52_method_16_code 30 (.iload 4) 2 32 := ⟨by decide +kernel, rfl⟩
theorem d53_32 : Dc jdk_52_method_16_code 32 (.invokestatic 71) 3 35 := ⟨by decide +kernel, rfl⟩
theorem d53_35 : Dc jdk_52_method_16_code 35 (.sipush 255) 3 38 := ⟨by decide +kernel, rfl⟩
theorem d53_38 : Jp jdk_52_method_16_code 38 (.if_icmp .gt) 54 41 := ⟨16, by decide +kernel, by decide, by decide, rfl⟩
theorem d53_54 : Dc jdk_52_method_16_code 54 (.aload 5) 2 56 := ⟨by decide +kernel, rfl⟩
theorem d53_56 : Dc jdk_52_method_16_code 56 .areturn 1 57 := ⟨by decide +kernel, rfl⟩
theorem d53_57 : Dc jdk_52_method_16_code 57 (.aload_n 3) 1 58 := ⟨by decide +kernel, rfl⟩
theorem d53_58 : Dc jdk_52_method_16_code 58 .areturn 1 59 := ⟨by decide +kernel, rfl⟩
theorem d54_0 : Dc jdk_52_method_15_code 0 (.iload_n 1) 1 1 := ⟨by decide +kernel, rfl⟩
theorem d54_1 : Dc jdk_52_method_15_code 1 (.aload_n 0) 1 2 := ⟨by decide +kernel, rfl⟩
theorem d54_2 : Dc jdk_52_method_15_code 2 .arraylength 1 3 := ⟨by decide +kernel, rfl⟩
theorem d54_3 : Dc jdk_52_method_15_code 3 .isub 1 4 := ⟨by decide +kernel, rfl⟩
theorem d54_4 : Dc jdk_52_method_15_code 4 (.bipush 31) 2 6 := ⟨by decide +kernel, rfl⟩
theorem d54_6 : Dc jdk_52_method_15_code 6 .iushr 1 7 := ⟨by decide +kernel, rfl⟩
theorem d54_7 : Dc jdk_52_method_15_code 7 .i2b 1 8 := ⟨by decide +kernel, rfl⟩
theorem d54_8 : Dc jdk_52_method_15_code 8 .ireturn 1 9 := ⟨by decide +kernel, rfl⟩
theorem d55_0 : Dc jdk_42_method_149_code 0 (.aload_n 0) 1 1 := ⟨by decide +kernel, rfl⟩
theorem d55_1 : Dc jdk_42_method_149_code 1 (.invokespecial 1) 3 4 := ⟨by decide +kernel, rfl⟩
theorem d55_4 : Dc jdk_42_method_149_code 4 (.iload_n 3) 1 5 := ⟨by decide +kernel, rfl⟩
theorem d55_5 : Jp jdk_42_method_149_code 5 (.ifCond .ne) 27 8 := ⟨22, by decide +kernel, by decide, by decide, rfl⟩
theorem d55_8 : Dc jdk_42_method_149_code 8 (.aload_n 0) 1 9 := ⟨by decide +kernel, rfl⟩
theorem d55_9 : Dc jdk_42_method_149_code 9 (.ldc 7) 2 11 := ⟨by decide +kernel, rfl⟩
theorem d55_11 : Dc jdk_42_method_149_code 11 (.getfield 9) 3 14 := ⟨by decide +kernel, rfl⟩
theorem d55_14 : Dc jdk_42_method_149_code 14 (.putfield 9) 3 17 := ⟨by decide +kernel, rfl⟩
theorem d55_17 : Dc jdk_42_method_149_code 17 (.aload_n 0) 1 18 := ⟨by decide +kernel, rfl⟩
theorem d55_18 : Dc jdk_42_method_149_code 18 (.ldc 7) 2 20 := ⟨by decide +kernel, rfl⟩
theorem d55_20 : Dc jdk_42_method_149_code 20 (.getfield 15) 3 23 := ⟨by decide +kernel, rfl⟩
theorem d55_23 : Dc jdk_42_method_149_code 23 (.putfield 15) 3 26 := ⟨by decide +kernel, rfl⟩
theorem d55_26 : Dc jdk_42_method_149_code 26 .return_ 1 27 := ⟨by decide +kernel, rfl⟩
theorem d55_27 : Dc jdk_42_method_149_code 27 (.getstatic 38) 3 30 := ⟨by decide +kernel, rfl⟩
theorem d55_30 : Jp jdk_42_method_149_code 30 (.ifCond .eq) 58 33 := ⟨28, by decide +kernel, by decide, by decide, rfl⟩
theorem d55_33 : Dc jdk_42_method_149_code 33 (.aload_n 1) 1 34 := ⟨by decide +kernel, rfl⟩
theorem d55_34 : Dc jdk_42_method_149_code 34 (.iload_n 2) 1 35 := ⟨by decide +kernel, rfl⟩
theorem d55_35 : Dc jdk_42_method_149_code 35 (.iload_n 3) 1 36 := ⟨by decide +kernel, rfl⟩
theorem d55_36 : Dc jdk_42_method_149_code 36 (.invokestatic 177) 3 39 := ⟨by decide +kernel, rfl⟩
theorem d55_39 : Dc jdk_42_method_149_code 39 (.astore 5) 2 41 := ⟨by decide +kernel, rfl⟩
theorem d55_41 : Dc jdk_42_method_149_code 41 (.aload_n 0) 1 42 := ⟨by decide +kernel, rfl⟩
theorem d55_42 : Dc jdk_42_method_149_code 42 (.aload 5) 2 44 := ⟨by decide +kernel, rfl⟩
theorem d55_44 : Dc jdk_42_method_149_code 44 (.iload_n 3) 1 45 := ⟨by decide +kernel, rfl⟩
theorem d55_45 : Dc jdk_42_method_149_code 45 (.invokestatic 47) 3 48 := ⟨by decide +kernel, rfl⟩
theorem d55_48 : Dc jdk_42_method_149_code 48 (.putfield 15) 3 51 := ⟨by decide +kernel, rfl⟩
theorem d55_51 : Dc jdk_42_method_149_code 51 (.aload_n 0) 1 52 := ⟨by decide +kernel, rfl⟩
theorem d55_52 : Dc jdk_42_method_149_code 52 (.aload 5) 2 54 := ⟨by decide +kernel, rfl⟩
theorem d55_54 : Dc jdk_42_method_149_code 54 (.putfield 9) 3 57 := ⟨by decide +kernel, rfl⟩
theorem d55_57 : Dc jdk_42_method_149_code 57 .return_ 1 58 := ⟨by decide +kernel, rfl⟩
theorem d56_0 : Dc jdk_42_method_3_code 0 (.aload_n 0) 1 1 := ⟨by decide +kernel, rfl⟩
theorem d56_1 : Dc jdk_42_method_3_code 1 (.aload_n 1) 1 2 := ⟨by decide +kernel, rfl⟩
theorem d56_2 : Dc jdk_42_method_3_code 2 (.iconst 0) 1 3 := ⟨by decide +kernel, rfl⟩
theorem d56_3 : Dc jdk_42_method_3_code 3 (.aload_n 1) 1 4 := ⟨by decide +kernel, rfl⟩
theorem d56_4 : Dc jdk_42_method_3_code 4 .arraylength 1 5 := ⟨by decide +kernel, rfl⟩
theorem d56_5 : Dc jdk_42_method_3_code 5 .aconst_null 1 6 := ⟨by decide +kernel, rfl⟩
theorem d56_6 : Dc jdk_42_method_3_code 6 (.invokespecial 27) 3 9 := ⟨by decide +kernel, rfl⟩
theorem d56_9 : Dc jdk_42_method_3_code 9 .return_ 1 10 := ⟨by decide +kernel, rfl⟩
theorem d57_0 : Dc jdk_89_method_89_code 0 (.iload_n 0) 1 1 := ⟨by decide +kernel, rfl⟩
theorem d57_1 : Dc jdk_89_method_89_code 1 (.sipush 159) 3 4 := ⟨by decide +kernel, rfl⟩
theorem d57_4 : Jp jdk_89_method_89_code 4 (.if_icmp .gt) 23 7 := ⟨19, by decide +kernel, by decide, by decide, rfl⟩
theorem d57_7 : Dc jdk_89_method_89_code 7 (.iload_n 0) 1 8 := ⟨by decide +kernel, rfl⟩
theorem d57_8 : Dc jdk_89_method_89_code 8 (.bipush 127) 2 10 := ⟨by decide +kernel, rfl⟩
theorem d57_10 : Jp jdk_89_method_89_code 10 (.if_icmp .ge) 19 13 := ⟨9, by decide +kernel, by decide, by decide, rfl⟩
theorem d57_13 : Dc jdk_89_method_89_code 13 (.iload_n 0) 1 14 := ⟨by decide +kernel, rfl⟩
theorem d57_14 : Dc jdk_89_method_89_code 14 (.iconst 5) 1 15 := ⟨by decide +kernel, rfl⟩
theorem d57_15 : Dc jdk_89_method_89_code 15 .iushr 1 16 := ⟨by decide +kernel, rfl⟩
theorem d57_16 : Jp jdk_89_method_89_code 16 (.ifCond .ne) 23 19 := ⟨7, by decide +kernel, by decide, by decide, rfl⟩
theorem d57_19 : Dc jdk_89_method_89_code 19 (.iconst 1) 1 20 := ⟨by decide +kernel, rfl⟩
theorem d57_20 : Jp jdk_89_method_89_code 20 .goto 24 23 := ⟨4, by decide +kernel, by decide, by decide, rfl⟩
theorem d57_23 : Dc jdk_89_method_89_code 23 (.iconst 0) 1 24 := ⟨by decide +kernel, rfl⟩
theorem d57_24 : Dc jdk_89_method_89_code 24 .ireturn 1 25 := ⟨by decide +kernel, rfl⟩
theorem d58_0 : Dc jdk_89_method_88_code 0 (.iload_n 0) 1 1 := ⟨by decide +kernel, rfl⟩
theorem d58_1 : Dc jdk_89_method_88_code 1 (.invokestatic 266) 3 4 := ⟨by decide +kernel, rfl⟩
theorem d58_4 : Dc jdk_89_method_88_code 4 .ireturn 1 5 := ⟨by decide +kernel, rfl⟩
theorem d59_0 : Dc method_4_code 0 (.iload_n 0) 1 1 := ⟨by decide +kernel, rfl⟩
theorem d59_1 : Dc method_4_code 1 (.bipush 10) 2 3 := ⟨by decide +kernel, rfl⟩
theorem d59_3 : Jp method_4_code 3 (.if_icmp .ge) 13 6 := ⟨10, by decide +kernel, by decide, by decide, rfl⟩
theorem d59_6 : Dc method_4_code 6 (.bipush 48) 2 8 := ⟨by decide +kernel, rfl⟩
theorem d59_8 : Dc method_4_code 8 (.iload_n 0) 1 9 := ⟨by decide +kernel, rfl⟩
theorem d59_9 : Dc method_4_code 9 .iadd 1 10 := ⟨by decide +kernel, rfl⟩
theorem d59_10 : Jp method_4_code 10 .goto 20 13 := ⟨10, by decide +kernel, by decide, by decide, rfl⟩
theorem d59_13 : Dc method_4_code 13 (.bipush 97) 2 15 := ⟨by decide +kernel, rfl⟩
theorem d59_15 : Dc method_4_code 15 (.iload_n 0) 1 16 := ⟨by decide +kernel, rfl⟩
theorem d59_16 : Dc method_4_code 16 (.bipush 10) 2 18 := ⟨by decide +kernel, rfl⟩
theorem d59_18 : Dc method_4_code 18 .isub 1 19 := ⟨by decide +kernel, rfl⟩
theorem d59_19 : Dc method_4_code 19 .iadd 1 20 := ⟨by decide +kernel, rfl⟩
theorem d59_20 : Dc method_4_code 20 .i2c 1 21 := ⟨by decide +kernel, rfl⟩
theorem d59_21 : Dc method_4_code 21 .ireturn 1 22 := ⟨by decide +kernel, rfl⟩
theorem d60_0 : Dc method_5_code 0 (.iload_n 2) 1 1 := ⟨by decide +kernel, rfl⟩
theorem d60_1 : Dc method_5_code 1 (.bipush 34) 2 3 := ⟨by decide +kernel, rfl⟩
theorem d60_3 : Jp method_5_code 3 (.if_icmp .eq) 12 6 := ⟨9, by decide +kernel, by decide, by decide, rfl⟩
theorem d60_6 : Dc method_5_code 6 (.iload_n 2) 1 7 := ⟨by decide +kernel, rfl⟩
theorem d60_7 : Dc method_5_code 7 (.bipush 92) 2 9 := ⟨by decide +kernel, rfl⟩
theorem d60_9 : Jp method_5_code 9 (.if_icmp .ne) 27 12 := ⟨18, by decide +kernel, by decide, by decide, rfl⟩
theorem d60_12 : Dc method_5_code 12 (.aload_n 0) 1 13 := ⟨by decide +kernel, rfl⟩
theorem d60_13 : Dc method_5_code 13 (.iload_n 1) 1 14 := ⟨by decide +kernel, rfl⟩
theorem d60_14 : Dc method_5_code 14 (.bipush 92) 2 16 := ⟨by decide +kernel, rfl⟩
theorem d60_16 : Dc method_5_code 16 .castore 1 17 := ⟨by decide +kernel, rfl⟩
theorem d60_17 : Dc method_5_code 17 (.aload_n 0) 1 18 := ⟨by decide +kernel, rfl⟩
theorem d60_18 : Dc method_5_code 18 (.iload_n 1) 1 19 := ⟨by decide +kernel, rfl⟩
theorem d60_19 : Dc method_5_code 19 (.iconst 1) 1 20 := ⟨by decide +kernel, rfl⟩
theorem d60_20 : Dc method_5_code 20 .iadd 1 21 := ⟨by decide +kernel, rfl⟩
theorem d60_21 : Dc method_5_code 21 (.iload_n 2) 1 22 := ⟨by decide +kernel, rfl⟩
theorem d60_22 : Dc method_5_code 22 .castore 1 23 := ⟨by decide +kernel, rfl⟩
theorem d60_23 : Dc method_5_code 23 (.iload_n 1) 1 24 := ⟨by decide +kernel, rfl⟩
theorem d60_24 : Dc method_5_code 24 (.iconst 2) 1 25 := ⟨by decide +kernel, rfl⟩
theorem d60_25 : Dc method_5_code 25 .iadd 1 26 := ⟨by decide +kernel, rfl⟩
theorem d60_26 : Dc method_5_code 26 .ireturn 1 27 := ⟨by decide +kernel, rfl⟩
theorem d60_27 : Dc method_5_code 27 (.iload_n 2) 1 28 := ⟨by decide +kernel, rfl⟩
theorem d60_28 : Dc method_5_code 28 (.bipush 9) 2 30 := ⟨by decide +kernel, rfl⟩
theorem d60_30 : Jp method_5_code 30 (.if_icmp .ne) 49 33 := ⟨19, by decide +kernel, by decide, by decide, rfl⟩
theorem d60_33 : Dc method_5_code 33 (.aload_n 0) 1 34 := ⟨by decide +kernel, rfl⟩
theorem d60_34 : Dc method_5_code 34 (.iload_n 1) 1 35 := ⟨by decide +kernel, rfl⟩
theorem d60_35 : Dc method_5_code 35 (.bipush 92) 2 37 := ⟨by decide +kernel, rfl⟩
theorem d60_37 : Dc method_5_code 37 .castore 1 38 := ⟨by decide +kernel, rfl⟩
theorem d60_38 : Dc method_5_code 38 (.aload_n 0) 1 39 := ⟨by decide +kernel, rfl⟩
theorem d60_39 : Dc method_5_code 39 (.iload_n 1) 1 40 := ⟨by decide +kernel, rfl⟩
theorem d60_40 : Dc method_5_code 40 (.iconst 1) 1 41 := ⟨by decide +kernel, rfl⟩
theorem d60_41 : Dc method_5_code 41 .iadd 1 42 := ⟨by decide +kernel, rfl⟩
theorem d60_42 : Dc method_5_code 42 (.bipush 116) 2 44 := ⟨by decide +kernel, rfl⟩
theorem d60_44 : Dc method_5_code 44 .castore 1 45 := ⟨by decide +kernel, rfl⟩
theorem d60_45 : Dc method_5_code 45 (.iload_n 1) 1 46 := ⟨by decide +kernel, rfl⟩
theorem d60_46 : Dc method_5_code 46 (.iconst 2) 1 47 := ⟨by decide +kernel, rfl⟩
theorem d60_47 : Dc method_5_code 47 .iadd 1 48 := ⟨by decide +kernel, rfl⟩
theorem d60_48 : Dc method_5_code 48 .ireturn 1 49 := ⟨by decide +kernel, rfl⟩
theorem d60_49 : Dc method_5_code 49 (.iload_n 2) 1 50 := ⟨by decide +kernel, rfl⟩
theorem d60_50 : Dc method_5_code 50 (.bipush 10) 2 52 := ⟨by decide +kernel, rfl⟩
theorem d60_52 : Jp method_5_code 52 (.if_icmp .ne) 71 55 := ⟨19, by decide +kernel, by decide, by decide, rfl⟩
theorem d60_55 : Dc method_5_code 55 (.aload_n 0) 1 56 := ⟨by decide +kernel, rfl⟩
theorem d60_56 : Dc method_5_code 56 (.iload_n 1) 1 57 := ⟨by decide +kernel, rfl⟩
theorem d60_57 : Dc method_5_code 57 (.bipush 92) 2 59 := ⟨by decide +kernel, rfl⟩
theorem d60_59 : Dc method_5_code 59 .castore 1 60 := ⟨by decide +kernel, rfl⟩
theorem d60_60 : Dc method_5_code 60 (.aload_n 0) 1 61 := ⟨by decide +kernel, rfl⟩
theorem d60_61 : Dc method_5_code 61 (.iload_n 1) 1 62 := ⟨by decide +kernel, rfl⟩
theorem d60_62 : Dc method_5_code 62 (.iconst 1) 1 63 := ⟨by decide +kernel, rfl⟩
theorem d60_63 : Dc method_5_code 63 .iadd 1 64 := ⟨by decide +kernel, rfl⟩
theorem d60_64 : Dc method_5_code 64 (.bipush 110) 2 66 := ⟨by decide +kernel, rfl⟩
theorem d60_66 : Dc method_5_code 66 .castore 1 67 := ⟨by decide +kernel, rfl⟩
theorem d60_67 : Dc method_5_code 67 (.iload_n 1) 1 68 := ⟨by decide +kernel, rfl⟩
theorem d60_68 : Dc method_5_code 68 (.iconst 2) 1 69 := ⟨by decide +kernel, rfl⟩
theorem d60_69 : Dc method_5_code 69 .iadd 1 70 := ⟨by decide +kernel, rfl⟩
theorem d60_70 : Dc method_5_code 70 .ireturn 1 71 := ⟨by decide +kernel, rfl⟩
theorem d60_71 : Dc method_5_code 71 (.iload_n 2) 1 72 := ⟨by decide +kernel, rfl⟩
theorem d60_72 : Dc method_5_code 72 (.bipush 13) 2 74 := ⟨by decide +kernel, rfl⟩
theorem d60_74 : Jp method_5_code 74 (.if_icmp .ne) 93 77 := ⟨19, by decide +kernel, by decide, by decide, rfl⟩
theorem d60_77 : Dc method_5_code 77 (.aload_n 0) 1 78 := ⟨by decide +kernel, rfl⟩
theorem d60_78 : Dc method_5_code 78 (.iload_n 1) 1 79 := ⟨by decide +kernel, rfl⟩
theorem d60_79 : Dc method_5_code 79 (.bipush 92) 2 81 := ⟨by decide +kernel, rfl⟩
theorem d60_81 : Dc method_5_code 81 .castore 1 82 := ⟨by decide +kernel, rfl⟩
theorem d60_82 : Dc method_5_code 82 (.aload_n 0) 1 83 := ⟨by decide +kernel, rfl⟩
theorem d60_83 : Dc method_5_code 83 (.iload_n 1) 1 84 := ⟨by decide +kernel, rfl⟩
theorem d60_84 : Dc method_5_code 84 (.iconst 1) 1 85 := ⟨by decide +kernel, rfl⟩
theorem d60_85 : Dc method_5_code 85 .iadd 1 86 := ⟨by decide +kernel, rfl⟩
theorem d60_86 : Dc method_5_code 86 (.bipush 114) 2 88 := ⟨by decide +kernel, rfl⟩
theorem d60_88 : Dc method_5_code 88 .castore 1 89 := ⟨by decide +kernel, rfl⟩
theorem d60_89 : Dc method_5_code 89 (.iload_n 1) 1 90 := ⟨by decide +kernel, rfl⟩
theorem d60_90 : Dc method_5_code 90 (.iconst 2) 1 91 := ⟨by decide +kernel, rfl⟩
theorem d60_91 : Dc method_5_code 91 .iadd 1 92 := ⟨by decide +kernel, rfl⟩
theorem d60_92 : Dc method_5_code 92 .ireturn 1 93 := ⟨by decide +kernel, rfl⟩
theorem d60_93 : Dc method_5_code 93 (.iload_n 2) 1 94 := ⟨by decide +kernel, rfl⟩
theorem d60_94 : Dc method_5_code 94 (.bipush 32) 2 96 := ⟨by decide +kernel, rfl⟩
theorem d60_96 : Jp method_5_code 96 (.if_icmp .lt) 126 99 := ⟨30, by decide +kernel, by decide, by decide, rfl⟩
theorem d60_99 : Dc method_5_code 99 (.iload_n 2) 1 100 := ⟨by decide +kernel, rfl⟩
theorem d60_100 : Dc method_5_code 100 (.bipush 127) 2 102 := ⟨by decide +kernel, rfl⟩
theorem d60_102 : Jp method_5_code 102 (.if_icmp .lt) 112 105 := ⟨10, by decide +kernel, by decide, by decide, rfl⟩
theorem d60_105 : Dc method_5_code 105 (.iload_n 2) 1 106 := ⟨by decide +kernel, rfl⟩
theorem d60_106 : Dc method_5_code 106 (.sipush 160) 3 109 := ⟨by decide +kernel, rfl⟩
theorem d60_109 : Jp method_5_code 109 (.if_icmp .lt) 126 112 := ⟨17, by decide +kernel, by decide, by decide, rfl⟩
theorem d60_112 : Dc method_5_code 112 (.iload_n 2) 1 113 := ⟨by decide +kernel, rfl⟩
theorem d60_113 : Dc method_5_code 113 (.sipush 8232) 3 116 := ⟨by decide +kernel, rfl⟩
theorem d60_116 : Jp method_5_code 116 (.if_icmp .eq) 126 119 := ⟨10, by decide +kernel, by decide, by decide, rfl⟩
theorem d60_119 : Dc method_5_code 119 (.iload_n 2) 1 120 := ⟨by decide +kernel, rfl⟩
theorem d60_120 : Dc method_5_code 120 (.sipush 8233) 3 123 := ⟨by decide +kernel, rfl⟩
theorem d60_123 : Jp method_5_code 123 (.if_icmp .ne) 199 126 := ⟨76, by decide +kernel, by decide, by decide, rfl⟩
theorem d60_126 : Dc method_5_code 126 (.aload_n 0) 1 127 := ⟨by decide +kernel, rfl⟩
theorem d60_127 : Dc method_5_code 127 (.iload_n 1) 1 128 := ⟨by decide +kernel, rfl⟩
theorem d60_128 : Dc method_5_code 128 (.bipush 92) 2 130 := ⟨by decide +kernel, rfl⟩
theorem d60_130 : Dc method_5_code 130 .castore 1 131 := ⟨by decide +kernel, rfl⟩
theorem d60_131 : Dc method_5_code 131 (.aload_n 0) 1 132 := ⟨by decide +kernel, rfl⟩
theorem d60_132 : Dc method_5_code 132 (.iload_n 1) 1 133 := ⟨by decide +kernel, rfl⟩
theorem d60_133 : Dc method_5_code 133 (.iconst 1) 1 134 := ⟨by decide +kernel, rfl⟩
theorem d60_134 : Dc method_5_code 134 .iadd 1 135 := ⟨by decide +kernel, rfl⟩
theorem d60_135 : Dc method_5_code 135 (.bipush 117) 2 137 := ⟨by decide +kernel, rfl⟩
theorem d60_137 : Dc method_5_code 137 .castore 1 138 := ⟨by decide +kernel, rfl⟩
theorem d60_138 : Dc method_5_code 138 (.aload_n 0) 1 139 := ⟨by decide +kernel, rfl⟩
theorem d60_139 : Dc method_5_code 139 (.iload_n 1) 1 140 := ⟨by decide +kernel, rfl⟩
theorem d60_140 : Dc method_5_code 140 (.iconst 2) 1 141 := ⟨by decide +kernel, rfl⟩
theorem d60_141 : Dc method_5_code 141 .iadd 1 142 := ⟨by decide +kernel, rfl⟩
theorem d60_142 : Dc method_5_code 142 (.iload_n 2) 1 143 := ⟨by decide +kernel, rfl⟩
theorem d60_143 : Dc method_5_code 143 (.bipush 12) 2 145 := ⟨by decide +kernel, rfl⟩
theorem d60_145 : Dc method_5_code 145 .ishr 1 146 := ⟨by decide +kernel, rfl⟩
theorem d60_146 : Dc method_5_code 146 (.bipush 15) 2 148 := ⟨by decide +kernel, rfl⟩
theorem d60_148 : Dc method_5_code 148 .iand 1 149 := ⟨by decide +kernel, rfl⟩
theorem d60_149 : Dc method_5_code 149 (.invokestatic 41) 3 152 := ⟨by decide +kernel, rfl⟩
theorem d60_152 : Dc method_5_code 152 .castore 1 153 := ⟨by decide +kernel, rfl⟩
theorem d60_153 : Dc method_5_code 153 (.aload_n 0) 1 154 := ⟨by decide +kernel, rfl⟩
theorem d60_154 : Dc method_5_code 154 (.iload_n 1) 1 155 := ⟨by decide +kernel, rfl⟩
theorem d60_155 : Dc method_5_code 155 (.iconst 3) 1 156 := ⟨by decide +kernel, rfl⟩
theorem d60_156 : Dc method_5_code 156 .iadd 1 157 := ⟨by decide +kernel, rfl⟩
theorem d60_157 : Dc method_5_code 157 (.iload_n 2) 1 158 := ⟨by decide +kernel, rfl⟩
theorem d60_158 : Dc method_5_code 158 (.bipush 8) 2 160 := ⟨by decide +kernel, rfl⟩
theorem d60_160 : Dc method_5_code 160 .ishr 1 161 := ⟨by decide +kernel, rfl⟩
theorem d60_161 : Dc method_5_code 161 (.bipush 15) 2 163 := ⟨by decide +kernel, rfl⟩
theorem d60_163 : Dc method_5_code 163 .iand 1 164 := ⟨by decide +kernel, rfl⟩
theorem d60_164 : Dc method_5_code 164 (.invokestatic 41) 3 167 := ⟨by decide +kernel, rfl⟩
theorem d60_167 : Dc method_5_code 167 .castore 1 168 := ⟨by decide +kernel, rfl⟩
theorem d60_168 : Dc method_5_code 168 (.aload_n 0) 1 169 := ⟨by decide +kernel, rfl⟩
theorem d60_169 : Dc method_5_code 169 (.iload_n 1) 1 170 := ⟨by decide +kernel, rfl⟩
theorem d60_170 : Dc method_5_code 170 (.iconst 4) 1 171 := ⟨by decide +kernel, rfl⟩
theorem d60_171 : Dc method_5_code 171 .iadd 1 172 := ⟨by decide +kernel, rfl⟩
theorem d60_172 : Dc method_5_code 172 (.iload_n 2) 1 173 := ⟨by decide +kernel, rfl⟩
theorem d60_173 : Dc method_5_code 173 (.iconst 4) 1 174 := ⟨by decide +kernel, rfl⟩
theorem d60_174 : Dc method_5_code 174 .ishr 1 175 := ⟨by decide +kernel, rfl⟩
theorem d60_175 : Dc method_5_code 175 (.bipush 15) 2 177 := ⟨by decide +kernel, rfl⟩
theorem d60_177 : Dc method_5_code 177 .iand 1 178 := ⟨by decide +kernel, rfl⟩
theorem d60_178 : Dc method_5_code 178 (.invokestatic 41) 3 181 := ⟨by decide +kernel, rfl⟩
theorem d60_181 : Dc method_5_code 181 .castore 1 182 := ⟨by decide +kernel, rfl⟩
theorem d60_182 : Dc method_5_code 182 (.aload_n 0) 1 183 := ⟨by decide +kernel, rfl⟩
theorem d60_183 : Dc method_5_code 183 (.iload_n 1) 1 184 := ⟨by decide +kernel, rfl⟩
theorem d60_184 : Dc method_5_code 184 (.iconst 5) 1 185 := ⟨by decide +kernel, rfl⟩
theorem d60_185 : Dc method_5_code 185 .iadd 1 186 := ⟨by decide +kernel, rfl⟩
theorem d60_186 : Dc method_5_code 186 (.iload_n 2) 1 187 := ⟨by decide +kernel, rfl⟩
theorem d60_187 : Dc method_5_code 187 (.bipush 15) 2 189 := ⟨by decide +kernel, rfl⟩
theorem d60_189 : Dc method_5_code 189 .iand 1 190 := ⟨by decide +kernel, rfl⟩
theorem d60_190 : Dc method_5_code 190 (.invokestatic 41) 3 193 := ⟨by decide +kernel, rfl⟩
theorem d60_193 : Dc method_5_code 193 .castore 1 194 := ⟨by decide +kernel, rfl⟩
theorem d60_194 : Dc method_5_code 194 (.iload_n 1) 1 195 := ⟨by decide +kernel, rfl⟩
theorem d60_195 : Dc method_5_code 195 (.bipush 6) 2 197 := ⟨by decide +kernel, rfl⟩
theorem d60_197 : Dc method_5_code 197 .iadd 1 198 := ⟨by decide +kernel, rfl⟩
theorem d60_198 : Dc method_5_code 198 .ireturn 1 199 := ⟨by decide +kernel, rfl⟩
theorem d60_199 : Dc method_5_code 199 (.aload_n 0) 1 200 := ⟨by decide +kernel, rfl⟩
theorem d60_200 : Dc method_5_code 200 (.iload_n 1) 1 201 := ⟨by decide +kernel, rfl⟩
theorem d60_201 : Dc method_5_code 201 (.iload_n 2) 1 202 := ⟨by decide +kernel, rfl⟩
theorem d60_202 : Dc method_5_code 202 .castore 1 203 := ⟨by decide +kernel, rfl⟩
theorem d60_203 : Dc method_5_code 203 (.iload_n 1) 1 204 := ⟨by decide +kernel, rfl⟩
theorem d60_204 : Dc method_5_code 204 (.iconst 1) 1 205 := ⟨by decide +kernel, rfl⟩
theorem d60_205 : Dc method_5_code 205 .iadd 1 206 := ⟨by decide +kernel, rfl⟩
theorem d60_206 : Dc method_5_code 206 .ireturn 1 207 := ⟨by decide +kernel, rfl⟩
theorem d61_0 : Dc method_3_code 0 (.iload_n 2) 1 1 := ⟨by decide +kernel, rfl⟩
theorem d61_1 : Dc method_3_code 1 (.aload_n 0) 1 2 := ⟨by decide +kernel, rfl⟩
theorem d61_2 : Dc method_3_code 2 (.invokevirtual 29) 3 5 := ⟨by decide +kernel, rfl⟩
theorem d61_5 : Jp method_3_code 5 (.if_icmp .ge) 19 8 := ⟨14, by decide +kernel, by decide, by decide, rfl⟩
theorem d61_8 : Dc method_3_code 8 (.aload_n 0) 1 9 := ⟨by decide +kernel, rfl⟩
theorem d61_9 : Dc method_3_code 9 (.iload_n 2) 1 10 := ⟨by decide +kernel, rfl⟩
theorem d61_10 : Dc method_3_code 10 (.invokevirtual 37) 3 13 := ⟨by decide +kernel, rfl⟩
theorem d61_13 : Dc method_3_code 13 (.aload_n 1) 1 14 := ⟨by decide +kernel, rfl⟩
theorem d61_14 : Dc method_3_code 14 (.iload_n 2) 1 15 := ⟨by decide +kernel, rfl⟩
theorem d61_15 : Dc method_3_code 15 .caload 1 16 := ⟨by decide +kernel, rfl⟩
theorem d61_16 : Jp method_3_code 16 (.if_icmp .ne) 23 19 := ⟨7, by decide +kernel, by decide, by decide, rfl⟩
theorem d61_19 : Dc method_3_code 19 (.iconst 1) 1 20 := ⟨by decide +kernel, rfl⟩
theorem d61_20 : Jp method_3_code 20 .goto 24 23 := ⟨4, by decide +kernel, by decide, by decide, rfl⟩
theorem d61_24 : Dc method_3_code 24 .ireturn 1 25 := ⟨by decide +kernel, rfl⟩
theorem d62_0 : Dc prog_10_method_2_code 0 (.new 7) 3 3 := ⟨by decide +kernel, rfl⟩
theorem d62_3 : Dc prog_10_method_2_code 3 .dup 1 4 := ⟨by decide +kernel, rfl⟩
theorem d62_4 : Dc prog_10_method_2_code 4 (.aload_n 0) 1 5 := ⟨by decide +kernel, rfl⟩
theorem d62_5 : Dc prog_10_method_2_code 5 (.invokevirtual 9) 3 8 := ⟨by decide +kernel, rfl⟩
theorem d62_8 : Dc prog_10_method_2_code 8 (.iconst 2) 1 9 := ⟨by decide +kernel, rfl⟩
theorem d62_9 : Dc prog_10_method_2_code 9 .iadd 1 10 := ⟨by decide +kernel, rfl⟩
theorem d62_10 : Dc prog_10_method_2_code 10 (.invokespecial 15) 3 13 := ⟨by decide +kernel, rfl⟩
theorem d62_13 : Dc prog_10_method_2_code 13 (.bipush 34) 2 15 := ⟨by decide +kernel, rfl⟩
theorem d62_15 : Dc prog_10_method_2_code 15 (.invokevirtual 18) 3 18 := ⟨by decide +kernel, rfl⟩
theorem d62_18 : Dc prog_10_method_2_code 18 (.astore_n 1) 1 19 := ⟨by decide +kernel, rfl⟩
theorem d62_19 : Dc prog_10_method_2_code 19 (.iconst 0) 1 20 := ⟨by decide +kernel, rfl⟩
theorem d62_20 : Dc prog_10_method_2_code 20 (.istore_n 2) 1 21 := ⟨by decide +kernel, rfl⟩
theorem d62_21 : Dc prog_10_method_2_code 21 (.iload_n 2) 1 22 := ⟨by decide +kernel, rfl⟩
theorem d62_22 : Dc prog_10_method_2_code 22 (.aload_n 0) 1 23 := ⟨by decide +kernel, rfl⟩
theorem d62_23 : Dc prog_10_method_2_code 23 (.invokevirtual 9) 3 26 := ⟨by decide +kernel, rfl⟩
theorem d62_26 : Jp prog_10_method_2_code 26 (.if_icmp .ge) 224 29 := ⟨198, by decide +kernel, by decide, by decide, rfl⟩
theorem d62_29 : Dc prog_10_method_2_code 29 (.aload_n 0) 1 30 := ⟨by decide +kernel, rfl⟩
theorem d62_30 : Dc prog_10_method_2_code 30 (.iload_n 2) 1 31 := ⟨by decide +kernel, rfl⟩
theorem d62_31 : Dc prog_10_method_2_code 31 (.invokevirtual 22) 3 34 := ⟨by decide +kernel, rfl⟩
theorem d62_34 : Dc prog_10_method_2_code 34 (.istore_n 3) 1 35 := ⟨by decide +kernel, rfl⟩
theorem d62_35 : Dc prog_10_method_2_code 35 (.iload_n 3) 1 36 := ⟨by decide +kernel, rfl⟩
theorem d62_36 : Dc prog_10_method_2_code 36 (.lookupswitch 96 #[(9, 66), (10, 76), (13, 86), (34, 52), (92, 52)]) 52 88 := ⟨by decide +kernel, rfl⟩
theorem d62_88 : Dc prog_10_method_2_code 88 (.aload_n 1) 1 89 := ⟨by decide +kernel, rfl⟩
theorem d62_89 : Dc prog_10_method_2_code 89 (.bipush 92) 2 91 := ⟨by decide +kernel, rfl⟩
theorem d62_91 : Dc prog_10_method_2_code 91 (.invokevirtual 18) 3 94 := ⟨by decide +kernel, rfl⟩
theorem d62_94 : Dc prog_10_method_2_code 94 (.iload_n 3) 1 95 := ⟨by decide +kernel, rfl⟩
theorem d62_95 : Dc prog_10_method_2_code 95 (.invokevirtual 18) 3 98 := ⟨by decide +kernel, rfl⟩
theorem d62_98 : Dc prog_10_method_2_code 98 .pop 1 99 := ⟨by decide +kernel, rfl⟩
theorem d62_99 : Jp prog_10_method_2_code 99 .goto 218 102 := ⟨119, by decide +kernel, by decide, by decide, rfl⟩
theorem d62_102 : Dc prog_10_method_2_code 102 (.aload_n 1) 1 103 := ⟨by decide +kernel, rfl⟩
theorem d62_103 : Dc prog_10_method_2_code 103 (.ldc 26) 2 105 := ⟨by decide +kernel, rfl⟩
theorem d62_105 : Dc prog_10_method_2_code 105 (.invokevirtual 28) 3 108 := ⟨by decide +kernel, rfl⟩
theorem d62_108 : Dc prog_10_method_2_code 108 .pop 1 109 := ⟨by decide +kernel, rfl⟩
theorem d62_109 : Jp prog_10_method_2_code 109 .goto 218 112 := ⟨109, by decide +kernel, by decide, by decide, rfl⟩
theorem d62_112 : Dc prog_10_method_2_code 112 (.aload_n 1) 1 113 := ⟨by decide +kernel, rfl⟩
theorem d62_113 : Dc prog_10_method_2_code 113 (.ldc 31) 2 115 := ⟨by decide +kernel, rfl⟩
theorem d62_115 : Dc prog_10_method_2_code 115 (.invokevirtual 28) 3 118 := ⟨by decide +kernel, rfl⟩
theorem d62_118 : Dc prog_10_method_2_code 118 .pop 1 119 := ⟨by decide +kernel, rfl⟩
theorem d62_119 : Jp prog_10_method_2_code 119 .goto 218 122 := ⟨99, by decide +kernel, by decide, by decide, rfl⟩
theorem d62_122 : Dc prog_10_method_2_code 122 (.aload_n 1) 1 123 := ⟨by decide +kernel, rfl⟩
theorem d62_123 : Dc prog_10_method_2_code 123 (.ldc 33) 2 125 := ⟨by decide +kernel, rfl⟩
theorem d62_125 : Dc prog_10_method_2_code 125 (.invokevirtual 28) 3 128 := ⟨by decide +kernel, rfl⟩
theorem d62_128 : Dc prog_10_method_2_code 128 .pop 1 129 := ⟨by decide +kernel, rfl⟩
theorem d62_129 : Jp prog_10_method_2_code 129 .goto 218 132 := ⟨89, by decide +kernel, by decide, by decide, rfl⟩
theorem d62_132 : Dc prog_10_method_2_code 132 (.iload_n 3) 1 133 := ⟨by decide +kernel, rfl⟩
theorem d62_133 : Dc prog_10_method_2_code 133 (.invokestatic 35) 3 136 := ⟨by decide +kernel, rfl⟩
theorem d62_136 : Jp prog_10_method_2_code 136 (.ifCond .ne) 153 139 := ⟨17, by decide +kernel, by decide, by decide, rfl⟩
theorem d62_139 : Dc prog_10_method_2_code 139 (.iload_n 3) 1 140 := ⟨by decide +kernel, rfl⟩
theorem d62_140 : Dc prog_10_method_2_code 140 (.sipush 8232) 3 143 := ⟨by decide +kernel, rfl⟩
theorem d62_143 : Jp prog_10_method_2_code 143 (.if_icmp .eq) 153 146 := ⟨10, by decide +kernel, by decide, by decide, rfl⟩
theorem d62_146 : Dc prog_10_method_2_code 146 (.iload_n 3) 1 147 := ⟨by decide +kernel, rfl⟩
theorem d62_147 : Dc prog_10_method_2_code 147 (.sipush 8233) 3 150 := ⟨by decide +kernel, rfl⟩
theorem d62_150 : Jp prog_10_method_2_code 150 (.if_icmp .ne) 212 153 := ⟨62, by decide +kernel, by decide, by decide, rfl⟩
theorem d62_153 : Dc prog_10_method_2_code 153 (.aload_n 1) 1 154 := ⟨by decide +kernel, rfl⟩
theorem d62_154 : Dc prog_10_method_2_code 154 (.ldc 41) 2 156 := ⟨by decide +kernel, rfl⟩
theorem d62_156 : Dc prog_10_method_2_code 156 (.invokevirtual 28) 3 159 := ⟨by decide +kernel, rfl⟩
theorem d62_159 : Dc prog_10_method_2_code 159 (.getstatic 43) 3 162 := ⟨by decide +kernel, rfl⟩
theorem d62_162 : Dc prog_10_method_2_code 162 (.iload_n 3) 1 163 := ⟨by decide +kernel, rfl⟩
theorem d62_163 : Dc prog_10_method_2_code 163 (.bipush 12) 2 165 := ⟨by decide +kernel, rfl⟩
theorem d62_165 : Dc prog_10_method_2_code 165 .ishr 1 166 := ⟨by decide +kernel, rfl⟩
theorem d62_166 : Dc prog_10_method_2_code 166 .caload 1 167 := ⟨by decide +kernel, rfl⟩
theorem d62_167 : Dc prog_10_method_2_code 167 (.invokevirtual 18) 3 170 := ⟨by decide +kernel, rfl⟩
theorem d62_170 : Dc prog_10_method_2_code 170 (.getstatic 43) 3 173 := ⟨by decide +kernel, rfl⟩
theorem d62_173 : Dc prog_10_method_2_code 173 (.iload_n 3) 1 174 := ⟨by decide +kernel, rfl⟩
theorem d62_174 : Dc prog_10_method_2_code 174 (.bipush 8) 2 176 := ⟨by decide +kernel, rfl⟩
theorem d62_176 : Dc prog_10_method_2_code 176 .ishr 1 177 := ⟨by decide +kernel, rfl⟩
theorem d62_177 : Dc prog_10_method_2_code 177 (.bipush 15) 2 179 := ⟨by decide +kernel, rfl⟩
theorem d62_179 : Dc prog_10_method_2_code 179 .iand 1 180 := ⟨by decide +kernel, rfl⟩
theorem d62_180 : Dc prog_10_method_2_code 180 .caload 1 181 := ⟨by decide +kernel, rfl⟩
theorem d62_181 : Dc prog_10_method_2_code 181 (.invokevirtual 18) 3 184 := ⟨by decide +kernel, rfl⟩
theorem d62_184 : Dc prog_10_method_2_code 184 (.getstatic 43) 3 187 := ⟨by decide +kernel, rfl⟩
theorem d62_187 : Dc prog_10_method_2_code 187 (.iload_n 3) 1 188 := ⟨by decide +kernel, rfl⟩
theorem d62_188 : Dc prog_10_method_2_code 188 (.iconst 4) 1 189 := ⟨by decide +kernel, rfl⟩
theorem d62_189 : Dc prog_10_method_2_code 189 .ishr 1 190 := ⟨by decide +kernel, rfl⟩
theorem d62_190 : Dc prog_10_method_2_code 190 (.bipush 15) 2 192 := ⟨by decide +kernel, rfl⟩
theorem d62_192 : Dc prog_10_method_2_code 192 .iand 1 193 := ⟨by decide +kernel, rfl⟩
theorem d62_193 : Dc prog_10_method_2_code 193 .caload 1 194 := ⟨by decide +kernel, rfl⟩
theorem d62_194 : Dc prog_10_method_2_code 194 (.invokevirtual 18) 3 197 := ⟨by decide +kernel, rfl⟩
theorem d62_197 : Dc prog_10_method_2_code 197 (.getstatic 43) 3 200 := ⟨by decide +kernel, rfl⟩
theorem d62_200 : Dc prog_10_method_2_code 200 (.iload_n 3) 1 201 := ⟨by decide +kernel, rfl⟩
theorem d62_201 : Dc prog_10_method_2_code 201 (.bipush 15) 2 203 := ⟨by decide +kernel, rfl⟩
theorem d62_203 : Dc prog_10_method_2_code 203 .iand 1 204 := ⟨by decide +kernel, rfl⟩
theorem d62_204 : Dc prog_10_method_2_code 204 .caload 1 205 := ⟨by decide +kernel, rfl⟩
theorem d62_205 : Dc prog_10_method_2_code 205 (.invokevirtual 18) 3 208 := ⟨by decide +kernel, rfl⟩
theorem d62_208 : Dc prog_10_method_2_code 208 .pop 1 209 := ⟨by decide +kernel, rfl⟩
theorem d62_209 : Jp prog_10_method_2_code 209 .goto 218 212 := ⟨9, by decide +kernel, by decide, by decide, rfl⟩
theorem d62_212 : Dc prog_10_method_2_code 212 (.aload_n 1) 1 213 := ⟨by decide +kernel, rfl⟩
theorem d62_213 : Dc prog_10_method_2_code 213 (.iload_n 3) 1 214 := ⟨by decide +kernel, rfl⟩
theorem d62_214 : Dc prog_10_method_2_code 214 (.invokevirtual 18) 3 217 := ⟨by decide +kernel, rfl⟩
theorem d62_217 : Dc prog_10_method_2_code 217 .pop 1 218 := ⟨by decide +kernel, rfl⟩
theorem d62_218 : Dc prog_10_method_2_code 218 (.iinc 2 1) 3 221 := ⟨by decide +kernel, rfl⟩
theorem d62_221 : Jp prog_10_method_2_code 221 .goto 21 224 := ⟨-200, by decide +kernel, by decide, by decide, rfl⟩
theorem d62_224 : Dc prog_10_method_2_code 224 (.aload_n 1) 1 225 := ⟨by decide +kernel, rfl⟩
theorem d62_225 : Dc prog_10_method_2_code 225 (.bipush 34) 2 227 := ⟨by decide +kernel, rfl⟩
theorem d62_227 : Dc prog_10_method_2_code 227 (.invokevirtual 18) 3 230 := ⟨by decide +kernel, rfl⟩
theorem d62_230 : Dc prog_10_method_2_code 230 (.invokevirtual 49) 3 233 := ⟨by decide +kernel, rfl⟩
theorem d62_233 : Dc prog_10_method_2_code 233 .areturn 1 234 := ⟨by decide +kernel, rfl⟩
theorem d63_0 : Dc code 0 (.iload_n 2) 1 1 := ⟨by decide +kernel, rfl⟩
theorem d63_1 : Dc code 1 (.ldc 7) 2 3 := ⟨by decide +kernel, rfl⟩
theorem d63_3 : Dc code 3 .iand 1 4 := ⟨by decide +kernel, rfl⟩
theorem d63_4 : Dc code 4 (.iconst 3) 1 5 := ⟨by decide +kernel, rfl⟩
theorem d63_5 : Dc code 5 .irem 1 6 := ⟨by decide +kernel, rfl⟩
theorem d63_6 : Dc code 6 (.istore_n 3) 1 7 := ⟨by decide +kernel, rfl⟩
theorem d63_7 : Dc code 7 (.iload_n 0) 1 8 := ⟨by decide +kernel, rfl⟩
theorem d63_8 : Dc code 8 .i2c 1 9 := ⟨by decide +kernel, rfl⟩
theorem d63_9 : Dc code 9 (.istore 4) 2 11 := ⟨by decide +kernel, rfl⟩
theorem d63_11 : Dc code 11 (.iload_n 1) 1 12 := ⟨by decide +kernel, rfl⟩
theorem d63_12 : Dc code 12 .i2c 1 13 := ⟨by decide +kernel, rfl⟩
theorem d63_13 : Dc code 13 (.istore 5) 2 15 := ⟨by decide +kernel, rfl⟩
theorem d63_15 : Dc code 15 (.iload_n 3) 1 16 := ⟨by decide +kernel, rfl⟩
theorem d63_16 : Jp code 16 (.ifCond .ne) 34 19 := ⟨18, by decide +kernel, by decide, by decide, rfl⟩
theorem d63_19 : Dc code 19 (.new 8) 3 22 := ⟨by decide +kernel, rfl⟩
theorem d63_22 : Dc code 22 .dup 1 23 := ⟨by decide +kernel, rfl⟩
theorem d63_23 : Dc code 23 (.iconst 0) 1 24 := ⟨by decide +kernel, rfl⟩
theorem d63_24 : Dc code 24 (.newarray .char) 2 26 := ⟨by decide +kernel, rfl⟩
theorem d63_26 : Dc code 26 (.invokespecial 10) 3 29 := ⟨by decide +kernel, rfl⟩
theorem d63_29 : Dc code 29 (.astore 6) 2 31 := ⟨by decide +kernel, rfl⟩
theorem d63_31 : Jp code 31 .goto 71 34 := ⟨40, by decide +kernel, by decide, by decide, rfl⟩
theorem d63_34 : Dc code 34 (.iload_n 3) 1 35 := ⟨by decide +kernel, rfl⟩
theorem d63_35 : Dc code 35 (.iconst 1) 1 36 := ⟨by decide +kernel, rfl⟩
theorem d63_36 : Jp code 36 (.if_icmp .ne) 49 39 := ⟨13, by decide +kernel, by decide, by decide, rfl⟩
theorem d63_39 : Dc code 39 (.iload 4) 2 41 := ⟨by decide +kernel, rfl⟩
theorem d63_41 : Dc code 41 (.invokestatic 13) 3 44 := ⟨by decide +kernel, rfl⟩
theorem d63_44 : Dc code 44 (.astore 6) 2 46 := ⟨by decide +kernel, rfl⟩
theorem d63_46 : Jp code 46 .goto 71 49 := ⟨25, by decide +kernel, by decide, by decide, rfl⟩
theorem d63_49 : Dc code 49 (.new 8) 3 52 := ⟨by decide +kernel, rfl⟩
theorem d63_52 : Dc code 52 .dup 1 53 := ⟨by decide +kernel, rfl⟩
theorem d63_53 : Dc code 53 (.iconst 2) 1 54 := ⟨by decide +kernel, rfl⟩
theorem d63_54 : Dc code 54 (.newarray .char) 2 56 := ⟨by decide +kernel, rfl⟩
theorem d63_56 : Dc code 56 .dup 1 57 := ⟨by decide +kernel, rfl⟩
theorem d63_57 : Dc code 57 (.iconst 0) 1 58 := ⟨by decide +kernel, rfl⟩
theorem d63_58 : Dc code 58 (.iload 4) 2 60 := ⟨by decide +kernel, rfl⟩
theorem d63_60 : Dc code 60 .castore 1 61 := ⟨by decide +kernel, rfl⟩
theorem d63_61 : Dc code 61 .dup 1 62 := ⟨by decide +kernel, rfl⟩
theorem d63_62 : Dc code 62 (.iconst 1) 1 63 := ⟨by decide +kernel, rfl⟩
theorem d63_63 : Dc code 63 (.iload 5) 2 65 := ⟨by decide +kernel, rfl⟩
theorem d63_65 : Dc code 65 .castore 1 66 := ⟨by decide +kernel, rfl⟩
theorem d63_66 : Dc code 66 (.invokespecial 10) 3 69 := ⟨by decide +kernel, rfl⟩
theorem d63_69 : Dc code 69 (.astore 6) 2 71 := ⟨by decide +kernel, rfl⟩
theorem d63_71 : Dc code 71 (.bipush 14) 2 73 := ⟨by decide +kernel, rfl⟩
theorem d63_73 : Dc code 73 (.newarray .char) 2 75 := ⟨by decide +kernel, rfl⟩
theorem d63_75 : Dc code 75 (.astore 7) 2 77 := ⟨by decide +kernel, rfl⟩
theorem d63_77 : Dc code 77 (.iconst 0) 1 78 := ⟨by decide +kernel, rfl⟩
theorem d63_78 : Dc code 78 (.istore 8) 2 80 := ⟨by decide +kernel, rfl⟩
theorem d63_80 : Dc code 80 (.aload 7) 2 82 := ⟨by decide +kernel, rfl⟩
theorem d63_82 : Dc code 82 (.iload 8) 2 84 := ⟨by decide +kernel, rfl⟩
theorem d63_84 : Dc code 84 (.bipush 34) 2 86 := ⟨by decide +kernel, rfl⟩
theorem d63_86 : Dc code 86 .castore 1 87 := ⟨by decide +kernel, rfl⟩
theorem d63_87 : Dc code 87 (.iload 8) 2 89 := ⟨by decide +kernel, rfl⟩
theorem d63_89 : Dc code 89 (.iconst 1) 1 90 := ⟨by decide +kernel, rfl⟩
theorem d63_90 : Dc code 90 .iadd 1 91 := ⟨by decide +kernel, rfl⟩
theorem d63_91 : Dc code 91 (.istore 8) 2 93 := ⟨by decide +kernel, rfl⟩
theorem d63_93 : Dc code 93 (.iload_n 3) 1 94 := ⟨by decide +kernel, rfl⟩
theorem d63_94 : Dc code 94 (.iconst 1) 1 95 := ⟨by decide +kernel, rfl⟩
theorem d63_95 : Jp code 95 (.if_icmp .lt) 109 98 := ⟨14, by decide +kernel, by decide, by decide, rfl⟩
theorem d63_98 : Dc code 98 (.aload 7) 2 100 := ⟨by decide +kernel, rfl⟩
theorem d63_100 : Dc code 100 (.iload 8) 2 102 := ⟨by decide +kernel, rfl⟩
theorem d63_102 : Dc code 102 (.iload 4) 2 104 := ⟨by decide +kernel, rfl⟩
theorem d63_104 : Dc code 104 (.invokestatic 17) 3 107 := ⟨by decide +kernel, rfl⟩
theorem d63_107 : Dc code 107 (.istore 8) 2 109 := ⟨by decide +kernel, rfl⟩
theorem d63_109 : Dc code 109 (.iload_n 3) 1 110 := ⟨by decide +kernel, rfl⟩
theorem d63_110 : Dc code 110 (.iconst 2) 1 111 := ⟨by decide +kernel, rfl⟩
theorem d63_111 : Jp code 111 (.if_icmp .lt) 125 114 := ⟨14, by decide +kernel, by decide, by decide, rfl⟩
theorem d63_114 : Dc code 114 (.aload 7) 2 116 := ⟨by decide +kernel, rfl⟩
theorem d63_116 : Dc code 116 (.iload 8) 2 118 := ⟨by decide +kernel, rfl⟩
theorem d63_118 : Dc code 118 (.iload 5) 2 120 := ⟨by decide +kernel, rfl⟩
theorem d63_120 : Dc code 120 (.invokestatic 17) 3 123 := ⟨by decide +kernel, rfl⟩
theorem d63_123 : Dc code 123 (.istore 8) 2 125 := ⟨by decide +kernel, rfl⟩
theorem d63_125 : Dc code 125 (.aload 7) 2 127 := ⟨by decide +kernel, rfl⟩
theorem d63_127 : Dc code 127 (.iload 8) 2 129 := ⟨by decide +kernel, rfl⟩
theorem d63_129 : Dc code 129 (.bipush 34) 2 131 := ⟨by decide +kernel, rfl⟩
theorem d63_131 : Dc code 131 .castore 1 132 := ⟨by decide +kernel, rfl⟩
theorem d63_132 : Dc code 132 (.iload 8) 2 134 := ⟨by decide +kernel, rfl⟩
theorem d63_134 : Dc code 134 (.iconst 1) 1 135 := ⟨by decide +kernel, rfl⟩
theorem d63_135 : Dc code 135 .iadd 1 136 := ⟨by decide +kernel, rfl⟩
theorem d63_136 : Dc code 136 (.istore 8) 2 138 := ⟨by decide +kernel, rfl⟩
theorem d63_138 : Dc code 138 (.aload 6) 2 140 := ⟨by decide +kernel, rfl⟩
theorem d63_140 : Dc code 140 (.invokestatic 23) 3 143 := ⟨by decide +kernel, rfl⟩
theorem d63_143 : Dc code 143 (.astore 9) 2 145 := ⟨by decide +kernel, rfl⟩
theorem d63_145 : Dc code 145 (.aload 9) 2 147 := ⟨by decide +kernel, rfl⟩
theorem d63_147 : Dc code 147 (.invokevirtual 29) 3 150 := ⟨by decide +kernel, rfl⟩
theorem d63_150 : Dc code 150 (.iload 8) 2 152 := ⟨by decide +kernel, rfl⟩
theorem d63_152 : Jp code 152 (.if_icmp .eq) 157 155 := ⟨5, by decide +kernel, by decide, by decide, rfl⟩
theorem d63_157 : Dc code 157 (.aload 9) 2 159 := ⟨by decide +kernel, rfl⟩
theorem d63_159 : Dc code 159 (.aload 7) 2 161 := ⟨by decide +kernel, rfl⟩
theorem d63_161 : Dc code 161 (.iconst 0) 1 162 := ⟨by decide +kernel, rfl⟩
theorem d63_162 : Dc code 162 (.invokestatic 33) 3 165 := ⟨by decide +kernel, rfl⟩
theorem d63_165 : Jp code 165 (.ifCond .eq) 323 168 := ⟨158, by decide +kernel, by decide, by decide, rfl⟩
theorem d63_168 : Dc code 168 (.aload 9) 2 170 := ⟨by decide +kernel, rfl⟩
theorem d63_170 : Dc code 170 (.aload 7) 2 172 := ⟨by decide +kernel, rfl⟩
theorem d63_172 : Dc code 172 (.iconst 1) 1 173 := ⟨by decide +kernel, rfl⟩
theorem d63_173 : Dc code 173 (.invokestatic 33) 3 176 := ⟨by decide +kernel, rfl⟩
theorem d63_176 : Jp code 176 (.ifCond .eq) 323 179 := ⟨147, by decide +kernel, by decide, by decide, rfl⟩
theorem d63_179 : Dc code 179 (.aload 9) 2 181 := ⟨by decide +kernel, rfl⟩
theorem d63_181 : Dc code 181 (.aload 7) 2 183 := ⟨by decide +kernel, rfl⟩
theorem d63_183 : Dc code 183 (.iconst 2) 1 184 := ⟨by decide +kernel, rfl⟩
theorem d63_184 : Dc code 184 (.invokestatic 33) 3 187 := ⟨by decide +kernel, rfl⟩
theorem d63_187 : Jp code 187 (.ifCond .eq) 323 190 := ⟨136, by decide +kernel, by decide, by decide, rfl⟩
theorem d63_190 : Dc code 190 (.aload 9) 2 192 := ⟨by decide +kernel, rfl⟩
theorem d63_192 : Dc code 192 (.aload 7) 2 194 := ⟨by decide +kernel, rfl⟩
theorem d63_194 : Dc code 194 (.iconst 3) 1 195 := ⟨by decide +kernel, rfl⟩
theorem d63_195 : Dc code 195 (.invokestatic 33) 3 198 := ⟨by decide +kernel, rfl⟩
theorem d63_198 : Jp code 198 (.ifCond .eq) 323 201 := ⟨125, by decide +kernel, by decide, by decide, rfl⟩
theorem d63_201 : Dc code 201 (.aload 9) 2 203 := ⟨by decide +kernel, rfl⟩
theorem d63_203 : Dc code 203 (.aload 7) 2 205 := ⟨by decide +kernel, rfl⟩
theorem d63_205 : Dc code 205 (.iconst 4) 1 206 := ⟨by decide +kernel, rfl⟩
theorem d63_206 : Dc code 206 (.invokestatic 33) 3 209 := ⟨by decide +kernel, rfl⟩
theorem d63_209 : Jp code 209 (.ifCond .eq) 323 212 := ⟨114, by decide +kernel, by decide, by decide, rfl⟩
theorem d63_212 : Dc code 212 (.aload 9) 2 214 := ⟨by decide +kernel, rfl⟩
theorem d63_214 : Dc code 214 (.aload 7) 2 216 := ⟨by decide +kernel, rfl⟩
theorem d63_216 : Dc code 216 (.iconst 5) 1 217 := ⟨by decide +kernel, rfl⟩
theorem d63_217 : Dc code 217 (.invokestatic 33) 3 220 := ⟨by decide +kernel, rfl⟩
theorem d63_220 : Jp code 220 (.ifCond .eq) 323 223 := ⟨103, by decide +kernel, by decide, by decide, rfl⟩
theorem d63_223 : Dc code 223 (.aload 9) 2 225 := ⟨by decide +kernel, rfl⟩
theorem d63_225 : Dc code 225 (.aload 7) 2 227 := ⟨by decide +kernel, rfl⟩
theorem d63_227 : Dc code 227 (.bipush 6) 2 229 := ⟨by decide +kernel, rfl⟩
theorem d63_229 : Dc code 229 (.invokestatic 33) 3 232 := ⟨by decide +kernel, rfl⟩
theorem d63_232 : Jp code 232 (.ifCond .eq) 323 235 := ⟨91, by decide +kernel, by decide, by decide, rfl⟩
theorem d63_235 : Dc code 235 (.aload 9) 2 237 := ⟨by decide +kernel, rfl⟩
theorem d63_237 : Dc code 237 (.aload 7) 2 239 := ⟨by decide +kernel, rfl⟩
theorem d63_239 : Dc code 239 (.bipush 7) 2 241 := ⟨by decide +kernel, rfl⟩
theorem d63_241 : Dc code 241 (.invokestatic 33) 3 244 := ⟨by decide +kernel, rfl⟩
theorem d63_244 : Jp code 244 (.ifCond .eq) 323 247 := ⟨79, by decide +kernel, by decide, by decide, rfl⟩
theorem d63_247 : Dc code 247 (.aload 9) 2 249 := ⟨by decide +kernel, rfl⟩
theorem d63_249 : Dc code 249 (.aload 7) 2 251 := ⟨by decide +kernel, rfl⟩
theorem d63_251 : Dc code 251 (.bipush 8) 2 253 := ⟨by decide +kernel, rfl⟩
theorem d63_253 : Dc code 253 (.invokestatic 33) 3 256 := ⟨by decide +kernel, rfl⟩
theorem d63_256 : Jp code 256 (.ifCond .eq) 323 259 := ⟨67, by decide +kernel, by decide, by decide, rfl⟩
theorem d63_259 : Dc code 259 (.aload 9) 2 261 := ⟨by decide +kernel, rfl⟩
theorem d63_261 : Dc code 261 (.aload 7) 2 263 := ⟨by decide +kernel, rfl⟩
theorem d63_263 : Dc code 263 (.bipush 9) 2 265 := ⟨by decide +kernel, rfl⟩
theorem d63_265 : Dc code 265 (.invokestatic 33) 3 268 := ⟨by decide +kernel, rfl⟩
theorem d63_268 : Jp code 268 (.ifCond .eq) 323 271 := ⟨55, by decide +kernel, by decide, by decide, rfl⟩
theorem d63_271 : Dc code 271 (.aload 9) 2 273 := ⟨by decide +kernel, rfl⟩
theorem d63_273 : Dc code 273 (.aload 7) 2 275 := ⟨by decide +kernel, rfl⟩
theorem d63_275 : Dc code 275 (.bipush 10) 2 277 := ⟨by decide +kernel, rfl⟩
theorem d63_277 : Dc code 277 (.invokestatic 33) 3 280 := ⟨by decide +kernel, rfl⟩
theorem d63_280 : Jp code 280 (.ifCond .eq) 323 283 := ⟨43, by decide +kernel, by decide, by decide, rfl⟩
theorem d63_283 : Dc code 283 (.aload 9) 2 285 := ⟨by decide +kernel, rfl⟩
theorem d63_285 : Dc code 285 (.aload 7) 2 287 := ⟨by decide +kernel, rfl⟩
theorem d63_287 : Dc code 287 (.bipush 11) 2 289 := ⟨by decide +kernel, rfl⟩
theorem d63_289 : Dc code 289 (.invokestatic 33) 3 292 := ⟨by decide +kernel, rfl⟩
theorem d63_292 : Jp code 292 (.ifCond .eq) 323 295 := ⟨31, by decide +kernel, by decide, by decide, rfl⟩
theorem d63_295 : Dc code 295 (.aload 9) 2 297 := ⟨by decide +kernel, rfl⟩
theorem d63_297 : Dc code 297 (.aload 7) 2 299 := ⟨by decide +kernel, rfl⟩
theorem d63_299 : Dc code 299 (.bipush 12) 2 301 := ⟨by decide +kernel, rfl⟩
theorem d63_301 : Dc code 301 (.invokestatic 33) 3 304 := ⟨by decide +kernel, rfl⟩
theorem d63_304 : Jp code 304 (.ifCond .eq) 323 307 := ⟨19, by decide +kernel, by decide, by decide, rfl⟩
theorem d63_307 : Dc code 307 (.aload 9) 2 309 := ⟨by decide +kernel, rfl⟩
theorem d63_309 : Dc code 309 (.aload 7) 2 311 := ⟨by decide +kernel, rfl⟩
theorem d63_311 : Dc code 311 (.bipush 13) 2 313 := ⟨by decide +kernel, rfl⟩
theorem d63_313 : Dc code 313 (.invokestatic 33) 3 316 := ⟨by decide +kernel, rfl⟩
theorem d63_316 : Jp code 316 (.ifCond .eq) 323 319 := ⟨7, by decide +kernel, by decide, by decide, rfl⟩
theorem d63_319 : Dc code 319 (.iconst 1) 1 320 := ⟨by decide +kernel, rfl⟩
theorem d63_320 : Jp code 320 .goto 324 323 := ⟨4, by decide +kernel, by decide, by decide, rfl⟩
theorem d63_324 : Dc code 324 .ireturn 1 325 := ⟨by decide +kernel, rfl⟩
theorem pn0 : plainFor (⟨"java/lang/StringLatin1", "canEncode", "(C)Z"⟩ : MethodName) = true := plainFor_of_name (by first | (simp [plainName, overriddenIn]; done) | decide +kernel)
theorem pn1 : plainFor (⟨"java/lang/String", "coder", "()B"⟩ : MethodName) = true := plainFor_of_name (by first | (simp [plainName, overriddenIn]; done) | decide +kernel)
theorem pn2 : plainFor (⟨"java/lang/String", "isLatin1", "()Z"⟩ : MethodName) = true := plainFor_of_name (by first | (simp [plainName, overriddenIn]; done) | decide +kernel)
theorem pn3 : plainFor (⟨"java/lang/String", "length", "()I"⟩ : MethodName) = true := plainFor_of_name (by first | (simp [plainName, overriddenIn]; done) | decide +kernel)
theorem pd0 : parseMethodDescriptor "()B" = some ⟨[], some .byte⟩ := by decide +kernel
theorem pn4 : plainFor (⟨"jdk/internal/util/Preconditions", "checkIndex", "(IILjava/util/function/BiFunction;)I"⟩ : MethodName) = true := plainFor_of_name (by first | (simp [plainName, overriddenIn]; done) | decide +kernel)
theorem pn5 : plainFor (⟨"java/lang/String", "checkIndex", "(II)V"⟩ : MethodName) = true := plainFor_of_name (by first | (simp [plainName, overriddenIn]; done) | decide +kernel)
theorem pd1 : parseMethodDescriptor "(IILjava/util/function/BiFunction;)I" = some ⟨[.int, .int, (.object "java/util/function/BiFunction")], some .int⟩ := by decide +kernel
theorem pn6 : plainFor (⟨"java/lang/StringLatin1", "charAt", "([BI)C"⟩ : MethodName) = true := plainFor_of_name (by first | (simp [plainName, overriddenIn]; done) | decide +kernel)
theorem pd2 : parseMethodDescriptor "(II)V" = some ⟨[.int, .int], none⟩ := by decide +kernel
theorem pn7 : plainFor (⟨"java/lang/StringUTF16", "length", "([B)I"⟩ : MethodName) = true := plainFor_of_name (by first | (simp [plainName, overriddenIn]; done) | decide +kernel)
theorem pn8 : plainFor (⟨"java/lang/StringUTF16", "checkIndex", "(I[B)V"⟩ : MethodName) = true := plainFor_of_name (by first | (simp [plainName, overriddenIn]; done) | decide +kernel)
theorem pd3 : parseMethodDescriptor "([B)I" = some ⟨[(.array .byte)], some .int⟩ := by decide +kernel
theorem pn9 : plainFor (⟨"java/lang/StringUTF16", "getChar", "([BI)C"⟩ : MethodName) = true := plainFor_of_name (by first | (simp [plainName, overriddenIn]; done) | decide +kernel)
theorem pn10 : plainFor (⟨"java/lang/StringUTF16", "charAt", "([BI)C"⟩ : MethodName) = true := plainFor_of_name (by first | (simp [plainName, overriddenIn]; done) | decide +kernel)
theorem pd4 : parseMethodDescriptor "(I[B)V" = some ⟨[.int, (.array .byte)], none⟩ := by decide +kernel
theorem pd5 : parseMethodDescriptor "([BI)C" = some ⟨[(.array .byte), .int], some .char⟩ := by decide +kernel
theorem pn11 : plainFor (⟨"java/lang/String", "charAt", "(I)C"⟩ : MethodName) = true := plainFor_of_name (by first | (simp [plainName, overriddenIn]; done) | decide +kernel)
theorem pd6 : parseMethodDescriptor "()Z" = some ⟨[], some .boolean⟩ := by decide +kernel
theorem pn12 : plainFor (⟨"java/lang/StringUTF16", "putChar", "([BII)V"⟩ : MethodName) = true := plainFor_of_name (by first | (simp [plainName, overriddenIn]; done) | decide +kernel)
theorem pn13 : plainFor (⟨"java/lang/StringUTF16", "putCharSB", "([BII)V"⟩ : MethodName) = true := plainFor_of_name (by first | (simp [plainName, overriddenIn]; done) | decide +kernel)
theorem pd7 : parseMethodDescriptor "([BII)V" = some ⟨[(.array .byte), .int, .int], none⟩ := by decide +kernel
theorem pn14 : plainFor (⟨"java/lang/StringUTF16", "newBytesLength", "(I)I"⟩ : MethodName) = true := plainFor_of_name (by first | (simp [plainName, overriddenIn]; done) | decide +kernel)
theorem pn15 : plainFor (⟨"java/lang/StringUTF16", "newBytesFor", "(I)[B"⟩ : MethodName) = true := plainFor_of_name (by first | (simp [plainName, overriddenIn]; done) | decide +kernel)
theorem pd8 : parseMethodDescriptor "(I)I" = some ⟨[.int], some .int⟩ := by decide +kernel
theorem pn16 : plainFor (⟨"jdk/internal/util/Preconditions", "checkFromIndexSize", "(IIILjava/util/function/BiFunction;)I"⟩ : MethodName) = true := plainFor_of_name (by first | (simp [plainName, overriddenIn]; done) | decide +kernel)
theorem pn17 : plainFor (⟨"java/lang/String", "checkBoundsOffCount", "(III)I"⟩ : MethodName) = true := plainFor_of_name (by first | (simp [plainName, overriddenIn]; done) | decide +kernel)
theorem pd9 : parseMethodDescriptor "(IIILjava/util/function/BiFunction;)I" = some ⟨[.int, .int, .int, (.object "java/util/function/BiFunction")], some .int⟩ := by decide +kernel
theorem pn18 : plainFor (⟨"java/lang/StringUTF16", "checkBoundsOffCount", "(II[B)V"⟩ : MethodName) = true := plainFor_of_name (by first | (simp [plainName, overriddenIn]; done) | decide +kernel)
theorem pd10 : parseMethodDescriptor "(III)I" = some ⟨[.int, .int, .int], some .int⟩ := by decide +kernel
theorem pn19 : plainFor (⟨"java/lang/StringUTF16", "inflate", "([BI[BII)V"⟩ : MethodName) = true := plainFor_of_name (by first | (simp [plainName, overriddenIn]; done) | decide +kernel)
theorem pd11 : parseMethodDescriptor "(II[B)V" = some ⟨[.int, .int, (.array .byte)], none⟩ := by decide +kernel
theorem pn20 : plainFor (⟨"java/lang/StringLatin1", "inflate", "([BI[BII)V"⟩ : MethodName) = true := plainFor_of_name (by first | (simp [plainName, overriddenIn]; done) | decide +kernel)
theorem pd12 : parseMethodDescriptor "([BI[BII)V" = some ⟨[(.array .byte), .int, (.array .byte), .int, .int], none⟩ := by decide +kernel
theorem pn21 : plainFor (⟨"java/lang/Math", "max", "(II)I"⟩ : MethodName) = true := Jvm.Free.JP.mathPlain rfl (by decide +kernel)
theorem pn22 : plainFor (⟨"java/lang/Math", "min", "(II)I"⟩ : MethodName) = true := Jvm.Free.JP.mathPlain rfl (by decide +kernel)
theorem pn23 : plainFor (⟨"jdk/internal/util/ArraysSupport", "newLength", "(III)I"⟩ : MethodName) = true := plainFor_of_name (by first | (simp [plainName, overriddenIn]; done) | decide +kernel)
theorem pd13 : parseMethodDescriptor "(II)I" = some ⟨[.int, .int], some .int⟩ := by decide +kernel
theorem pn24 : plainFor (⟨"java/util/Arrays", "copyOf", "([BI)[B"⟩ : MethodName) = true := plainFor_of_name (by first | (simp [plainName, overriddenIn]; done) | decide +kernel)
theorem pn25 : plainFor (⟨"java/util/Arrays", "checkLength", "(II)V"⟩ : MethodName) = true := plainFor_of_name (by first | (simp [plainName, overriddenIn]; done) | decide +kernel)
theorem pn26 : plainFor (⟨"java/util/Arrays", "copyOfRangeByte", "([BII)[B"⟩ : MethodName) = true := plainFor_of_name (by first | (simp [plainName, overriddenIn]; done) | decide +kernel)
theorem pn27 : plainFor (⟨"java/util/Arrays", "copyOfRange", "([BII)[B"⟩ : MethodName) = true := plainFor_of_name (by first | (simp [plainName, overriddenIn]; done) | decide +kernel)
theorem pd14 : parseMethodDescriptor "([BII)[B" = some ⟨[(.array .byte), .int, .int], some (.array .byte)⟩ := by decide +kernel
theorem pn28 : plainFor (⟨"java/lang/AbstractStringBuilder", "isLatin1", "()Z"⟩ : MethodName) = true := plainFor_of_name (by first | (simp [plainName, overriddenIn]; done) | decide +kernel)
theorem pn29 : plainFor (⟨"java/lang/AbstractStringBuilder", "newCapacity", "(I)I"⟩ : MethodName) = true := plainFor_of_name (by first | (simp [plainName, overriddenIn]; done) | decide +kernel)
theorem pn30 : plainFor (⟨"java/lang/AbstractStringBuilder", "ensureCapacityInternal", "(I)V"⟩ : MethodName) = true := plainFor_of_name (by first | (simp [plainName, overriddenIn]; done) | decide +kernel)
theorem pd15 : parseMethodDescriptor "([BI)[B" = some ⟨[(.array .byte), .int], some (.array .byte)⟩ := by decide +kernel
theorem pn31 : plainFor (⟨"java/lang/AbstractStringBuilder", "inflate", "()V"⟩ : MethodName) = true := plainFor_of_name (by first | (simp [plainName, overriddenIn]; done) | decide +kernel)
theorem pd16 : parseMethodDescriptor "(I)[B" = some ⟨[.int], some (.array .byte)⟩ := by decide +kernel
theorem pn32 : plainFor (⟨"java/lang/AbstractStringBuilder", "append", "(C)Ljava/lang/AbstractStringBuilder;"⟩ : MethodName) = true := plainFor_of_name (by first | (simp [plainName, overriddenIn]; done) | decide +kernel)
theorem pd17 : parseMethodDescriptor "(I)V" = some ⟨[.int], none⟩ := by decide +kernel
theorem pd18 : parseMethodDescriptor "()V" = some ⟨[], none⟩ := by decide +kernel
theorem pd19 : parseMethodDescriptor "(C)Z" = some ⟨[.char], some .boolean⟩ := by decide +kernel
theorem pn33 : plainFor (⟨"java/lang/StringBuilder", "append", "(C)Ljava/lang/StringBuilder;"⟩ : MethodName) = true := plainFor_of_name (by first | (simp [plainName, overriddenIn]; done) | decide +kernel)
theorem pd20 : parseMethodDescriptor "(C)Ljava/lang/AbstractStringBuilder;" = some ⟨[.char], some (.object "java/lang/AbstractStringBuilder")⟩ := by decide +kernel
theorem pn34 : plainFor (⟨"java/lang/AbstractStringBuilder", "inflateIfNeededFor", "(Ljava/lang/String;)V"⟩ : MethodName) = true := plainFor_of_name (by first | (simp [plainName, overriddenIn]; done) | decide +kernel)
theorem pn35 : plainFor (⟨"java/lang/String", "getBytes", "([BIB)V"⟩ : MethodName) = true := plainFor_of_name (by first | (simp [plainName, overriddenIn]; done) | decide +kernel)
theorem pn36 : plainFor (⟨"java/lang/AbstractStringBuilder", "putStringAt", "(ILjava/lang/String;)V"⟩ : MethodName) = true := plainFor_of_name (by first | (simp [plainName, overriddenIn]; done) | decide +kernel)
theorem pd21 : parseMethodDescriptor "(Ljava/lang/String;)V" = some ⟨[(.object "java/lang/String")], none⟩ := by decide +kernel
theorem pd22 : parseMethodDescriptor "([BIB)V" = some ⟨[(.array .byte), .int, .byte], none⟩ := by decide +kernel
theorem pn37 : plainFor (⟨"java/lang/AbstractStringBuilder", "append", "(Ljava/lang/String;)Ljava/lang/AbstractStringBuilder;"⟩ : MethodName) = true := plainFor_of_name (by first | (simp [plainName, overriddenIn]; done) | decide +kernel)
theorem pd23 : parseMethodDescriptor "()I" = some ⟨[], some .int⟩ := by decide +kernel
theorem pd24 : parseMethodDescriptor "(ILjava/lang/String;)V" = some ⟨[.int, (.object "java/lang/String")], none⟩ := by decide +kernel
theorem pn38 : plainFor (⟨"java/lang/StringBuilder", "append", "(Ljava/lang/String;)Ljava/lang/StringBuilder;"⟩ : MethodName) = true := plainFor_of_name (by first | (simp [plainName, overriddenIn]; done) | decide +kernel)
theorem pd25 : parseMethodDescriptor "(Ljava/lang/String;)Ljava/lang/AbstractStringBuilder;" = some ⟨[(.object "java/lang/String")], some (.object "java/lang/AbstractStringBuilder")⟩ := by decide +kernel
theorem pn39 : plainFor (⟨"java/lang/AbstractStringBuilder", "<init>", "(I)V"⟩ : MethodName) = true := plainFor_of_name (by first | (simp [plainName, overriddenIn]; done) | decide +kernel)
theorem pn40 : plainFor (⟨"java/lang/StringBuilder", "<init>", "(I)V"⟩ : MethodName) = true := plainFor_of_name (by first | (simp [plainName, overriddenIn]; done) | decide +kernel)
theorem pn41 : plainFor (⟨"java/lang/AbstractStringBuilder", "getValue", "()[B"⟩ : MethodName) = true := plainFor_of_name (by first | (simp [plainName, overriddenIn]; done) | decide +kernel)
theorem pn42 : plainFor (⟨"java/lang/AbstractStringBuilder", "length", "()I"⟩ : MethodName) = true := plainFor_of_name (by first | (simp [plainName, overriddenIn]; done) | decide +kernel)
theorem pn43 : plainFor (⟨"java/lang/StringBuilder", "length", "()I"⟩ : MethodName) = true := plainFor_of_name (by first | (simp [plainName, overriddenIn]; done) | decide +kernel)
theorem pn44 : plainFor (⟨"java/lang/String", "<init>", "(Ljava/lang/AbstractStringBuilder;Ljava/lang/Void;)V"⟩ : MethodName) = true := plainFor_of_name (by first | (simp [plainName, overriddenIn]; done) | decide +kernel)
theorem pd26 : parseMethodDescriptor "()[B" = some ⟨[], some (.array .byte)⟩ := by decide +kernel
theorem pn45 : plainFor (⟨"java/lang/String", "<init>", "(Ljava/lang/StringBuilder;)V"⟩ : MethodName) = true := plainFor_of_name (by first | (simp [plainName, overriddenIn]; done) | decide +kernel)
theorem pd27 : parseMethodDescriptor "(Ljava/lang/AbstractStringBuilder;Ljava/lang/Void;)V" = some ⟨[(.object "java/lang/AbstractStringBuilder"), (.object "java/lang/Void")], none⟩ := by decide +kernel
theorem pn46 : plainFor (⟨"java/lang/StringBuilder", "toString", "()Ljava/lang/String;"⟩ : MethodName) = true := plainFor_of_name (by first | (simp [plainName, overriddenIn]; done) | decide +kernel)
theorem pd28 : parseMethodDescriptor "(Ljava/lang/StringBuilder;)V" = some ⟨[(.object "java/lang/StringBuilder")], none⟩ := by decide +kernel
theorem pn47 : plainFor (⟨"java/lang/StringLatin1", "toBytes", "(C)[B"⟩ : MethodName) = true := plainFor_of_name (by first | (simp [plainName, overriddenIn]; done) | decide +kernel)
theorem pn48 : plainFor (⟨"java/lang/StringUTF16", "toBytes", "(C)[B"⟩ : MethodName) = true := plainFor_of_name (by first | (simp [plainName, overriddenIn]; done) | decide +kernel)
theorem pn49 : plainFor (⟨"java/lang/String", "<init>", "([BB)V"⟩ : MethodName) = true := plainFor_of_name (by first | (simp [plainName, overriddenIn]; done) | decide +kernel)
theorem pn50 : plainFor (⟨"java/lang/String", "valueOf", "(C)Ljava/lang/String;"⟩ : MethodName) = true := plainFor_of_name (by first | (simp [plainName, overriddenIn]; done) | decide +kernel)
theorem pd29 : parseMethodDescriptor "(C)[B" = some ⟨[.char], some (.array .byte)⟩ := by decide +kernel
theorem pd30 : parseMethodDescriptor "([BB)V" = some ⟨[(.array .byte), .byte], none⟩ := by decide +kernel
theorem pn51 : plainFor (⟨"java/lang/StringUTF16", "compress", "([CI[BII)I"⟩ : MethodName) = true := plainFor_of_name (by first | (simp [plainName, overriddenIn]; done) | decide +kernel)
theorem pn52 : plainFor (⟨"java/lang/StringUTF16", "toBytes", "([CII)[B"⟩ : MethodName) = true := plainFor_of_name (by first | (simp [plainName, overriddenIn]; done) | decide +kernel)
theorem pn53 : plainFor (⟨"java/lang/StringUTF16", "compress", "([CII)[B"⟩ : MethodName) = true := plainFor_of_name (by first | (simp [plainName, overriddenIn]; done) | decide +kernel)
theorem pd31 : parseMethodDescriptor "([CI[BII)I" = some ⟨[(.array .char), .int, (.array .byte), .int, .int], some .int⟩ := by decide +kernel
theorem pd32 : parseMethodDescriptor "([CII)[B" = some ⟨[(.array .char), .int, .int], some (.array .byte)⟩ := by decide +kernel
theorem pn54 : plainFor (⟨"java/lang/StringUTF16", "coderFromArrayLen", "([BI)B"⟩ : MethodName) = true := plainFor_of_name (by first | (simp [plainName, overriddenIn]; done) | decide +kernel)
theorem pn55 : plainFor (⟨"java/lang/String", "<init>", "([CIILjava/lang/Void;)V"⟩ : MethodName) = true := plainFor_of_name (by first | (simp [plainName, overriddenIn]; done) | decide +kernel)
theorem pd33 : parseMethodDescriptor "([BI)B" = some ⟨[(.array .byte), .int], some .byte⟩ := by decide +kernel
theorem pn56 : plainFor (⟨"java/lang/String", "<init>", "([C)V"⟩ : MethodName) = true := plainFor_of_name (by first | (simp [plainName, overriddenIn]; done) | decide +kernel)
theorem pd34 : parseMethodDescriptor "([CIILjava/lang/Void;)V" = some ⟨[(.array .char), .int, .int, (.object "java/lang/Void")], none⟩ := by decide +kernel
theorem pn57 : plainFor (⟨"java/lang/Character", "isISOControl", "(I)Z"⟩ : MethodName) = true := plainFor_of_name (by first | (simp [plainName, overriddenIn]; done) | decide +kernel)
theorem pn58 : plainFor (⟨"java/lang/Character", "isISOControl", "(C)Z"⟩ : MethodName) = true := plainFor_of_name (by first | (simp [plainName, overriddenIn]; done) | decide +kernel)
theorem pd35 : parseMethodDescriptor "(I)Z" = some ⟨[.int], some .boolean⟩ := by decide +kernel
theorem pn59 : plainFor (⟨"com/example/bellwether/bellwether/model/LiteralsQuotePinLaw", "hex", "(I)C"⟩ : MethodName) = true := plainFor_of_name (by first | (simp [plainName, overriddenIn]; done) | decide +kernel)
theorem pn60 : plainFor (⟨"com/example/bellwether/bellwether/model/LiteralsQuotePinLaw", "put", "([CIC)I"⟩ : MethodName) = true := plainFor_of_name (by first | (simp [plainName, overriddenIn]; done) | decide +kernel)
theorem pd36 : parseMethodDescriptor "(I)C" = some ⟨[.int], some .char⟩ := by decide +kernel
theorem pn61 : plainFor (⟨"com/example/bellwether/bellwether/model/LiteralsQuotePinLaw", "same", "(Ljava/lang/String;[CI)Z"⟩ : MethodName) = true := plainFor_of_name (by first | (simp [plainName, overriddenIn]; done) | decide +kernel)
theorem pd37 : parseMethodDescriptor "(C)Ljava/lang/StringBuilder;" = some ⟨[.char], some (.object "java/lang/StringBuilder")⟩ := by decide +kernel
theorem pd38 : parseMethodDescriptor "(Ljava/lang/String;)Ljava/lang/StringBuilder;" = some ⟨[(.object "java/lang/String")], some (.object "java/lang/StringBuilder")⟩ := by decide +kernel
theorem pd39 : parseMethodDescriptor "()Ljava/lang/String;" = some ⟨[], some (.object "java/lang/String")⟩ := by decide +kernel
theorem pn62 : plainFor (⟨"com/example/bellwether/bellwether/model/Literals", "quote", "(Ljava/lang/String;)Ljava/lang/String;"⟩ : MethodName) = true := plainFor_of_name (by first | (simp [plainName, overriddenIn]; done) | decide +kernel)
theorem pd40 : parseMethodDescriptor "(Ljava/lang/String;)Ljava/lang/String;" = some ⟨[(.object "java/lang/String")], some (.object "java/lang/String")⟩ := by decide +kernel
theorem pd41 : parseMethodDescriptor "(Ljava/lang/String;[CI)Z" = some ⟨[(.object "java/lang/String"), (.array .char), .int], some .boolean⟩ := by decide +kernel
theorem pd42 : parseMethodDescriptor "([CIC)I" = some ⟨[(.array .char), .int, .char], some .int⟩ := by decide +kernel
theorem pn63 : plainFor x = true := plainFor_of_name (by first | (simp [plainName, overriddenIn]; done) | decide +kernel)
theorem pd43 : parseMethodDescriptor "([C)V" = some ⟨[(.array .char)], none⟩ := by decide +kernel
theorem pd44 : parseMethodDescriptor "(C)Ljava/lang/String;" = some ⟨[.char], some (.object "java/lang/String")⟩ := by decide +kernel
theorem strA {Z : State} {a0 : Array Value} (hw : ∀ d ∈ tables_1, d.before a0 Z = true) : ∀ a ∈ Bundle.stringAtoms, a.before a0 Z = true := fun d hd => by
  simp only [Bundle.stringAtoms, Bundle.sN, List.mem_cons, List.not_mem_nil, or_false] at hd
  rcases hd with rfl | rfl | rfl | rfl | rfl | rfl | rfl
  · exact hw _ (List.mem_of_getElem? (i := 3) rfl)
  · exact hw _ (List.mem_of_getElem? (i := 2) rfl)
  · exact hw _ (List.mem_of_getElem? (i := 20) rfl)
  · exact hw _ (List.mem_of_getElem? (i := 30) rfl)
  · exact hw _ (List.mem_of_getElem? (i := 28) rfl)
  · exact hw _ (List.mem_of_getElem? (i := 125) rfl)
  · exact hw _ (List.mem_of_getElem? (i := 126) rfl)
set_option maxRecDepth 65536 in
set_option maxHeartbeats 40000000 in
theorem rmCE (Z : State) (a0 : Array Value) (hw : ∀ d ∈ tables_1, d.before a0 Z = true)  (h0 : Heap) (n0 : Nat) (Z0 : n0 ≤ h0.size) (c : Nat) (hc : c < 65536) (lau : Launch) :
    Con lau Z (⟨"java/lang/StringLatin1", "canEncode", "(C)Z"⟩ : MethodName) jdk_43_method_3_code 1 (some .boolean) ({ frames := 0, cells := 0, slots := 0, locals := 0 } : Room) #[(.int (oN c))] h0 n0 (RI fun z h => z = bI (c < 256) ∧ h0 = h) := by
  refine con_intro pn0 (L := #[.val (.int (oN c))]) (fun m => by first | (simp [entryFrame, mkF, argsToLocals, Value.category, maxLocals]; done) | rfl) Z0 (fun w T K H => ?_)
  refine go_iloadN K H d0_0 rfl ?_
  refine go_sipush (255) K H d0_1 (by decide) ?_
  refine go_icmp_gt K H d0_4 (fun cc => ?_) (fun cc => ?_)
  · refine go_iconst (0) K H d0_11 (by decide) ?_
    exact go_zret K H d0_12 rfl (by decide) (by decide) (by decide) (⟨(bI_f (by (try simp (disch := omega) only [oN_toInt, Int32.lt_iff_toInt_lt, Int32.le_iff_toInt_le, ← Int32.toInt_inj, Int32.reduceToInt, ne_eq] at cc); omega)).symm, rfl⟩)
  · refine go_iconst (1) K H d0_7 (by decide) ?_
    refine go_goto K H d0_8 ?_
    exact go_zret K H d0_12 rfl (by decide) (by decide) (by decide) (⟨(bI_t (by (try simp (disch := omega) only [oN_toInt, Int32.lt_iff_toInt_lt, Int32.le_iff_toInt_le, ← Int32.toInt_inj, Int32.reduceToInt, ne_eq] at cc); omega)).symm, rfl⟩)
set_option maxRecDepth 65536 in
set_option maxHeartbeats 40000000 in
theorem rmSC (Z : State) (a0 : Array Value) (hw : ∀ d ∈ tables_1, d.before a0 Z = true) (s : Addr) (h0 : Heap) (n0 : Nat) (Z0 : n0 ≤ h0.size) (ss : SSt Z) (X0 : Ext Z.heap h0) (v : Addr) (cd : Nat) (L : List Nat) (S : Sx Z h0 s v cd L) (lau : Launch) :
    Con lau Z (⟨"java/lang/String", "coder", "()B"⟩ : MethodName) jdk_42_method_152_code 1 (some .byte) ({ frames := 0, cells := 0, slots := 0, locals := 0 } : Room) #[(.ref s)] h0 n0 (RI fun z h => z = oN cd ∧ h0 = h) := by
  refine con_intro pn1 (L := #[.val (.ref s)]) (fun m => by first | (simp [entryFrame, mkF, argsToLocals, Value.category, maxLocals]; done) | rfl) Z0 (fun w T K H => ?_)
  obtain ⟨cs, hcs, S1c⟩ := ss.1
  refine go_getstatic K H d1_0 (host := "") (Or.inl (hw _ (List.mem_of_getElem? (i := 15) rfl))) Via.refl (S1c.ext X0) fun T101 HT101 => ?_
  refine go_if_eq K HT101 d1_3 (fun cc => False.elim (by exact hcs cc)) (fun cc => ?_)
  refine go_aloadN K HT101 d1_6 rfl rfl ?_
  refine go_getfield K HT101 d1_7 (host := "") (Or.inl (hw _ (List.mem_of_getElem? (i := 27) rfl))) Via.refl (S.2.2.1) fun T102 HT102 => ?_
  refine go_goto K HT102 d1_10 ?_
  exact go_nret K HT102 d1_14 rfl (Or.inl rfl) (by rcases S.2.2.2.2 with q | q <;> (rw [q]; decide)) (by decide) (by decide) (⟨rfl, rfl⟩)
set_option maxRecDepth 65536 in
set_option maxHeartbeats 40000000 in
theorem rmSL (Z : State) (a0 : Array Value) (hw : ∀ d ∈ tables_1, d.before a0 Z = true) (s : Addr) (h0 : Heap) (n0 : Nat) (Z0 : n0 ≤ h0.size) (ss : SSt Z) (X0 : Ext Z.heap h0) (v : Addr) (cd : Nat) (L : List Nat) (S : Sx Z h0 s v cd L) (lau : Launch) :
    Con lau Z (⟨"java/lang/String", "isLatin1", "()Z"⟩ : MethodName) jdk_42_method_154_code 1 (some .boolean) ({ frames := 0, cells := 0, slots := 0, locals := 0 } : Room) #[(.ref s)] h0 n0 (RI fun z h => z = bI (cd = 0) ∧ h0 = h) := by
  refine con_intro pn2 (L := #[.val (.ref s)]) (fun m => by first | (simp [entryFrame, mkF, argsToLocals, Value.category, maxLocals]; done) | rfl) Z0 (fun w T K H => ?_)
  obtain ⟨cs, hcs, S1c⟩ := ss.1
  refine go_getstatic K H d2_0 (host := "") (Or.inl (hw _ (List.mem_of_getElem? (i := 15) rfl))) Via.refl (S1c.ext X0) fun T101 HT101 => ?_
  refine go_if_eq K HT101 d2_3 (fun cc => False.elim (by exact hcs cc)) (fun cc => ?_)
  refine go_aloadN K HT101 d2_6 rfl rfl ?_
  refine go_getfield K HT101 d2_7 (host := "") (Or.inl (hw _ (List.mem_of_getElem? (i := 27) rfl))) Via.refl (S.2.2.1) fun T102 HT102 => ?_
  refine go_if_ne K HT102 d2_10 (fun cc => ?_) (fun cc => ?_)
  · refine go_iconst (0) K HT102 d2_17 (by decide) ?_
    exact go_zret K HT102 d2_18 rfl (by decide) (by decide) (by decide) (⟨(bI_f (fun q => cc (by rw [q]; rfl))).symm, rfl⟩)
  · refine go_iconst (1) K HT102 d2_13 (by decide) ?_
    refine go_goto K HT102 d2_14 ?_
    exact go_zret K HT102 d2_18 rfl (by decide) (by decide) (by decide) (⟨(bI_t (by rcases S.2.2.2.2 with q | q; exact q; rw [q] at cc; exact absurd cc (by decide))).symm, rfl⟩)
set_option maxRecDepth 65536 in
set_option maxHeartbeats 40000000 in
theorem rmLe (Z : State) (a0 : Array Value) (hw : ∀ d ∈ tables_1, d.before a0 Z = true) (s : Addr) (h0 : Heap) (n0 : Nat) (Z0 : n0 ≤ h0.size) (ss : SSt Z) (X0 : Ext Z.heap h0) (v : Addr) (cd : Nat) (L : List Nat) (S : Sx Z h0 s v cd L) (lau : Launch) :
    Con lau Z (⟨"java/lang/String", "length", "()I"⟩ : MethodName) jdk_42_method_54_code 1 (some .int) ({ frames := 1, cells := 0, slots := 0, locals := 13 } : Room) #[(.ref s)] h0 n0 (RI fun z h => z = oN L.length ∧ h0 = h) := by
  refine con_intro pn3 (L := #[.val (.ref s)]) (fun m => by first | (simp [entryFrame, mkF, argsToLocals, Value.category, maxLocals]; done) | rfl) Z0 (fun w T K H => ?_)
  refine go_aloadN K H d3_0 rfl rfl ?_
  refine go_getfield K H d3_1 (host := "") (Or.inl (hw _ (List.mem_of_getElem? (i := 29) rfl))) Via.refl (S.2.1) fun T101 HT101 => ?_
  refine go_lenB K HT101 d3_4 (S.2.2.2.1) ?_
  refine go_aloadN K HT101 d3_5 rfl rfl ?_
  refine go_callV [] K HT101 d3_6 (S.1) (hw _ (List.mem_of_getElem? (i := 50) rfl)) (hw _ (List.mem_of_getElem? (i := 51) rfl)) (nf_sel (hw _ (List.mem_of_getElem? (i := 53) rfl))) (hw _ (List.mem_of_getElem? (i := 53) rfl)) (hw _ (List.mem_of_getElem? (i := 52) rfl)) (hw _ (List.mem_of_getElem? (i := 3) rfl)) (hw _ (List.mem_of_getElem? (i := 54) rfl)) (st' := [(.int (oN (enc cd L).length))]) (by decide) (rmSC Z a0 hw _ _ n0 (at_size K HT101) ss X0 v cd L S) pd0 rfl rfl rfl (by decide) (W := 1) rfl (by decide) (by decide) (by decide) fun T102 h102 v102 H102 q102 => ?_
  obtain ⟨z102, rfl, rfl, rfl⟩ := q102
  show Go _ _ _ 9 #[.val (.ref s)] [(.int (oN cd)), (.int (oN (enc cd L).length))]
  refine go_ishr K H102 d3_9 fun v103 ev103 => ?_
  obtain rfl : v103 = oN (L.length) := ev103.trans ((oN_shr S.2.2.2.1.len (by rcases S.2.2.2.2 with q | q <;> omega)).trans (congrArg oN (enc_div S.2.2.2.2 L)))
  exact go_iret K H102 d3_10 rfl (by decide) (by decide) (⟨rfl, rfl⟩)
set_option maxRecDepth 65536 in
set_option maxHeartbeats 40000000 in
theorem rmPC (Z : State) (a0 : Array Value) (hw : ∀ d ∈ tables_1, d.before a0 Z = true) (fv : Value) (h0 : Heap) (n0 : Nat) (Z0 : n0 ≤ h0.size) (i m : Nat) (hi : i < m) (hm : m < 2 ^ 31) (hfv : fv.isRef = true) (lau : Launch) :
    Con lau Z (⟨"jdk/internal/util/Preconditions", "checkIndex", "(IILjava/util/function/BiFunction;)I"⟩ : MethodName) jdk_41_method_11_code 3 (some .int) ({ frames := 0, cells := 0, slots := 0, locals := 0 } : Room) #[(.int (oN i)), (.int (oN m)), fv] h0 n0 (RI fun z h => z = oN i ∧ h0 = h) := by
  refine con_intro pn4 (L := #[.val (.int (oN i)), .val (.int (oN m)), .val fv]) (fun m => by rcases ref_cases hfv with rfl | ⟨_, rfl⟩ <;> first | (simp [entryFrame, mkF, argsToLocals, Value.category, maxLocals]; done) | rfl) Z0 (fun w T K H => ?_)
  refine go_iloadN K H d4_0 rfl ?_
  refine go_if_lt K H d4_1 (fun cc => False.elim (by (try simp (disch := omega) only [oN_toInt, Int32.lt_iff_toInt_lt, Int32.le_iff_toInt_le, ← Int32.toInt_inj, Int32.reduceToInt, ne_eq] at cc); omega)) (fun cc => ?_)
  refine go_iloadN K H d4_4 rfl ?_
  refine go_iloadN K H d4_5 rfl ?_
  refine go_icmp_lt K H d4_6 (fun cc => ?_) (fun cc => False.elim (by (try simp (disch := omega) only [oN_toInt, Int32.lt_iff_toInt_lt, Int32.le_iff_toInt_le, ← Int32.toInt_inj, Int32.reduceToInt, ne_eq] at cc); omega))
  refine go_iloadN K H d4_16 rfl ?_
  exact go_iret K H d4_17 rfl (by decide) (by decide) (⟨rfl, rfl⟩)
set_option maxRecDepth 65536 in
set_option maxHeartbeats 40000000 in
theorem rmCI (Z : State) (a0 : Array Value) (hw : ∀ d ∈ tables_1, d.before a0 Z = true)  (h0 : Heap) (n0 : Nat) (Z0 : n0 ≤ h0.size) (ss : SSt Z) (X0 : Ext Z.heap h0) (i m : Nat) (hi : i < m) (hm : m < 2 ^ 31) (lau : Launch) :
    Con lau Z (⟨"java/lang/String", "checkIndex", "(II)V"⟩ : MethodName) jdk_42_method_155_code 2 none ({ frames := 1, cells := 0, slots := 0, locals := 14 } : Room) #[(.int (oN i)), (.int (oN m))] h0 n0 (RV fun h => h0 = h) := by
  refine con_intro pn5 (L := #[.val (.int (oN i)), .val (.int (oN m))]) (fun m => by first | (simp [entryFrame, mkF, argsToLocals, Value.category, maxLocals]; done) | rfl) Z0 (fun w T K H => ?_)
  refine go_iloadN K H d5_0 rfl ?_
  refine go_iloadN K H d5_1 rfl ?_
  obtain ⟨fv, hfv, S1⟩ := ss.2.1
  refine go_getstatic K H d5_2 (host := "") (Or.inl (hw _ (List.mem_of_getElem? (i := 112) rfl))) Via.refl (S1.ext X0) fun T101 HT101 => ?_
  refine go_callS [(.int (oN i)), (.int (oN m)), fv] K HT101 d5_5 (hw _ (List.mem_of_getElem? (i := 114) rfl)) (hw _ (List.mem_of_getElem? (i := 115) rfl)) (hw _ (List.mem_of_getElem? (i := 113) rfl)) (hw _ (List.mem_of_getElem? (i := 116) rfl)) (st' := []) (by decide) (rmPC Z a0 hw _ _ n0 (at_size K HT101) i m hi hm hfv) pd1 rfl rfl rfl (by decide) (W := 0) rfl (by decide) (by decide) (by decide) fun T102 h102 v102 H102 q102 => ?_
  obtain ⟨z102, rfl, rfl, rfl⟩ := q102
  show Go _ _ _ 8 #[.val (.int (oN i)), .val (.int (oN m))] [(.int (oN i))]
  refine go_pop K H102 d5_8 rfl ?_
  exact go_ret K H102 d5_9 rfl (by decide) (by decide) (rfl)
set_option maxRecDepth 65536 in
set_option maxHeartbeats 40000000 in
theorem rmLC (Z : State) (a0 : Array Value) (hw : ∀ d ∈ tables_1, d.before a0 Z = true) (v : Addr) (h0 : Heap) (n0 : Nat) (Z0 : n0 ≤ h0.size) (ss : SSt Z) (X0 : Ext Z.heap h0) (bs : List Nat) (B : BA Z h0 v bs) (i c : Nat) (hc : bs[i]? = some c) (lau : Launch) :
    Con lau Z (⟨"java/lang/StringLatin1", "charAt", "([BI)C"⟩ : MethodName) jdk_43_method_2_code 2 (some .char) ({ frames := 2, cells := 0, slots := 0, locals := 27 } : Room) #[(.ref v), (.int (oN i))] h0 n0 (RI fun z h => z = oN c ∧ h0 = h) := by
  refine con_intro pn6 (L := #[.val (.ref v), .val (.int (oN i))]) (fun m => by first | (simp [entryFrame, mkF, argsToLocals, Value.category, maxLocals]; done) | rfl) Z0 (fun w T K H => ?_)
  have c8 : c < 256 := B.2 c (List.mem_of_getElem? hc)
  refine go_iloadN K H d6_0 rfl ?_
  refine go_aloadN K H d6_1 rfl rfl ?_
  refine go_lenB K H d6_2 (B) ?_
  refine go_callS [(.int (oN i)), (.int (oN (bs).length))] K H d6_3 (hw _ (List.mem_of_getElem? (i := 109) rfl)) (hw _ (List.mem_of_getElem? (i := 110) rfl)) (hw _ (List.mem_of_getElem? (i := 3) rfl)) (hw _ (List.mem_of_getElem? (i := 111) rfl)) (st' := []) (by decide) (rmCI Z a0 hw _ n0 (at_size K H) ss X0 i bs.length (lt_of_at hc) B.len) pd2 rfl rfl rfl (by decide) (W := 0) rfl (by decide) (by decide) (by decide) fun T101 h101 v101 H101 q101 => ?_
  obtain ⟨rfl, rfl⟩ := q101
  show Go _ _ _ 6 #[.val (.ref v), .val (.int (oN i))] []
  refine go_aloadN K H101 d6_6 rfl rfl ?_
  refine go_iloadN K H101 d6_7 rfl ?_
  refine go_bL K H101 d6_8 (B) (hc) ?_
  refine go_sipush (255) K H101 d6_9 (by decide) ?_
  refine go_iand K H101 d6_12 fun v102 ev102 => ?_
  obtain rfl : v102 = oN (c) := ev102.trans (bv_and c8)
  refine go_i2c K H101 d6_13 fun v103 ev103 => ?_
  obtain rfl : v103 = oN (c) := ev103.trans (i2cN (by omega))
  exact go_nret K H101 d6_14 rfl (Or.inr rfl) (narC (by omega)) (by decide) (by decide) (⟨rfl, rfl⟩)
set_option maxRecDepth 65536 in
set_option maxHeartbeats 40000000 in
theorem rmUL (Z : State) (a0 : Array Value) (hw : ∀ d ∈ tables_1, d.before a0 Z = true) (v : Addr) (h0 : Heap) (n0 : Nat) (Z0 : n0 ≤ h0.size) (bs : List Nat) (B : BA Z h0 v bs) (lau : Launch) :
    Con lau Z (⟨"java/lang/StringUTF16", "length", "([B)I"⟩ : MethodName) jdk_52_method_6_code 1 (some .int) ({ frames := 0, cells := 0, slots := 0, locals := 0 } : Room) #[(.ref v)] h0 n0 (RI fun z h => z = oN (bs.length / 2) ∧ h0 = h) := by
  refine con_intro pn7 (L := #[.val (.ref v)]) (fun m => by first | (simp [entryFrame, mkF, argsToLocals, Value.category, maxLocals]; done) | rfl) Z0 (fun w T K H => ?_)
  refine go_aloadN K H d7_0 rfl rfl ?_
  refine go_lenB K H d7_1 (B) ?_
  refine go_iconst (1) K H d7_2 (by decide) ?_
  refine go_ishr K H d7_3 fun v101 ev101 => ?_
  obtain rfl : v101 = oN (bs.length / 2) := ev101.trans (oN_shr (k := 1) B.len (by decide))
  exact go_iret K H d7_4 rfl (by decide) (by decide) (⟨rfl, rfl⟩)
set_option maxRecDepth 65536 in
set_option maxHeartbeats 40000000 in
theorem rmUC (Z : State) (a0 : Array Value) (hw : ∀ d ∈ tables_1, d.before a0 Z = true) (v : Addr) (h0 : Heap) (n0 : Nat) (Z0 : n0 ≤ h0.size) (ss : SSt Z) (X0 : Ext Z.heap h0) (bs : List Nat) (B : BA Z h0 v bs) (i : Nat) (hi : 2 * i + 1 < bs.length) (lau : Launch) :
    Con lau Z (⟨"java/lang/StringUTF16", "checkIndex", "(I[B)V"⟩ : MethodName) jdk_52_method_91_code 2 none ({ frames := 2, cells := 0, slots := 0, locals := 27 } : Room) #[(.int (oN i)), (.ref v)] h0 n0 (RV fun h => h0 = h) := by
  refine con_intro pn8 (L := #[.val (.int (oN i)), .val (.ref v)]) (fun m => by first | (simp [entryFrame, mkF, argsToLocals, Value.category, maxLocals]; done) | rfl) Z0 (fun w T K H => ?_)
  refine go_iloadN K H d8_0 rfl ?_
  refine go_aloadN K H d8_1 rfl rfl ?_
  refine go_callS [(.ref v)] K H d8_2 (hw _ (List.mem_of_getElem? (i := 258) rfl)) (hw _ (List.mem_of_getElem? (i := 259) rfl)) (hw _ (List.mem_of_getElem? (i := 18) rfl)) (hw _ (List.mem_of_getElem? (i := 260) rfl)) (st' := [(.int (oN i))]) (by decide) (rmUL Z a0 hw _ _ n0 (at_size K H) bs B) pd3 rfl rfl rfl (by decide) (W := 1) rfl (by decide) (by decide) (by decide) fun T101 h101 v101 H101 q101 => ?_
  obtain ⟨z101, rfl, rfl, rfl⟩ := q101
  show Go _ _ _ 5 #[.val (.int (oN i)), .val (.ref v)] [(.int (oN (bs.length / 2))), (.int (oN i))]
  refine go_callS [(.int (oN i)), (.int (oN (bs.length / 2)))] K H101 d8_5 (hw _ (List.mem_of_getElem? (i := 261) rfl)) (hw _ (List.mem_of_getElem? (i := 110) rfl)) (hw _ (List.mem_of_getElem? (i := 3) rfl)) (hw _ (List.mem_of_getElem? (i := 111) rfl)) (st' := []) (by decide) (rmCI Z a0 hw _ n0 (at_size K H101) ss X0 i (bs.length / 2) (by omega) (by have := B.len; omega)) pd2 rfl rfl rfl (by decide) (W := 0) rfl (by decide) (by decide) (by decide) fun T102 h102 v102 H102 q102 => ?_
  obtain ⟨rfl, rfl⟩ := q102
  show Go _ _ _ 8 #[.val (.int (oN i)), .val (.ref v)] []
  exact go_ret K H102 d8_8 rfl (by decide) (by decide) (rfl)
set_option maxRecDepth 65536 in
set_option maxHeartbeats 40000000 in
theorem rmGC (Z : State) (a0 : Array Value) (hw : ∀ d ∈ tables_1, d.before a0 Z = true) (v : Addr) (h0 : Heap) (n0 : Nat) (Z0 : n0 ≤ h0.size) (ss : SSt Z) (X0 : Ext Z.heap h0) (bs : List Nat) (B : BA Z h0 v bs) (i b0 b1 : Nat) (hb0 : bs[2 * i]? = some b0) (hb1 : bs[2 * i + 1]? = some b1) (lau : Launch) :
    Con lau Z (⟨"java/lang/StringUTF16", "getChar", "([BI)C"⟩ : MethodName) jdk_52_method_5_code 2 (some .char) ({ frames := 0, cells := 0, slots := 0, locals := 0 } : Room) #[(.ref v), (.int (oN i))] h0 n0 (RI fun z h => z = oN (b0 + 256 * b1) ∧ h0 = h) := by
  refine con_intro pn9 (L := #[.val (.ref v), .val (.int (oN i))]) (fun m => by first | (simp [entryFrame, mkF, argsToLocals, Value.category, maxLocals]; done) | rfl) Z0 (fun w T K H => ?_)
  have bl := B.len; have hi1 := lt_of_at hb1; have q0 : b0 < 256 := B.2 b0 (List.mem_of_getElem? hb0); have q1 : b1 < 256 := B.2 b1 (List.mem_of_getElem? hb1)
  refine go_getstatic K H d9_0 (host := "") (Or.inl (hw _ (List.mem_of_getElem? (i := 249) rfl))) Via.refl (ss.2.2.1.ext X0) fun T101 HT101 => ?_
  refine go_if_ne K HT101 d9_3 (fun cc => ?_) (fun cc => False.elim (by first | exact absurd cc (by decide) | exact cc (by decide)))
  refine go_iloadN K HT101 d9_28 rfl ?_
  refine go_iconst (1) K HT101 d9_29 (by decide) ?_
  refine go_ishl K HT101 d9_30 fun v102 ev102 => ?_
  obtain rfl : v102 = oN (2 * i) := ev102.trans ((oN_shl (k := 1) (by decide) (by omega)).trans (congrArg oN (by omega)))
  refine go_istoreN K HT101 d9_31 (L' := #[.val (.ref v), .val (.int (oN (2 * i)))]) rfl ?_
  refine go_aloadN K HT101 d9_32 rfl rfl ?_
  refine go_iloadN K HT101 d9_33 rfl ?_
  obtain ⟨v103, ev103⟩ : ∃ z : Int32, z = (oN (2 * i)) + Int32.ofInt (1) := ⟨_, rfl⟩
  refine go_iinc K HT101 d9_34 rfl ev103 (L' := #[.val (.ref v), .val (.int v103)]) rfl ?_
  obtain rfl : v103 = oN (2 * i + 1) := ev103.trans (oN_inc _)
  refine go_bL K HT101 d9_37 (B) (hb0) ?_
  refine go_sipush (255) K HT101 d9_38 (by decide) ?_
  refine go_iand K HT101 d9_41 fun v104 ev104 => ?_
  obtain rfl : v104 = oN (b0) := ev104.trans (bv_and q0)
  refine go_getstatic K HT101 d9_42 (host := "") (Or.inl (hw _ (List.mem_of_getElem? (i := 250) rfl))) Via.refl (ss.2.2.2.1.ext X0) fun T105 HT105 => ?_
  refine go_ishl K HT105 d9_45 fun v106 ev106 => ?_
  obtain rfl : v106 = oN (b0) := ev106.trans ((oN_shl (k := 0) (by decide) (by omega)).trans (congrArg oN (by omega)))
  refine go_aloadN K HT105 d9_46 rfl rfl ?_
  refine go_iloadN K HT105 d9_47 rfl ?_
  refine go_bL K HT105 d9_48 (B) (hb1) ?_
  refine go_sipush (255) K HT105 d9_49 (by decide) ?_
  refine go_iand K HT105 d9_52 fun v107 ev107 => ?_
  obtain rfl : v107 = oN (b1) := ev107.trans (bv_and q1)
  refine go_getstatic K HT105 d9_53 (host := "") (Or.inl (hw _ (List.mem_of_getElem? (i := 251) rfl))) Via.refl (ss.2.2.2.2.ext X0) fun T108 HT108 => ?_
  refine go_ishl K HT108 d9_56 fun v109 ev109 => ?_
  obtain rfl : v109 = oN (b1 * 256) := ev109.trans ((oN_shl (k := 8) (by decide) (by omega)).trans (congrArg oN (by omega)))
  refine go_ior K HT108 d9_57 fun v110 ev110 => ?_
  obtain rfl : v110 = oN (b0 + 256 * b1) := ev110.trans (or_hi q0 q1)
  refine go_i2c K HT108 d9_58 fun v111 ev111 => ?_
  obtain rfl : v111 = oN (b0 + 256 * b1) := ev111.trans (i2cN (by omega))
  exact go_nret K HT108 d9_59 rfl (Or.inr rfl) (narC (by omega)) (by decide) (by decide) (⟨rfl, rfl⟩)
set_option maxRecDepth 65536 in
set_option maxHeartbeats 40000000 in
theorem rmUA (Z : State) (a0 : Array Value) (hw : ∀ d ∈ tables_1, d.before a0 Z = true) (v : Addr) (h0 : Heap) (n0 : Nat) (Z0 : n0 ≤ h0.size) (ss : SSt Z) (X0 : Ext Z.heap h0) (bs : List Nat) (B : BA Z h0 v bs) (i b0 b1 : Nat) (hb0 : bs[2 * i]? = some b0) (hb1 : bs[2 * i + 1]? = some b1) (lau : Launch) :
    Con lau Z (⟨"java/lang/StringUTF16", "charAt", "([BI)C"⟩ : MethodName) jdk_52_method_83_code 2 (some .char) ({ frames := 3, cells := 0, slots := 0, locals := 40 } : Room) #[(.ref v), (.int (oN i))] h0 n0 (RI fun z h => z = oN (b0 + 256 * b1) ∧ h0 = h) := by
  refine con_intro pn10 (L := #[.val (.ref v), .val (.int (oN i))]) (fun m => by first | (simp [entryFrame, mkF, argsToLocals, Value.category, maxLocals]; done) | rfl) Z0 (fun w T K H => ?_)
  have q0 : b0 < 256 := B.2 b0 (List.mem_of_getElem? hb0); have q1 : b1 < 256 := B.2 b1 (List.mem_of_getElem? hb1)
  refine go_iloadN K H d10_0 rfl ?_
  refine go_aloadN K H d10_1 rfl rfl ?_
  refine go_callS [(.int (oN i)), (.ref v)] K H d10_2 (hw _ (List.mem_of_getElem? (i := 255) rfl)) (hw _ (List.mem_of_getElem? (i := 256) rfl)) (hw _ (List.mem_of_getElem? (i := 18) rfl)) (hw _ (List.mem_of_getElem? (i := 257) rfl)) (st' := []) (by decide) (rmUC Z a0 hw _ _ n0 (at_size K H) ss X0 bs B i (lt_of_at hb1)) pd4 rfl rfl rfl (by decide) (W := 0) rfl (by decide) (by decide) (by decide) fun T101 h101 v101 H101 q101 => ?_
  obtain ⟨rfl, rfl⟩ := q101
  show Go _ _ _ 5 #[.val (.ref v), .val (.int (oN i))] []
  refine go_aloadN K H101 d10_5 rfl rfl ?_
  refine go_iloadN K H101 d10_6 rfl ?_
  refine go_callS [(.ref v), (.int (oN i))] K H101 d10_7 (hw _ (List.mem_of_getElem? (i := 262) rfl)) (hw _ (List.mem_of_getElem? (i := 263) rfl)) (hw _ (List.mem_of_getElem? (i := 18) rfl)) (hw _ (List.mem_of_getElem? (i := 264) rfl)) (st' := []) (by decide) (rmGC Z a0 hw _ _ n0 (at_size K H101) ss X0 bs B i b0 b1 hb0 hb1) pd5 rfl rfl rfl (by decide) (W := 0) rfl (by decide) (by decide) (by decide) fun T102 h102 v102 H102 q102 => ?_
  obtain ⟨z102, rfl, rfl, rfl⟩ := q102
  show Go _ _ _ 10 #[.val (.ref v), .val (.int (oN i))] [(.int (oN (b0 + 256 * b1)))]
  exact go_nret K H102 d10_10 rfl (Or.inr rfl) (narC (by omega)) (by decide) (by decide) (⟨rfl, rfl⟩)
set_option maxRecDepth 65536 in
set_option maxHeartbeats 40000000 in
theorem rmCA (Z : State) (a0 : Array Value) (hw : ∀ d ∈ tables_1, d.before a0 Z = true) (s : Addr) (h0 : Heap) (n0 : Nat) (Z0 : n0 ≤ h0.size) (ss : SSt Z) (X0 : Ext Z.heap h0) (v : Addr) (cd : Nat) (L : List Nat) (S : Sx Z h0 s v cd L) (i c : Nat) (hc : L[i]? = some c) (c6 : c < 65536) (lau : Launch) :
    Con lau Z (⟨"java/lang/String", "charAt", "(I)C"⟩ : MethodName) jdk_42_method_56_code 2 (some .char) ({ frames := 4, cells := 0, slots := 0, locals := 53 } : Room) #[(.ref s), (.int (oN i))] h0 n0 (RI fun z h => z = oN c ∧ h0 = h) := by
  refine con_intro pn11 (L := #[.val (.ref s), .val (.int (oN i))]) (fun m => by first | (simp [entryFrame, mkF, argsToLocals, Value.category, maxLocals]; done) | rfl) Z0 (fun w T K H => ?_)
  refine go_aloadN K H d11_0 rfl rfl ?_
  refine go_callV [] K H d11_1 (S.1) (hw _ (List.mem_of_getElem? (i := 101) rfl)) (hw _ (List.mem_of_getElem? (i := 102) rfl)) (nf_sel (hw _ (List.mem_of_getElem? (i := 104) rfl))) (hw _ (List.mem_of_getElem? (i := 104) rfl)) (hw _ (List.mem_of_getElem? (i := 103) rfl)) (hw _ (List.mem_of_getElem? (i := 3) rfl)) (hw _ (List.mem_of_getElem? (i := 105) rfl)) (st' := []) (by decide) (rmSL Z a0 hw _ _ n0 (at_size K H) ss X0 v cd L S) pd6 rfl rfl rfl (by decide) (W := 0) rfl (by decide) (by decide) (by decide) fun T101 h101 v101 H101 q101 => ?_
  obtain ⟨z101, rfl, rfl, rfl⟩ := q101
  show Go _ _ _ 4 #[.val (.ref s), .val (.int (oN i))] [(.int (bI (cd = 0)))]
  refine go_if_eq K H101 d11_4 (fun cc => ?_) (fun cc => ?_)
  · obtain rfl : cd = 1 := S.2.2.2.2.resolve_left (bI_eq0.mp cc)
    refine go_aloadN K H101 d11_16 rfl rfl ?_
    refine go_getfield K H101 d11_17 (host := "") (Or.inl (hw _ (List.mem_of_getElem? (i := 29) rfl))) Via.refl (S.2.1) fun T102 HT102 => ?_
    refine go_iloadN K HT102 d11_20 rfl ?_
    refine go_callS [(.ref v), (.int (oN i))] K HT102 d11_21 (hw _ (List.mem_of_getElem? (i := 252) rfl)) (hw _ (List.mem_of_getElem? (i := 253) rfl)) (hw _ (List.mem_of_getElem? (i := 18) rfl)) (hw _ (List.mem_of_getElem? (i := 254) rfl)) (st' := []) (by decide) (rmUA Z a0 hw _ _ n0 (at_size K HT102) ss X0 _ S.2.2.2.1 i (c % 256) (c / 256) (enc1_at hc).1 (enc1_at hc).2) pd5 rfl rfl rfl (by decide) (W := 0) rfl (by decide) (by decide) (by decide) fun T103 h103 v103 H103 q103 => ?_
    obtain ⟨z103, rfl, rfl, rfl⟩ := q103
    show Go _ _ _ 24 #[.val (.ref s), .val (.int (oN i))] [(.int (oN (c % 256 + 256 * (c / 256))))]
    exact go_nret K H103 d11_24 rfl (Or.inr rfl) (narC (by omega)) (by decide) (by decide) (⟨congrArg oN (by omega), rfl⟩)
  · obtain rfl : cd = 0 := bI_ne0.mp cc
    refine go_aloadN K H101 d11_7 rfl rfl ?_
    refine go_getfield K H101 d11_8 (host := "") (Or.inl (hw _ (List.mem_of_getElem? (i := 29) rfl))) Via.refl (S.2.1) fun T104 HT104 => ?_
    refine go_iloadN K HT104 d11_11 rfl ?_
    refine go_callS [(.ref v), (.int (oN i))] K HT104 d11_12 (hw _ (List.mem_of_getElem? (i := 106) rfl)) (hw _ (List.mem_of_getElem? (i := 107) rfl)) (hw _ (List.mem_of_getElem? (i := 94) rfl)) (hw _ (List.mem_of_getElem? (i := 108) rfl)) (st' := []) (by decide) (rmLC Z a0 hw _ _ n0 (at_size K HT104) ss X0 _ S.2.2.2.1 i c (show (enc 0 L)[i]? = some c from hc)) pd5 rfl rfl rfl (by decide) (W := 0) rfl (by decide) (by decide) (by decide) fun T105 h105 v105 H105 q105 => ?_
    obtain ⟨z105, rfl, rfl, rfl⟩ := q105
    show Go _ _ _ 15 #[.val (.ref s), .val (.int (oN i))] [(.int (oN c))]
    exact go_nret K H105 d11_15 rfl (Or.inr rfl) (narC c6) (by decide) (by decide) (⟨rfl, rfl⟩)
set_option maxRecDepth 65536 in
set_option maxHeartbeats 40000000 in
theorem rmPU (Z : State) (a0 : Array Value) (hw : ∀ d ∈ tables_1, d.before a0 Z = true) (v : Addr) (h0 : Heap) (n0 : Nat) (Z0 : n0 ≤ h0.size) (ss : SSt Z) (X0 : Ext Z.heap h0) (hz : Z.heap.size ≤ n0) (g0 : n0 ≤ v) (bs : List Nat) (B : BA Z h0 v bs) (i c : Nat) (hi : 2 * i + 1 < bs.length) (c6 : c < 65536) (lau : Launch) :
    Con lau Z (⟨"java/lang/StringUTF16", "putChar", "([BII)V"⟩ : MethodName) jdk_52_method_4_code 3 none ({ frames := 0, cells := 0, slots := 0, locals := 0 } : Room) #[(.ref v), (.int (oN i)), (.int (oN c))] h0 n0 (RV fun h => BA Z h v ((bs.set (2 * i) (c % 256)).set (2 * i + 1) (c / 256)) ∧ Keep h0 h [v]) := by
  refine con_intro pn12 (L := #[.val (.ref v), .val (.int (oN i)), .val (.int (oN c))]) (fun m => by first | (simp [entryFrame, mkF, argsToLocals, Value.category, maxLocals]; done) | rfl) Z0 (fun w T K H => ?_)
  have bl := B.len
  refine go_getstatic K H d12_0 (host := "") (Or.inl (hw _ (List.mem_of_getElem? (i := 249) rfl))) Via.refl (ss.2.2.1.ext X0) fun T101 HT101 => ?_
  refine go_if_ne K HT101 d12_3 (fun cc => ?_) (fun cc => False.elim (by first | exact absurd cc (by decide) | exact cc (by decide)))
  refine go_iloadN K HT101 d12_28 rfl ?_
  refine go_iconst (1) K HT101 d12_29 (by decide) ?_
  refine go_ishl K HT101 d12_30 fun v102 ev102 => ?_
  obtain rfl : v102 = oN (2 * i) := ev102.trans ((oN_shl (k := 1) (by decide) (by omega)).trans (congrArg oN (by omega)))
  refine go_istoreN K HT101 d12_31 (L' := #[.val (.ref v), .val (.int (oN (2 * i))), .val (.int (oN c))]) rfl ?_
  refine go_aloadN K HT101 d12_32 rfl rfl ?_
  refine go_iloadN K HT101 d12_33 rfl ?_
  obtain ⟨v103, ev103⟩ : ∃ z : Int32, z = (oN (2 * i)) + Int32.ofInt (1) := ⟨_, rfl⟩
  refine go_iinc K HT101 d12_34 rfl ev103 (L' := #[.val (.ref v), .val (.int v103), .val (.int (oN c))]) rfl ?_
  obtain rfl : v103 = oN (2 * i + 1) := ev103.trans (oN_inc _)
  refine go_iloadN K HT101 d12_37 rfl ?_
  refine go_getstatic K HT101 d12_38 (host := "") (Or.inl (hw _ (List.mem_of_getElem? (i := 250) rfl))) Via.refl (ss.2.2.2.1.ext X0) fun T104 HT104 => ?_
  refine go_ishr K HT104 d12_41 fun v105 ev105 => ?_
  obtain rfl : v105 = oN (c) := ev105.trans ((oN_shr (k := 0) (by omega) (by decide)).trans (congrArg oN (by omega)))
  refine go_i2b K HT104 d12_42 fun v106 ev106 => ?_
  refine go_bS (b := c % 256) K HT104 d12_43 (B) (by omega) (by omega) (by have q := f_i2b ev106; rw [oN_toInt (by omega)] at q; omega) (g0) fun T107 h107 H107 W107 B107 => ?_
  have X1 := ext_wr X0 W107 (Nat.le_trans hz g0)
  refine go_aloadN K H107 d12_44 rfl rfl ?_
  refine go_iloadN K H107 d12_45 rfl ?_
  refine go_iloadN K H107 d12_46 rfl ?_
  refine go_getstatic K H107 d12_47 (host := "") (Or.inl (hw _ (List.mem_of_getElem? (i := 251) rfl))) Via.refl (ss.2.2.2.2.ext X1) fun T108 HT108 => ?_
  refine go_ishr K HT108 d12_50 fun v109 ev109 => ?_
  obtain rfl : v109 = oN (c / 256) := ev109.trans ((oN_shr (k := 8) (by omega) (by decide)).trans (congrArg oN (by omega)))
  refine go_i2b K HT108 d12_51 fun v110 ev110 => ?_
  refine go_bS (b := c / 256) K HT108 d12_52 (B107) (by rw [List.length_set]; omega) (by omega) (by have q := f_i2b ev110; rw [oN_toInt (by omega)] at q; omega) (g0) fun T111 h111 H111 W111 B111 => ?_
  exact go_ret K H111 d12_53 rfl (by decide) (by decide) (⟨B111, (Keep.of_wr W107).wr W111 (Or.inl (List.mem_singleton.mpr rfl))⟩)
set_option maxRecDepth 65536 in
set_option maxHeartbeats 40000000 in
theorem rmPS (Z : State) (a0 : Array Value) (hw : ∀ d ∈ tables_1, d.before a0 Z = true) (v : Addr) (h0 : Heap) (n0 : Nat) (Z0 : n0 ≤ h0.size) (ss : SSt Z) (X0 : Ext Z.heap h0) (hz : Z.heap.size ≤ n0) (g0 : n0 ≤ v) (bs : List Nat) (B : BA Z h0 v bs) (i c : Nat) (hi : 2 * i + 1 < bs.length) (c6 : c < 65536) (lau : Launch) :
    Con lau Z (⟨"java/lang/StringUTF16", "putCharSB", "([BII)V"⟩ : MethodName) jdk_52_method_71_code 3 none ({ frames := 3, cells := 0, slots := 0, locals := 40 } : Room) #[(.ref v), (.int (oN i)), (.int (oN c))] h0 n0 (RV fun h => BA Z h v ((bs.set (2 * i) (c % 256)).set (2 * i + 1) (c / 256)) ∧ Keep h0 h [v]) := by
  refine con_intro pn13 (L := #[.val (.ref v), .val (.int (oN i)), .val (.int (oN c))]) (fun m => by first | (simp [entryFrame, mkF, argsToLocals, Value.category, maxLocals]; done) | rfl) Z0 (fun w T K H => ?_)
  refine go_iloadN K H d13_0 rfl ?_
  refine go_aloadN K H d13_1 rfl rfl ?_
  refine go_callS [(.int (oN i)), (.ref v)] K H d13_2 (hw _ (List.mem_of_getElem? (i := 255) rfl)) (hw _ (List.mem_of_getElem? (i := 256) rfl)) (hw _ (List.mem_of_getElem? (i := 18) rfl)) (hw _ (List.mem_of_getElem? (i := 257) rfl)) (st' := []) (by decide) (rmUC Z a0 hw _ _ n0 (at_size K H) ss X0 bs B i hi) pd4 rfl rfl rfl (by decide) (W := 0) rfl (by decide) (by decide) (by decide) fun T101 h101 v101 H101 q101 => ?_
  obtain ⟨rfl, rfl⟩ := q101
  show Go _ _ _ 5 #[.val (.ref v), .val (.int (oN i)), .val (.int (oN c))] []
  refine go_aloadN K H101 d13_5 rfl rfl ?_
  refine go_iloadN K H101 d13_6 rfl ?_
  refine go_iloadN K H101 d13_7 rfl ?_
  refine go_callS [(.ref v), (.int (oN i)), (.int (oN c))] K H101 d13_8 (hw _ (List.mem_of_getElem? (i := 246) rfl)) (hw _ (List.mem_of_getElem? (i := 247) rfl)) (hw _ (List.mem_of_getElem? (i := 18) rfl)) (hw _ (List.mem_of_getElem? (i := 248) rfl)) (st' := []) (by decide) (rmPU Z a0 hw _ _ n0 (at_size K H101) ss X0 hz g0 bs B i c hi c6) pd7 rfl rfl rfl (by decide) (W := 0) rfl (by decide) (by decide) (by decide) fun T102 h102 v102 H102 q102 => ?_
  obtain ⟨rfl, B1, K1⟩ := q102
  show Go _ _ _ 11 #[.val (.ref v), .val (.int (oN i)), .val (.int (oN c))] []
  exact go_ret K H102 d13_11 rfl (by decide) (by decide) (⟨B1, K1⟩)
set_option maxRecDepth 65536 in
set_option maxHeartbeats 40000000 in
theorem rmNL (Z : State) (a0 : Array Value) (hw : ∀ d ∈ tables_1, d.before a0 Z = true)  (h0 : Heap) (n0 : Nat) (Z0 : n0 ≤ h0.size) (m : Nat) (hm : m ≤ 30) (lau : Launch) :
    Con lau Z (⟨"java/lang/StringUTF16", "newBytesLength", "(I)I"⟩ : MethodName) jdk_52_method_3_code 1 (some .int) ({ frames := 0, cells := 0, slots := 0, locals := 0 } : Room) #[(.int (oN m))] h0 n0 (RI fun z h => z = oN (2 * m) ∧ h0 = h) := by
  refine con_intro pn14 (L := #[.val (.int (oN m))]) (fun m => by first | (simp [entryFrame, mkF, argsToLocals, Value.category, maxLocals]; done) | rfl) Z0 (fun w T K H => ?_)
  refine go_iloadN K H d14_0 rfl ?_
  refine go_if_ge K H d14_1 (fun cc => ?_) (fun cc => False.elim (by (try simp (disch := omega) only [oN_toInt, Int32.lt_iff_toInt_lt, Int32.le_iff_toInt_le, ← Int32.toInt_inj, Int32.reduceToInt, ne_eq] at cc); omega))
  refine go_iloadN K H d14_12 rfl ?_
  refine go_ldcI (1073741823) K H d14_13 (hw _ (List.mem_of_getElem? (i := 276) rfl)) ?_
  refine go_icmp_lt K H d14_15 (fun cc => ?_) (fun cc => False.elim (by (try simp (disch := omega) only [oN_toInt, Int32.lt_iff_toInt_lt, Int32.le_iff_toInt_le, ← Int32.toInt_inj, Int32.reduceToInt, ne_eq] at cc); omega))
  refine go_iloadN K H d14_55 rfl ?_
  refine go_iconst (1) K H d14_56 (by decide) ?_
  refine go_ishl K H d14_57 fun v101 ev101 => ?_
  obtain rfl : v101 = oN (2 * m) := ev101.trans ((oN_shl (k := 1) (by decide) (by omega)).trans (congrArg oN (by omega)))
  exact go_iret K H d14_58 rfl (by decide) (by decide) (⟨rfl, rfl⟩)
set_option maxRecDepth 65536 in
set_option maxHeartbeats 40000000 in
theorem rmNB (Z : State) (a0 : Array Value) (hw : ∀ d ∈ tables_1, d.before a0 Z = true)  (h0 : Heap) (n0 : Nat) (Z0 : n0 ≤ h0.size) (m : Nat) (hm : m ≤ 30) (lau : Launch) :
    Con lau Z (⟨"java/lang/StringUTF16", "newBytesFor", "(I)[B"⟩ : MethodName) jdk_52_method_2_code 1 (some (.array .byte)) ({ frames := 1, cells := 1, slots := 64, locals := 12 } : Room) #[(.int (oN m))] h0 n0 (RR fun z h => ∃ a, z = .ref a ∧ n0 ≤ a ∧ h0.size ≤ a ∧ BA Z h a (List.replicate (2 * m) 0) ∧ Exa Z h a "[B" ∧ Ext h0 h) := by
  refine con_intro pn15 (L := #[.val (.int (oN m))]) (fun m => by first | (simp [entryFrame, mkF, argsToLocals, Value.category, maxLocals]; done) | rfl) Z0 (fun w T K H => ?_)
  refine go_iloadN K H d15_0 rfl ?_
  refine go_callS [(.int (oN m))] K H d15_1 (hw _ (List.mem_of_getElem? (i := 273) rfl)) (hw _ (List.mem_of_getElem? (i := 274) rfl)) (hw _ (List.mem_of_getElem? (i := 18) rfl)) (hw _ (List.mem_of_getElem? (i := 275) rfl)) (st' := []) (by decide) (rmNL Z a0 hw _ n0 (at_size K H) m hm) pd8 rfl rfl rfl (by decide) (W := 0) rfl (by decide) (by decide) (by decide) fun T101 h101 v101 H101 q101 => ?_
  obtain ⟨z101, rfl, rfl, rfl⟩ := q101
  show Go _ _ _ 4 #[.val (.int (oN m))] [(.int (oN (2 * m)))]
  refine go_newB (m := 2 * m) 64 K H101 d15_4 (hw _ (List.mem_of_getElem? (i := 20) rfl)) (by omega) (by decide) (by decide) (by decide) fun T102 h102 a H102 g102 l102 E102 A102 X102 => ?_
  exact go_aret K H102 d15_6 rfl rfl rfl (by decide) (by decide) (⟨a, rfl, l102, Nat.le_of_eq g102.symm, A102, X102, E102⟩)
set_option maxRecDepth 65536 in
set_option maxHeartbeats 40000000 in
theorem rmFI (Z : State) (a0 : Array Value) (hw : ∀ d ∈ tables_1, d.before a0 Z = true) (fv : Value) (h0 : Heap) (n0 : Nat) (Z0 : n0 ≤ h0.size) (f l m : Nat) (hfl : f + l ≤ m) (hm : m < 2 ^ 31) (hfv : fv.isRef = true) (lau : Launch) :
    Con lau Z (⟨"jdk/internal/util/Preconditions", "checkFromIndexSize", "(IIILjava/util/function/BiFunction;)I"⟩ : MethodName) jdk_41_method_13_code 4 (some .int) ({ frames := 0, cells := 0, slots := 0, locals := 0 } : Room) #[(.int (oN f)), (.int (oN l)), (.int (oN m)), fv] h0 n0 (RI fun z h => z = oN f ∧ h0 = h) := by
  refine con_intro pn16 (L := #[.val (.int (oN f)), .val (.int (oN l)), .val (.int (oN m)), .val fv]) (fun m => by rcases ref_cases hfv with rfl | ⟨_, rfl⟩ <;> first | (simp [entryFrame, mkF, argsToLocals, Value.category, maxLocals]; done) | rfl) Z0 (fun w T K H => ?_)
  have o1 : m ||| f < 2 ^ 31 := Nat.or_lt_two_pow hm (by omega); have o2 : (m ||| f) ||| l < 2 ^ 31 := Nat.or_lt_two_pow o1 (by omega)
  refine go_iloadN K H d16_0 rfl ?_
  refine go_iloadN K H d16_1 rfl ?_
  refine go_ior K H d16_2 fun v101 ev101 => ?_
  obtain rfl : v101 = oN (m ||| f) := ev101.trans (oN_or _ _ hm (by omega))
  refine go_iloadN K H d16_3 rfl ?_
  refine go_ior K H d16_4 fun v102 ev102 => ?_
  obtain rfl : v102 = oN ((m ||| f) ||| l) := ev102.trans (oN_or _ _ o1 (by omega))
  refine go_if_lt K H d16_5 (fun cc => False.elim (by (try simp (disch := omega) only [oN_toInt, Int32.lt_iff_toInt_lt, Int32.le_iff_toInt_le, ← Int32.toInt_inj, Int32.reduceToInt, ne_eq] at cc); omega)) (fun cc => ?_)
  refine go_iloadN K H d16_8 rfl ?_
  refine go_iloadN K H d16_9 rfl ?_
  refine go_iloadN K H d16_10 rfl ?_
  refine go_isub K H d16_11 fun v103 ev103 => ?_
  obtain rfl : v103 = oN (m - f) := ev103.trans (oN_sub (by omega))
  refine go_icmp_le K H d16_12 (fun cc => ?_) (fun cc => False.elim (by (try simp (disch := omega) only [oN_toInt, Int32.lt_iff_toInt_lt, Int32.le_iff_toInt_le, ← Int32.toInt_inj, Int32.reduceToInt, ne_eq] at cc); omega))
  refine go_iloadN K H d16_23 rfl ?_
  exact go_iret K H d16_24 rfl (by decide) (by decide) (⟨rfl, rfl⟩)
set_option maxRecDepth 65536 in
set_option maxHeartbeats 40000000 in
theorem rmSO (Z : State) (a0 : Array Value) (hw : ∀ d ∈ tables_1, d.before a0 Z = true)  (h0 : Heap) (n0 : Nat) (Z0 : n0 ≤ h0.size) (ss : SSt Z) (X0 : Ext Z.heap h0) (f l m : Nat) (hfl : f + l ≤ m) (hm : m < 2 ^ 31) (lau : Launch) :
    Con lau Z (⟨"java/lang/String", "checkBoundsOffCount", "(III)I"⟩ : MethodName) jdk_42_method_157_code 3 (some .int) ({ frames := 1, cells := 0, slots := 0, locals := 15 } : Room) #[(.int (oN f)), (.int (oN l)), (.int (oN m))] h0 n0 (RI fun z h => z = oN f ∧ h0 = h) := by
  refine con_intro pn17 (L := #[.val (.int (oN f)), .val (.int (oN l)), .val (.int (oN m))]) (fun m => by first | (simp [entryFrame, mkF, argsToLocals, Value.category, maxLocals]; done) | rfl) Z0 (fun w T K H => ?_)
  refine go_iloadN K H d17_0 rfl ?_
  refine go_iloadN K H d17_1 rfl ?_
  refine go_iloadN K H d17_2 rfl ?_
  obtain ⟨fv, hfv, S1⟩ := ss.2.1
  refine go_getstatic K H d17_3 (host := "") (Or.inl (hw _ (List.mem_of_getElem? (i := 112) rfl))) Via.refl (S1.ext X0) fun T101 HT101 => ?_
  refine go_callS [(.int (oN f)), (.int (oN l)), (.int (oN m)), fv] K HT101 d17_6 (hw _ (List.mem_of_getElem? (i := 289) rfl)) (hw _ (List.mem_of_getElem? (i := 290) rfl)) (hw _ (List.mem_of_getElem? (i := 113) rfl)) (hw _ (List.mem_of_getElem? (i := 291) rfl)) (st' := []) (by decide) (rmFI Z a0 hw _ _ n0 (at_size K HT101) f l m hfl hm hfv) pd9 rfl rfl rfl (by decide) (W := 0) rfl (by decide) (by decide) (by decide) fun T102 h102 v102 H102 q102 => ?_
  obtain ⟨z102, rfl, rfl, rfl⟩ := q102
  show Go _ _ _ 9 #[.val (.int (oN f)), .val (.int (oN l)), .val (.int (oN m))] [(.int (oN f))]
  exact go_iret K H102 d17_9 rfl (by decide) (by decide) (⟨rfl, rfl⟩)
set_option maxRecDepth 65536 in
set_option maxHeartbeats 40000000 in
theorem rmUB (Z : State) (a0 : Array Value) (hw : ∀ d ∈ tables_1, d.before a0 Z = true) (v : Addr) (h0 : Heap) (n0 : Nat) (Z0 : n0 ≤ h0.size) (ss : SSt Z) (X0 : Ext Z.heap h0) (f l : Nat) (bs : List Nat) (B : BA Z h0 v bs) (hfl : f + l ≤ bs.length / 2) (lau : Launch) :
    Con lau Z (⟨"java/lang/StringUTF16", "checkBoundsOffCount", "(II[B)V"⟩ : MethodName) jdk_52_method_94_code 3 none ({ frames := 2, cells := 0, slots := 0, locals := 29 } : Room) #[(.int (oN f)), (.int (oN l)), (.ref v)] h0 n0 (RV fun h => h0 = h) := by
  refine con_intro pn18 (L := #[.val (.int (oN f)), .val (.int (oN l)), .val (.ref v)]) (fun m => by first | (simp [entryFrame, mkF, argsToLocals, Value.category, maxLocals]; done) | rfl) Z0 (fun w T K H => ?_)
  refine go_iloadN K H d18_0 rfl ?_
  refine go_iloadN K H d18_1 rfl ?_
  refine go_aloadN K H d18_2 rfl rfl ?_
  refine go_callS [(.ref v)] K H d18_3 (hw _ (List.mem_of_getElem? (i := 258) rfl)) (hw _ (List.mem_of_getElem? (i := 259) rfl)) (hw _ (List.mem_of_getElem? (i := 18) rfl)) (hw _ (List.mem_of_getElem? (i := 260) rfl)) (st' := [(.int (oN l)), (.int (oN f))]) (by decide) (rmUL Z a0 hw _ _ n0 (at_size K H) bs B) pd3 rfl rfl rfl (by decide) (W := 2) rfl (by decide) (by decide) (by decide) fun T101 h101 v101 H101 q101 => ?_
  obtain ⟨z101, rfl, rfl, rfl⟩ := q101
  show Go _ _ _ 6 #[.val (.int (oN f)), .val (.int (oN l)), .val (.ref v)] [(.int (oN (bs.length / 2))), (.int (oN l)), (.int (oN f))]
  refine go_callS [(.int (oN f)), (.int (oN l)), (.int (oN (bs.length / 2)))] K H101 d18_6 (hw _ (List.mem_of_getElem? (i := 286) rfl)) (hw _ (List.mem_of_getElem? (i := 287) rfl)) (hw _ (List.mem_of_getElem? (i := 3) rfl)) (hw _ (List.mem_of_getElem? (i := 288) rfl)) (st' := []) (by decide) (rmSO Z a0 hw _ n0 (at_size K H101) ss X0 f l (bs.length / 2) hfl (by have := B.len; omega)) pd10 rfl rfl rfl (by decide) (W := 0) rfl (by decide) (by decide) (by decide) fun T102 h102 v102 H102 q102 => ?_
  obtain ⟨z102, rfl, rfl, rfl⟩ := q102
  show Go _ _ _ 9 #[.val (.int (oN f)), .val (.int (oN l)), .val (.ref v)] [(.int (oN f))]
  refine go_pop K H102 d18_9 rfl ?_
  exact go_ret K H102 d18_10 rfl (by decide) (by decide) (rfl)
set_option maxRecDepth 65536 in
set_option maxHeartbeats 40000000 in
theorem rmIF (Z : State) (a0 : Array Value) (hw : ∀ d ∈ tables_1, d.before a0 Z = true) (v1 : Addr) (v2 : Addr) (h0 : Heap) (n0 : Nat) (Z0 : n0 ≤ h0.size) (ss : SSt Z) (X0 : Ext Z.heap h0) (hz : Z.heap.size ≤ n0) (g0 : n0 ≤ v2) (ne : v1 ≠ v2) (xs M Y js : List Nat) (A : BA Z h0 v1 (M ++ xs)) (B : BA Z h0 v2 (enc 1 Y ++ js)) (d : Nat) (hd : d = Y.length) (hj : 2 * M.length ≤ js.length) (lau : Launch) :
    Con lau Z (⟨"java/lang/StringUTF16", "inflate", "([BI[BII)V"⟩ : MethodName) jdk_52_method_86_code 6 none ({ frames := 3, cells := 0, slots := 0, locals := 43 } : Room) #[(.ref v1), (.int (oN 0)), (.ref v2), (.int (oN d)), (.int (oN M.length))] h0 n0 (RV fun h => BA Z h v2 (enc 1 (Y ++ M) ++ js.drop (2 * M.length)) ∧ Keep h0 h [v2]) := by
  refine con_intro pn19 (L := #[.val (.ref v1), .val (.int (oN 0)), .val (.ref v2), .val (.int (oN d)), .val (.int (oN M.length)), .unset]) (fun m => by first | (simp [entryFrame, mkF, argsToLocals, Value.category, maxLocals]; done) | rfl) Z0 (fun w T K H => ?_)
  have ly : (enc 1 Y ++ js).length = 2 * Y.length + js.length := by rw [List.length_append, enc1_len]
  have lb := B.len; have la := A.len; rw [List.length_append] at la
  refine go_iloadN K H d19_0 rfl ?_
  refine go_iload K H d19_1 rfl ?_
  refine go_aloadN K H d19_3 rfl rfl ?_
  refine go_callS [(.int (oN d)), (.int (oN M.length)), (.ref v2)] K H d19_4 (hw _ (List.mem_of_getElem? (i := 283) rfl)) (hw _ (List.mem_of_getElem? (i := 284) rfl)) (hw _ (List.mem_of_getElem? (i := 18) rfl)) (hw _ (List.mem_of_getElem? (i := 285) rfl)) (st' := []) (by decide) (rmUB Z a0 hw _ _ n0 (at_size K H) ss X0 d M.length _ B (by omega)) pd11 rfl rfl rfl (by decide) (W := 0) rfl (by decide) (by decide) (by decide) fun T101 h101 v101 H101 q101 => ?_
  obtain ⟨rfl, rfl⟩ := q101
  show Go _ _ _ 7 #[.val (.ref v1), .val (.int (oN 0)), .val (.ref v2), .val (.int (oN d)), .val (.int (oN M.length)), .unset] []
  refine go_iconst (0) K H101 d19_7 (by decide) ?_
  refine go_istore K H101 d19_8 (L' := #[.val (.ref v1), .val (.int (oN 0)), .val (.ref v2), .val (.int (oN d)), .val (.int (oN M.length)), .val (.int 0)]) rfl ?_
  have loop : ∀ (r i : Nat), i + r = M.length → ∀ T h, At1 w T h 0 0 → BA Z h v1 (M ++ xs) → BA Z h v2 (enc 1 (Y ++ M.take i) ++ js.drop (2 * i)) → Keep h0 h [v2] → Go w (Fn w (RV fun h => BA Z h v2 (enc 1 (Y ++ M) ++ js.drop (2 * M.length)) ∧ Keep h0 h [v2])) T 10 #[.val (.ref v1), .val (.int (oN i)), .val (.ref v2), .val (.int (oN (d + i))), .val (.int (oN M.length)), .val (.int (oN i))] [] := by
    intro r
    induction r with
    | zero =>
      intro i hi T h H A B KK
      refine go_iload K H d19_10 rfl ?_
      refine go_iload K H d19_12 rfl ?_
      refine go_icmp_ge K H d19_14 (fun cc => ?_) (fun cc => False.elim (by (try simp (disch := omega) only [oN_toInt, Int32.lt_iff_toInt_lt, Int32.le_iff_toInt_le, ← Int32.toInt_inj, Int32.reduceToInt, ne_eq] at cc); omega))
      exact go_ret K H d19_41 rfl (by decide) (by decide) (⟨by rw [show i = M.length by omega, List.take_length] at B; exact B, KK⟩)
    | succ r ih =>
      intro i hi T h H A B KK
      obtain ⟨c, hc⟩ : ∃ c, M[i]? = some c := ⟨_, List.getElem?_eq_getElem (by omega)⟩
      have hc' : (M ++ xs)[i]? = some c := by rw [List.getElem?_append_left (by omega)]; exact hc
      have c8 : c < 256 := A.2 c (List.mem_of_getElem? hc')
      have e1 : (Y ++ M.take i).length = d + i := by rw [List.length_append, List.length_take, hd]; omega
      have l2 : (enc 1 (Y ++ M.take i) ++ js.drop (2 * i)).length = 2 * (d + i) + (js.length - 2 * i) := by rw [List.length_append, enc1_len, e1, List.length_drop]
      have XX := ext_keep X0 KK (allS (Nat.le_trans hz g0) all0)
      refine go_iload K H d19_10 rfl ?_
      refine go_iload K H d19_12 rfl ?_
      refine go_icmp_ge K H d19_14 (fun cc => False.elim (by (try simp (disch := omega) only [oN_toInt, Int32.lt_iff_toInt_lt, Int32.le_iff_toInt_le, ← Int32.toInt_inj, Int32.reduceToInt, ne_eq] at cc); omega)) (fun cc => ?_)
      refine go_aloadN K H d19_17 rfl rfl ?_
      refine go_iloadN K H d19_18 rfl ?_
      obtain ⟨v102, ev102⟩ : ∃ z : Int32, z = (oN (d + i)) + Int32.ofInt (1) := ⟨_, rfl⟩
      refine go_iinc K H d19_19 rfl ev102 (L' := #[.val (.ref v1), .val (.int (oN i)), .val (.ref v2), .val (.int v102), .val (.int (oN M.length)), .val (.int (oN i))]) rfl ?_
      obtain rfl : v102 = oN (d + i + 1) := ev102.trans (oN_inc _)
      refine go_aloadN K H d19_22 rfl rfl ?_
      refine go_iloadN K H d19_23 rfl ?_
      obtain ⟨v103, ev103⟩ : ∃ z : Int32, z = (oN i) + Int32.ofInt (1) := ⟨_, rfl⟩
      refine go_iinc K H d19_24 rfl ev103 (L' := #[.val (.ref v1), .val (.int v103), .val (.ref v2), .val (.int (oN (d + i + 1))), .val (.int (oN M.length)), .val (.int (oN i))]) rfl ?_
      obtain rfl : v103 = oN (i + 1) := ev103.trans (oN_inc _)
      refine go_bL K H d19_27 (A) (hc') ?_
      refine go_sipush (255) K H d19_28 (by decide) ?_
      refine go_iand K H d19_31 fun v104 ev104 => ?_
      obtain rfl : v104 = oN (c) := ev104.trans (bv_and c8)
      refine go_callS [(.ref v2), (.int (oN (d + i))), (.int (oN (c)))] K H d19_32 (hw _ (List.mem_of_getElem? (i := 246) rfl)) (hw _ (List.mem_of_getElem? (i := 247) rfl)) (hw _ (List.mem_of_getElem? (i := 18) rfl)) (hw _ (List.mem_of_getElem? (i := 248) rfl)) (st' := []) (by decide) (rmPU Z a0 hw _ _ n0 (at_size K H) ss XX hz g0 _ B (d + i) c (by omega) (by omega)) pd7 rfl rfl rfl (by decide) (W := 0) rfl (by decide) (by decide) (by decide) fun T105 h105 v105 H105 q105 => ?_
      obtain ⟨rfl, B2, K2⟩ := q105
      show Go _ _ _ 35 #[.val (.ref v1), .val (.int (oN (i + 1))), .val (.ref v2), .val (.int (oN (d + i + 1))), .val (.int (oN M.length)), .val (.int (oN i))] []
      have q := wide_set (L := Y ++ M.take i) (js := js.drop (2 * i)) (c := c) (by omega) (by rw [List.length_drop]; omega)
      rw [e1] at q; rw [q, List.drop_drop, List.append_assoc, ← (show M.take (i + 1) = M.take i ++ [c] by rw [List.take_add_one, hc]; rfl)] at B2
      obtain ⟨v106, ev106⟩ : ∃ z : Int32, z = (oN i) + Int32.ofInt (1) := ⟨_, rfl⟩
      refine go_iinc K H105 d19_35 rfl ev106 (L' := #[.val (.ref v1), .val (.int (oN (i + 1))), .val (.ref v2), .val (.int (oN (d + i + 1))), .val (.int (oN M.length)), .val (.int v106)]) rfl ?_
      obtain rfl : v106 = oN (i + 1) := ev106.trans (oN_inc _)
      refine go_goto K H105 d19_38 ?_
      exact ih (i + 1) (by omega) _ _ H105 (A.keep K2 (ninS ne nin0)) B2 (KK.trans K2 (inS (Or.inl (List.mem_singleton.mpr rfl)) in0))
  exact loop M.length 0 (by omega) _ _ H101 A (by rw [List.take_zero, List.append_nil]; exact B) (Keep.refl _ _)
set_option maxRecDepth 65536 in
set_option maxHeartbeats 40000000 in
theorem rmLI (Z : State) (a0 : Array Value) (hw : ∀ d ∈ tables_1, d.before a0 Z = true) (v1 : Addr) (v2 : Addr) (h0 : Heap) (n0 : Nat) (Z0 : n0 ≤ h0.size) (ss : SSt Z) (X0 : Ext Z.heap h0) (hz : Z.heap.size ≤ n0) (g0 : n0 ≤ v2) (ne : v1 ≠ v2) (xs M Y js : List Nat) (A : BA Z h0 v1 (M ++ xs)) (B : BA Z h0 v2 (enc 1 Y ++ js)) (d : Nat) (hd : d = Y.length) (hj : 2 * M.length ≤ js.length) (lau : Launch) :
    Con lau Z (⟨"java/lang/StringLatin1", "inflate", "([BI[BII)V"⟩ : MethodName) jdk_43_method_50_code 5 none ({ frames := 4, cells := 0, slots := 0, locals := 60 } : Room) #[(.ref v1), (.int (oN 0)), (.ref v2), (.int (oN d)), (.int (oN M.length))] h0 n0 (RV fun h => BA Z h v2 (enc 1 (Y ++ M) ++ js.drop (2 * M.length)) ∧ Keep h0 h [v2]) := by
  refine con_intro pn20 (L := #[.val (.ref v1), .val (.int (oN 0)), .val (.ref v2), .val (.int (oN d)), .val (.int (oN M.length))]) (fun m => by first | (simp [entryFrame, mkF, argsToLocals, Value.category, maxLocals]; done) | rfl) Z0 (fun w T K H => ?_)
  refine go_aloadN K H d20_0 rfl rfl ?_
  refine go_iloadN K H d20_1 rfl ?_
  refine go_aloadN K H d20_2 rfl rfl ?_
  refine go_iloadN K H d20_3 rfl ?_
  refine go_iload K H d20_4 rfl ?_
  refine go_callS [(.ref v1), (.int (oN 0)), (.ref v2), (.int (oN d)), (.int (oN M.length))] K H d20_6 (hw _ (List.mem_of_getElem? (i := 280) rfl)) (hw _ (List.mem_of_getElem? (i := 281) rfl)) (hw _ (List.mem_of_getElem? (i := 18) rfl)) (hw _ (List.mem_of_getElem? (i := 282) rfl)) (st' := []) (by decide) (rmIF Z a0 hw _ _ _ n0 (at_size K H) ss X0 hz g0 ne xs M Y js A B d hd hj) pd12 rfl rfl rfl (by decide) (W := 0) rfl (by decide) (by decide) (by decide) fun T101 h101 v101 H101 q101 => ?_
  obtain ⟨rfl, B1, K1⟩ := q101
  show Go _ _ _ 9 #[.val (.ref v1), .val (.int (oN 0)), .val (.ref v2), .val (.int (oN d)), .val (.int (oN M.length))] []
  exact go_ret K H101 d20_9 rfl (by decide) (by decide) (⟨B1, K1⟩)
set_option maxRecDepth 65536 in
set_option maxHeartbeats 40000000 in
theorem rmmax (Z : State) (a0 : Array Value) (hw : ∀ d ∈ tables_1, d.before a0 Z = true)  (h0 : Heap) (n0 : Nat) (Z0 : n0 ≤ h0.size) (x y : Nat) (hx : x < 2 ^ 31) (hy : y < 2 ^ 31) (lau : Launch) :
    Con lau Z (⟨"java/lang/Math", "max", "(II)I"⟩ : MethodName) jdk_29_method_65_code 2 (some .int) ({ frames := 0, cells := 0, slots := 0, locals := 0 } : Room) #[(.int (oN x)), (.int (oN y))] h0 n0 (RI fun z h => z = oN (max x y) ∧ h0 = h) := by
  refine con_intro pn21 (L := #[.val (.int (oN x)), .val (.int (oN y))]) (fun m => by first | (simp [entryFrame, mkF, argsToLocals, Value.category, maxLocals]; done) | rfl) Z0 (fun w T K H => ?_)
  refine go_iloadN K H d21_0 rfl ?_
  refine go_iloadN K H d21_1 rfl ?_
  refine go_icmp_lt K H d21_2 (fun cc => ?_) (fun cc => ?_)
  · refine go_iloadN K H d21_9 rfl ?_
    exact go_iret K H d21_10 rfl (by decide) (by decide) (⟨congrArg oN (by (try simp (disch := omega) only [oN_toInt, Int32.lt_iff_toInt_lt, Int32.le_iff_toInt_le, ← Int32.toInt_inj, Int32.reduceToInt, ne_eq] at cc); omega), rfl⟩)
  · refine go_iloadN K H d21_5 rfl ?_
    refine go_goto K H d21_6 ?_
    exact go_iret K H d21_10 rfl (by decide) (by decide) (⟨congrArg oN (by (try simp (disch := omega) only [oN_toInt, Int32.lt_iff_toInt_lt, Int32.le_iff_toInt_le, ← Int32.toInt_inj, Int32.reduceToInt, ne_eq] at cc); omega), rfl⟩)
set_option maxRecDepth 65536 in
set_option maxHeartbeats 40000000 in
theorem rmmin (Z : State) (a0 : Array Value) (hw : ∀ d ∈ tables_1, d.before a0 Z = true)  (h0 : Heap) (n0 : Nat) (Z0 : n0 ≤ h0.size) (x y : Nat) (hx : x < 2 ^ 31) (hy : y < 2 ^ 31) (lau : Launch) :
    Con lau Z (⟨"java/lang/Math", "min", "(II)I"⟩ : MethodName) jdk_29_method_69_code 2 (some .int) ({ frames := 0, cells := 0, slots := 0, locals := 0 } : Room) #[(.int (oN x)), (.int (oN y))] h0 n0 (RI fun z h => z = oN (min x y) ∧ h0 = h) := by
  refine con_intro pn22 (L := #[.val (.int (oN x)), .val (.int (oN y))]) (fun m => by first | (simp [entryFrame, mkF, argsToLocals, Value.category, maxLocals]; done) | rfl) Z0 (fun w T K H => ?_)
  refine go_iloadN K H d22_0 rfl ?_
  refine go_iloadN K H d22_1 rfl ?_
  refine go_icmp_gt K H d22_2 (fun cc => ?_) (fun cc => ?_)
  · refine go_iloadN K H d22_9 rfl ?_
    exact go_iret K H d22_10 rfl (by decide) (by decide) (⟨congrArg oN (by (try simp (disch := omega) only [oN_toInt, Int32.lt_iff_toInt_lt, Int32.le_iff_toInt_le, ← Int32.toInt_inj, Int32.reduceToInt, ne_eq] at cc); omega), rfl⟩)
  · refine go_iloadN K H d22_5 rfl ?_
    refine go_goto K H d22_6 ?_
    exact go_iret K H d22_10 rfl (by decide) (by decide) (⟨congrArg oN (by (try simp (disch := omega) only [oN_toInt, Int32.lt_iff_toInt_lt, Int32.le_iff_toInt_le, ← Int32.toInt_inj, Int32.reduceToInt, ne_eq] at cc); omega), rfl⟩)
set_option maxRecDepth 65536 in
set_option maxHeartbeats 40000000 in
theorem rmNG (Z : State) (a0 : Array Value) (hw : ∀ d ∈ tables_1, d.before a0 Z = true)  (h0 : Heap) (n0 : Nat) (Z0 : n0 ≤ h0.size) (o g1 g2 : Nat) (b0 : o ≤ 1000) (b1 : g1 ≤ 1000) (b2 : g2 ≤ 1000) (b3 : 0 < g2) (lau : Launch) :
    Con lau Z (⟨"jdk/internal/util/ArraysSupport", "newLength", "(III)I"⟩ : MethodName) jdk_48_method_27_code 4 (some .int) ({ frames := 1, cells := 0, slots := 0, locals := 14 } : Room) #[(.int (oN o)), (.int (oN g1)), (.int (oN g2))] h0 n0 (RI fun z h => z = oN (o + max g1 g2) ∧ h0 = h) := by
  refine con_intro pn23 (L := #[.val (.int (oN o)), .val (.int (oN g1)), .val (.int (oN g2)), .unset]) (fun m => by first | (simp [entryFrame, mkF, argsToLocals, Value.category, maxLocals]; done) | rfl) Z0 (fun w T K H => ?_)
  have hm1 : max g1 g2 ≤ 1000 := Nat.max_le.mpr ⟨b1, b2⟩; have hm2 : g2 ≤ max g1 g2 := Nat.le_max_right _ _
  refine go_iloadN K H d23_0 rfl ?_
  refine go_iloadN K H d23_1 rfl ?_
  refine go_iloadN K H d23_2 rfl ?_
  refine go_callS [(.int (oN g1)), (.int (oN g2))] K H d23_3 (hw _ (List.mem_of_getElem? (i := 168) rfl)) (hw _ (List.mem_of_getElem? (i := 169) rfl)) (hw _ (List.mem_of_getElem? (i := 170) rfl)) (hw _ (List.mem_of_getElem? (i := 171) rfl)) (st' := [(.int (oN o))]) (by decide) (rmmax Z a0 hw _ n0 (at_size K H) g1 g2 (by omega) (by omega)) pd13 rfl rfl rfl (by decide) (W := 1) rfl (by decide) (by decide) (by decide) fun T101 h101 v101 H101 q101 => ?_
  obtain ⟨z101, rfl, rfl, rfl⟩ := q101
  show Go _ _ _ 6 #[.val (.int (oN o)), .val (.int (oN g1)), .val (.int (oN g2)), .unset] [(.int (oN (max g1 g2))), (.int (oN o))]
  refine go_iadd K H101 d23_6 fun v102 ev102 => ?_
  obtain rfl : v102 = oN (o + max g1 g2) := ev102.trans (oN_add _ _)
  refine go_istoreN K H101 d23_7 (L' := #[.val (.int (oN o)), .val (.int (oN g1)), .val (.int (oN g2)), .val (.int (oN (o + max g1 g2)))]) rfl ?_
  refine go_iconst (0) K H101 d23_8 (by decide) ?_
  refine go_iloadN K H101 d23_9 rfl ?_
  refine go_icmp_ge K H101 d23_10 (fun cc => False.elim (by (try simp (disch := omega) only [oN_toInt, Int32.lt_iff_toInt_lt, Int32.le_iff_toInt_le, ← Int32.toInt_inj, Int32.reduceToInt, ne_eq] at cc); omega)) (fun cc => ?_)
  refine go_iloadN K H101 d23_13 rfl ?_
  refine go_ldcI (2147483639) K H101 d23_14 (hw _ (List.mem_of_getElem? (i := 172) rfl)) ?_
  refine go_icmp_gt K H101 d23_16 (fun cc => False.elim (by (try simp (disch := omega) only [oN_toInt, Int32.lt_iff_toInt_lt, Int32.le_iff_toInt_le, ← Int32.toInt_inj, Int32.reduceToInt, ne_eq] at cc); omega)) (fun cc => ?_)
  refine go_iloadN K H101 d23_19 rfl ?_
  exact go_iret K H101 d23_20 rfl (by decide) (by decide) (⟨rfl, rfl⟩)
set_option maxRecDepth 65536 in
set_option maxHeartbeats 40000000 in
theorem rmCO (Z : State) (a0 : Array Value) (hw : ∀ d ∈ tables_1, d.before a0 Z = true) (v : Addr) (h0 : Heap) (n0 : Nat) (Z0 : n0 ≤ h0.size) (bs : List Nat) (B : BA Z h0 v bs) (M : Nat) (hb : bs.length < M) (hM : M ≤ 64) (lau : Launch) :
    Con lau Z (⟨"java/util/Arrays", "copyOf", "([BI)[B"⟩ : MethodName) jdk_65_method_121_code 3 (some (.array .byte)) ({ frames := 1, cells := 1, slots := 64, locals := 26 } : Room) #[(.ref v), (.int (oN M))] h0 n0 (RR fun z h => ∃ a, z = .ref a ∧ n0 ≤ a ∧ h0.size ≤ a ∧ BA Z h a (bs ++ List.replicate (M - bs.length) 0) ∧ Exa Z h a "[B" ∧ Ext h0 h) := by
  refine con_intro pn24 (L := #[.val (.ref v), .val (.int (oN M)), .unset]) (fun m => by first | (simp [entryFrame, mkF, argsToLocals, Value.category, maxLocals]; done) | rfl) Z0 (fun w T K H => ?_)
  have bl := B.len
  refine go_iloadN K H d24_0 rfl ?_
  refine go_aloadN K H d24_1 rfl rfl ?_
  refine go_lenB K H d24_2 (B) ?_
  refine go_icmp_ne K H d24_3 (fun cc => ?_) (fun cc => False.elim (by (try simp (disch := omega) only [oN_toInt, Int32.lt_iff_toInt_lt, Int32.le_iff_toInt_le, ← Int32.toInt_inj, Int32.reduceToInt, ne_eq] at cc); omega))
  refine go_iloadN K H d24_14 rfl ?_
  refine go_newB (m := M) 64 K H d24_15 (hw _ (List.mem_of_getElem? (i := 20) rfl)) (hM) (by decide) (by decide) (by decide) fun T101 h101 a H101 g101 l101 E101 A101 X101 => ?_
  have nva : v ≠ a := Nat.ne_of_lt (g101 ▸ B.lt); have B1 := B.ext E101
  refine go_astoreN K H101 d24_17 rfl (L' := #[.val (.ref v), .val (.int (oN M)), .val (.ref a)]) rfl ?_
  refine go_aloadN K H101 d24_18 rfl rfl ?_
  refine go_iconst (0) K H101 d24_19 (by decide) ?_
  refine go_aloadN K H101 d24_20 rfl rfl ?_
  refine go_iconst (0) K H101 d24_21 (by decide) ?_
  refine go_aloadN K H101 d24_22 rfl rfl ?_
  refine go_lenB K H101 d24_23 (B1) ?_
  refine go_iloadN K H101 d24_24 rfl ?_
  refine go_callS [(.int (oN (bs).length)), (.int (oN M))] K H101 d24_25 (hw _ (List.mem_of_getElem? (i := 178) rfl)) (hw _ (List.mem_of_getElem? (i := 179) rfl)) (hw _ (List.mem_of_getElem? (i := 170) rfl)) (hw _ (List.mem_of_getElem? (i := 180) rfl)) (st' := [(.int 0), (.ref a), (.int 0), (.ref v)]) (by decide) (rmmin Z a0 hw _ n0 (at_size K H101) bs.length M bl (by omega)) pd13 rfl rfl rfl (by decide) (W := 4) rfl (by decide) (by decide) (by decide) fun T102 h102 v102 H102 q102 => ?_
  obtain ⟨z102, rfl, rfl, rfl⟩ := q102
  show Go _ _ _ 28 #[.val (.ref v), .val (.int (oN M)), .val (.ref a)] [(.int (oN (min bs.length M))), (.int 0), (.ref a), (.int 0), (.ref v)]
  have em : min bs.length M = bs.length := Nat.min_eq_left (by omega)
  rw [em]
  show Go _ _ _ 28 #[.val (.ref v), .val (.int (oN M)), .val (.ref a)] [(.int (oN bs.length)), (.int 0), (.ref a), (.int 0), (.ref v)]
  refine go_copyB (0) (0) (bs.length) K H102 d24_28 (hw _ (List.mem_of_getElem? (i := 181) rfl)) (hw _ (List.mem_of_getElem? (i := 156) rfl)) (hw _ (List.mem_of_getElem? (i := 154) rfl)) (hw _ (List.mem_of_getElem? (i := 155) rfl)) (B1) (A101) (by omega) (by rw [List.length_replicate]; omega) (l101) rfl (by decide) (W := 0) rfl (by decide) fun T103 h103 H103 K103 B103 => ?_
  refine go_aloadN K H103 d24_31 rfl rfl ?_
  have B2 := B103; rw [List.take_zero, List.nil_append, List.drop_zero, List.take_length, Nat.zero_add, List.drop_replicate] at B2
  exact go_aret K H103 d24_32 rfl rfl rfl (by decide) (by decide) (⟨a, rfl, l101, Nat.le_of_eq g101.symm, B2, X101.keep K103, ((E101.keep []).trans K103 (inS (Or.inr (Nat.le_of_eq g101.symm)) in0)).toExt⟩)
set_option maxRecDepth 65536 in
set_option maxHeartbeats 40000000 in
theorem rmCL (Z : State) (a0 : Array Value) (hw : ∀ d ∈ tables_1, d.before a0 Z = true)  (h0 : Heap) (n0 : Nat) (Z0 : n0 ≤ h0.size) (t : Nat) (ht : t ≤ 64) (lau : Launch) :
    Con lau Z (⟨"java/util/Arrays", "checkLength", "(II)V"⟩ : MethodName) jdk_65_method_131_code 2 none ({ frames := 0, cells := 0, slots := 0, locals := 0 } : Room) #[(.int (oN 0)), (.int (oN t))] h0 n0 (RV fun h => h0 = h) := by
  refine con_intro pn25 (L := #[.val (.int (oN 0)), .val (.int (oN t))]) (fun m => by first | (simp [entryFrame, mkF, argsToLocals, Value.category, maxLocals]; done) | rfl) Z0 (fun w T K H => ?_)
  refine go_iloadN K H d25_0 rfl ?_
  refine go_iloadN K H d25_1 rfl ?_
  refine go_icmp_ge K H d25_2 (fun cc => ?_) (fun cc => False.elim (by (try simp (disch := omega) only [oN_toInt, Int32.lt_iff_toInt_lt, Int32.le_iff_toInt_le, ← Int32.toInt_inj, Int32.reduceToInt, ne_eq] at cc); omega))
  exact go_ret K H d25_37 rfl (by decide) (by decide) (rfl)
set_option maxRecDepth 65536 in
set_option maxHeartbeats 40000000 in
theorem rmRB (Z : State) (a0 : Array Value) (hw : ∀ d ∈ tables_1, d.before a0 Z = true) (v : Addr) (h0 : Heap) (n0 : Nat) (Z0 : n0 ≤ h0.size) (bs : List Nat) (B : BA Z h0 v bs) (t : Nat) (ht : t ≤ bs.length) (h64 : t ≤ 64) (lau : Launch) :
    Con lau Z (⟨"java/util/Arrays", "copyOfRangeByte", "([BII)[B"⟩ : MethodName) jdk_65_method_133_code 5 (some (.array .byte)) ({ frames := 1, cells := 1, slots := 64, locals := 26 } : Room) #[(.ref v), (.int (oN 0)), (.int (oN t))] h0 n0 (RR fun z h => ∃ a, z = .ref a ∧ n0 ≤ a ∧ h0.size ≤ a ∧ BA Z h a (bs.take t) ∧ Exa Z h a "[B" ∧ Ext h0 h) := by
  refine con_intro pn26 (L := #[.val (.ref v), .val (.int (oN 0)), .val (.int (oN t)), .unset, .unset]) (fun m => by first | (simp [entryFrame, mkF, argsToLocals, Value.category, maxLocals]; done) | rfl) Z0 (fun w T K H => ?_)
  have bl := B.len
  refine go_iloadN K H d26_0 rfl ?_
  refine go_iloadN K H d26_1 rfl ?_
  refine go_callS [(.int (oN 0)), (.int (oN t))] K H d26_2 (hw _ (List.mem_of_getElem? (i := 214) rfl)) (hw _ (List.mem_of_getElem? (i := 215) rfl)) (hw _ (List.mem_of_getElem? (i := 176) rfl)) (hw _ (List.mem_of_getElem? (i := 216) rfl)) (st' := []) (by decide) (rmCL Z a0 hw _ n0 (at_size K H) t h64) pd2 rfl rfl rfl (by decide) (W := 0) rfl (by decide) (by decide) (by decide) fun T101 h101 v101 H101 q101 => ?_
  obtain ⟨rfl, rfl⟩ := q101
  show Go _ _ _ 5 #[.val (.ref v), .val (.int (oN 0)), .val (.int (oN t)), .unset, .unset] []
  refine go_iloadN K H101 d26_5 rfl ?_
  refine go_iloadN K H101 d26_6 rfl ?_
  refine go_isub K H101 d26_7 fun v102 ev102 => ?_
  obtain rfl : v102 = oN (t) := ev102.trans (oN_sub (b := 0) (Nat.zero_le _))
  refine go_istoreN K H101 d26_8 (L' := #[.val (.ref v), .val (.int (oN 0)), .val (.int (oN t)), .val (.int (oN (t))), .unset]) rfl ?_
  refine go_iloadN K H101 d26_9 rfl ?_
  refine go_newB (m := t) 64 K H101 d26_10 (hw _ (List.mem_of_getElem? (i := 20) rfl)) (h64) (by decide) (by decide) (by decide) fun T103 h103 a H103 g103 l103 E103 A103 X103 => ?_
  have B1 := B.ext E103
  refine go_astore K H103 d26_12 rfl (L' := #[.val (.ref v), .val (.int (oN 0)), .val (.int (oN t)), .val (.int (oN (t))), .val (.ref a)]) rfl ?_
  refine go_aloadN K H103 d26_14 rfl rfl ?_
  refine go_iloadN K H103 d26_15 rfl ?_
  refine go_aload K H103 d26_16 rfl rfl ?_
  refine go_iconst (0) K H103 d26_18 (by decide) ?_
  refine go_aloadN K H103 d26_19 rfl rfl ?_
  refine go_lenB K H103 d26_20 (B1) ?_
  refine go_iloadN K H103 d26_21 rfl ?_
  refine go_isub K H103 d26_22 fun v104 ev104 => ?_
  obtain rfl : v104 = oN (bs.length) := ev104.trans (oN_sub (b := 0) (Nat.zero_le _))
  refine go_iloadN K H103 d26_23 rfl ?_
  refine go_callS [(.int (oN (bs.length))), (.int (oN (t)))] K H103 d26_24 (hw _ (List.mem_of_getElem? (i := 178) rfl)) (hw _ (List.mem_of_getElem? (i := 179) rfl)) (hw _ (List.mem_of_getElem? (i := 170) rfl)) (hw _ (List.mem_of_getElem? (i := 180) rfl)) (st' := [(.int 0), (.ref a), (.int (oN 0)), (.ref v)]) (by decide) (rmmin Z a0 hw _ n0 (at_size K H103) bs.length t bl (by omega)) pd13 rfl rfl rfl (by decide) (W := 4) rfl (by decide) (by decide) (by decide) fun T105 h105 v105 H105 q105 => ?_
  obtain ⟨z105, rfl, rfl, rfl⟩ := q105
  show Go _ _ _ 27 #[.val (.ref v), .val (.int (oN 0)), .val (.int (oN t)), .val (.int (oN (t))), .val (.ref a)] [(.int (oN (min bs.length t))), (.int 0), (.ref a), (.int (oN 0)), (.ref v)]
  have em : min bs.length t = t := Nat.min_eq_right (by omega)
  rw [em]
  show Go _ _ _ 27 #[.val (.ref v), .val (.int (oN 0)), .val (.int (oN t)), .val (.int (oN (t))), .val (.ref a)] [(.int (oN t)), (.int 0), (.ref a), (.int (oN 0)), (.ref v)]
  refine go_copyB (0) (0) (t) K H105 d26_27 (hw _ (List.mem_of_getElem? (i := 181) rfl)) (hw _ (List.mem_of_getElem? (i := 156) rfl)) (hw _ (List.mem_of_getElem? (i := 154) rfl)) (hw _ (List.mem_of_getElem? (i := 155) rfl)) (B1) (A103) (by omega) (by rw [List.length_replicate]; omega) (l103) rfl (by decide) (W := 0) rfl (by decide) fun T106 h106 H106 K106 B106 => ?_
  refine go_aload K H106 d26_30 rfl rfl ?_
  have B2 := B106; rw [List.take_zero, List.nil_append, List.drop_zero, Nat.zero_add, List.drop_replicate, Nat.sub_self, List.replicate_zero, List.append_nil] at B2
  exact go_aret K H106 d26_32 rfl rfl rfl (by decide) (by decide) (⟨a, rfl, l103, Nat.le_of_eq g103.symm, B2, X103.keep K106, ((E103.keep []).trans K106 (inS (Or.inr (Nat.le_of_eq g103.symm)) in0)).toExt⟩)
set_option maxRecDepth 65536 in
set_option maxHeartbeats 40000000 in
theorem rmCR (Z : State) (a0 : Array Value) (hw : ∀ d ∈ tables_1, d.before a0 Z = true) (v : Addr) (h0 : Heap) (n0 : Nat) (Z0 : n0 ≤ h0.size) (bs : List Nat) (B : BA Z h0 v bs) (t : Nat) (ht : t ≤ bs.length) (h64 : t ≤ 64) (BX : Exa Z h0 v "[B") (lau : Launch) :
    Con lau Z (⟨"java/util/Arrays", "copyOfRange", "([BII)[B"⟩ : MethodName) jdk_65_method_132_code 3 (some (.array .byte)) ({ frames := 2, cells := 1, slots := 64, locals := 42 } : Room) #[(.ref v), (.int (oN 0)), (.int (oN t))] h0 n0 (RR fun z h => ∃ a, z = .ref a ∧ n0 ≤ a ∧ h0.size ≤ a ∧ BA Z h a (bs.take t) ∧ Exa Z h a "[B" ∧ Ext h0 h) := by
  refine con_intro pn27 (L := #[.val (.ref v), .val (.int (oN 0)), .val (.int (oN t))]) (fun m => by first | (simp [entryFrame, mkF, argsToLocals, Value.category, maxLocals]; done) | rfl) Z0 (fun w T K H => ?_)
  have bl := B.len
  refine go_iloadN K H d27_0 rfl ?_
  refine go_if_ne K H d27_1 (fun cc => False.elim (by exact cc rfl)) (fun cc => ?_)
  refine go_iloadN K H d27_4 rfl ?_
  refine go_aloadN K H d27_5 rfl rfl ?_
  refine go_lenB K H d27_6 (B) ?_
  refine go_icmp_eq K H d27_7 (fun cc => ?_) (fun cc => ?_)
  · have e1 : t = bs.length := (oN_inj (by omega) bl).mp cc
    refine go_aloadN K H d27_17 rfl rfl ?_
    refine go_cloneB 64 K H d27_18 (hw _ (List.mem_of_getElem? (i := 223) rfl)) (hw _ (List.mem_of_getElem? (i := 224) rfl)) (hw _ (List.mem_of_getElem? (i := 228) rfl)) (hw _ (List.mem_of_getElem? (i := 226) rfl)) (hw _ (List.mem_of_getElem? (i := 227) rfl)) (hw _ (List.mem_of_getElem? (i := 229) rfl)) (B) (BX) rfl (by decide) (W := 0) rfl (by decide) (by omega) (by decide) (by decide) fun T101 h101 a H101 g101 l101 E101 A101 X101 => ?_
    refine go_checkcast K H101 d27_21 (hw _ (List.mem_of_getElem? (i := 230) rfl)) (Ins.self X101) fun T102 HT102 => ?_
    exact go_aret K HT102 d27_24 rfl rfl rfl (by decide) (by decide) (⟨a, rfl, l101, Nat.le_of_eq g101.symm, by rw [e1, List.take_length]; exact A101, X101, E101⟩)
  · refine go_aloadN K H d27_10 rfl rfl ?_
    refine go_iloadN K H d27_11 rfl ?_
    refine go_iloadN K H d27_12 rfl ?_
    refine go_callS [(.ref v), (.int (oN 0)), (.int (oN t))] K H d27_13 (hw _ (List.mem_of_getElem? (i := 211) rfl)) (hw _ (List.mem_of_getElem? (i := 212) rfl)) (hw _ (List.mem_of_getElem? (i := 176) rfl)) (hw _ (List.mem_of_getElem? (i := 213) rfl)) (st' := []) (by decide) (rmRB Z a0 hw _ _ n0 (at_size K H) bs B t ht h64) pd14 rfl rfl rfl (by decide) (W := 0) rfl (by decide) (by decide) (by decide) fun T103 h103 v103 H103 q103 => ?_
    obtain ⟨z103, rfl, hz103, a, rfl, la, ha, BB, BXX, EE⟩ := q103
    show Go _ _ _ 16 #[.val (.ref v), .val (.int (oN 0)), .val (.int (oN t))] [(.ref a)]
    exact go_aret K H103 d27_16 rfl rfl rfl (by decide) (by decide) (⟨a, rfl, la, ha, BB, BXX, EE⟩)
set_option maxRecDepth 65536 in
set_option maxHeartbeats 40000000 in
theorem rmBL (Z : State) (a0 : Array Value) (hw : ∀ d ∈ tables_1, d.before a0 Z = true) (b : Addr) (h0 : Heap) (n0 : Nat) (Z0 : n0 ≤ h0.size) (ss : SSt Z) (X0 : Ext Z.heap h0) (v : Addr) (cd : Nat) (L js : List Nat) (B : Sb Z h0 b v cd L js) (lau : Launch) :
    Con lau Z (⟨"java/lang/AbstractStringBuilder", "isLatin1", "()Z"⟩ : MethodName) jdk_68_method_68_code 1 (some .boolean) ({ frames := 0, cells := 0, slots := 0, locals := 0 } : Room) #[(.ref b)] h0 n0 (RI fun z h => z = bI (cd = 0) ∧ h0 = h) := by
  refine con_intro pn28 (L := #[.val (.ref b)]) (fun m => by first | (simp [entryFrame, mkF, argsToLocals, Value.category, maxLocals]; done) | rfl) Z0 (fun w T K H => ?_)
  obtain ⟨cs, hcs, S1c⟩ := ss.1
  refine go_getstatic K H d28_0 (host := "") (Or.inl (hw _ (List.mem_of_getElem? (i := 65) rfl))) Via.refl (S1c.ext X0) fun T101 HT101 => ?_
  refine go_if_eq K HT101 d28_3 (fun cc => False.elim (by exact hcs cc)) (fun cc => ?_)
  refine go_aloadN K HT101 d28_6 rfl rfl ?_
  refine go_getfield K HT101 d28_7 (host := "") (Or.inl (hw _ (List.mem_of_getElem? (i := 68) rfl))) Via.refl (B.2.2.1) fun T102 HT102 => ?_
  refine go_if_ne K HT102 d28_10 (fun cc => ?_) (fun cc => ?_)
  · refine go_iconst (0) K HT102 d28_17 (by decide) ?_
    exact go_zret K HT102 d28_18 rfl (by decide) (by decide) (by decide) (⟨(bI_f (fun q => cc (by rw [q]; rfl))).symm, rfl⟩)
  · refine go_iconst (1) K HT102 d28_13 (by decide) ?_
    refine go_goto K HT102 d28_14 ?_
    exact go_zret K HT102 d28_18 rfl (by decide) (by decide) (by decide) (⟨(bI_t (by rcases B.2.2.2.2.2.2.2.1 with q | q; exact q; rw [q] at cc; exact absurd cc (by decide))).symm, rfl⟩)
set_option maxRecDepth 65536 in
set_option maxHeartbeats 40000000 in
theorem rmNC (Z : State) (a0 : Array Value) (hw : ∀ d ∈ tables_1, d.before a0 Z = true) (b : Addr) (h0 : Heap) (n0 : Nat) (Z0 : n0 ≤ h0.size) (ss : SSt Z) (X0 : Ext Z.heap h0) (v : Addr) (cd : Nat) (L js : List Nat) (B : Sb Z h0 b v cd L js) (min : Nat) (hm : (enc cd L ++ js).length < min * (cd + 1)) (m14 : min ≤ 14) (lau : Launch) :
    Con lau Z (⟨"java/lang/AbstractStringBuilder", "newCapacity", "(I)I"⟩ : MethodName) jdk_68_method_10_code 6 (some .int) ({ frames := 2, cells := 0, slots := 0, locals := 29 } : Room) #[(.ref b), (.int (oN min))] h0 n0 (RI fun z h => ∃ N, z = oN N ∧ min ≤ N ∧ N ≤ 30 ∧ h0 = h) := by
  refine con_intro pn29 (L := #[.val (.ref b), .val (.int (oN min)), .unset, .unset, .unset, .unset]) (fun m => by first | (simp [entryFrame, mkF, argsToLocals, Value.category, maxLocals]; done) | rfl) Z0 (fun w T K H => ?_)
  have bl := B.2.2.2.2.2.1.len; have cdd := B.2.2.2.2.2.2.2.1; have mb := B.2.2.2.2.2.2.2.2
  obtain ⟨m, em⟩ : ∃ m, m = (enc cd L ++ js).length := ⟨_, rfl⟩
  refine go_aloadN K H d29_0 rfl rfl ?_
  refine go_getfield K H d29_1 (host := "") (Or.inl (hw _ (List.mem_of_getElem? (i := 66) rfl))) Via.refl (B.2.1) fun T101 HT101 => ?_
  refine go_lenB K HT101 d29_4 (B.2.2.2.2.2.1) ?_
  rw [← em] at bl mb hm ⊢
  show Go _ _ _ 5 #[.val (.ref b), .val (.int (oN min)), .unset, .unset, .unset, .unset] [(.int (oN m))]
  refine go_istoreN K HT101 d29_5 (L' := #[.val (.ref b), .val (.int (oN min)), .val (.int (oN m)), .unset, .unset, .unset]) rfl ?_
  refine go_iloadN K HT101 d29_6 rfl ?_
  refine go_aloadN K HT101 d29_7 rfl rfl ?_
  refine go_getfield K HT101 d29_8 (host := "") (Or.inl (hw _ (List.mem_of_getElem? (i := 68) rfl))) Via.refl (B.2.2.1) fun T102 HT102 => ?_
  rcases cdd with rfl | rfl
  · refine go_ishl K HT102 d29_11 fun v103 ev103 => ?_
    obtain rfl : v103 = oN (min) := ev103.trans ((oN_shl (k := 0) (by decide) (by omega)).trans (congrArg oN (by omega)))
    refine go_istoreN K HT102 d29_12 (L' := #[.val (.ref b), .val (.int (oN min)), .val (.int (oN m)), .val (.int (oN (min))), .unset, .unset]) rfl ?_
    refine go_iloadN K HT102 d29_13 rfl ?_
    refine go_iloadN K HT102 d29_14 rfl ?_
    refine go_isub K HT102 d29_15 fun v104 ev104 => ?_
    obtain rfl : v104 = oN (min - m) := ev104.trans (oN_sub (by omega))
    refine go_istore K HT102 d29_16 (L' := #[.val (.ref b), .val (.int (oN min)), .val (.int (oN m)), .val (.int (oN (min))), .val (.int (oN (min - m))), .unset]) rfl ?_
    refine go_iloadN K HT102 d29_18 rfl ?_
    refine go_iload K HT102 d29_19 rfl ?_
    refine go_iloadN K HT102 d29_21 rfl ?_
    refine go_iconst (2) K HT102 d29_22 (by decide) ?_
    refine go_aloadN K HT102 d29_23 rfl rfl ?_
    refine go_getfield K HT102 d29_24 (host := "") (Or.inl (hw _ (List.mem_of_getElem? (i := 68) rfl))) Via.refl (B.2.2.1) fun T105 HT105 => ?_
    refine go_ishl K HT105 d29_27 fun v106 ev106 => ?_
    obtain rfl : v106 = oN (2) := ev106.trans ((oN_shl (a := 2) (k := 0) (by decide) (by omega)).trans (congrArg oN (by omega)))
    refine go_iadd K HT105 d29_28 fun v107 ev107 => ?_
    obtain rfl : v107 = oN (m + 2) := ev107.trans (oN_add _ _)
    refine go_callS [(.int (oN m)), (.int (oN (min - m))), (.int (oN (m + 2)))] K HT105 d29_29 (hw _ (List.mem_of_getElem? (i := 164) rfl)) (hw _ (List.mem_of_getElem? (i := 165) rfl)) (hw _ (List.mem_of_getElem? (i := 166) rfl)) (hw _ (List.mem_of_getElem? (i := 167) rfl)) (st' := []) (by decide) (rmNG Z a0 hw _ n0 (at_size K HT105) m (min - m) (m + 2) (by omega) (by omega) (by omega) (by omega)) pd10 rfl rfl rfl (by decide) (W := 0) rfl (by decide) (by decide) (by decide) fun T108 h108 v108 H108 q108 => ?_
    obtain ⟨z108, rfl, rfl, rfl⟩ := q108
    show Go _ _ _ 32 #[.val (.ref b), .val (.int (oN min)), .val (.int (oN m)), .val (.int (oN (min))), .val (.int (oN (min - m))), .unset] [(.int (oN (m + max (min - m) (m + 2))))]
    obtain ⟨t, et⟩ : ∃ t, t = m + max (min - m) (m + 2) := ⟨_, rfl⟩
    have ht : min ≤ t ∧ t ≤ 30 := by have q1 := Nat.le_max_left (min - m) (m + 2); have q2 := Nat.max_le.mpr ⟨(show min - m ≤ 1000 by omega), (show m + 2 ≤ 1000 by omega)⟩; rw [et]; constructor; exact Nat.le_trans (by omega) (Nat.add_le_add_left q1 m); (have q3 : max (min - m) (m + 2) ≤ 30 - m := Nat.max_le.mpr ⟨by omega, by omega⟩; omega)
    rw [← et]
    show Go _ _ _ 32 #[.val (.ref b), .val (.int (oN min)), .val (.int (oN m)), .val (.int (oN (min))), .val (.int (oN (min - m))), .unset] [(.int (oN t))]
    refine go_istore K H108 d29_32 (L' := #[.val (.ref b), .val (.int (oN min)), .val (.int (oN m)), .val (.int (oN (min))), .val (.int (oN (min - m))), .val (.int (oN t))]) rfl ?_
    refine go_iload K H108 d29_34 rfl ?_
    refine go_ldcI (2147483647) K H108 d29_36 (hw _ (List.mem_of_getElem? (i := 173) rfl)) ?_
    refine go_icmp_ne K H108 d29_38 (fun cc => ?_) (fun cc => False.elim (by (try simp (disch := omega) only [oN_toInt, Int32.lt_iff_toInt_lt, Int32.le_iff_toInt_le, ← Int32.toInt_inj, Int32.reduceToInt, ne_eq] at cc); omega))
    refine go_iload K H108 d29_51 rfl ?_
    refine go_aloadN K H108 d29_53 rfl rfl ?_
    refine go_getfield K H108 d29_54 (host := "") (Or.inl (hw _ (List.mem_of_getElem? (i := 68) rfl))) Via.refl (B.2.2.1) fun T109 HT109 => ?_
    refine go_ishr K HT109 d29_57 fun v110 ev110 => ?_
    obtain rfl : v110 = oN (t) := ev110.trans ((oN_shr (k := 0) (by omega) (by decide)).trans (congrArg oN (by omega)))
    exact go_iret K HT109 d29_58 rfl (by decide) (by decide) (⟨_, rfl, by omega, by omega, rfl⟩)
  · refine go_ishl K HT102 d29_11 fun v111 ev111 => ?_
    obtain rfl : v111 = oN (2 * min) := ev111.trans ((oN_shl (k := 1) (by decide) (by omega)).trans (congrArg oN (by omega)))
    refine go_istoreN K HT102 d29_12 (L' := #[.val (.ref b), .val (.int (oN min)), .val (.int (oN m)), .val (.int (oN (2 * min))), .unset, .unset]) rfl ?_
    refine go_iloadN K HT102 d29_13 rfl ?_
    refine go_iloadN K HT102 d29_14 rfl ?_
    refine go_isub K HT102 d29_15 fun v112 ev112 => ?_
    obtain rfl : v112 = oN (2 * min - m) := ev112.trans (oN_sub (by omega))
    refine go_istore K HT102 d29_16 (L' := #[.val (.ref b), .val (.int (oN min)), .val (.int (oN m)), .val (.int (oN (2 * min))), .val (.int (oN (2 * min - m))), .unset]) rfl ?_
    refine go_iloadN K HT102 d29_18 rfl ?_
    refine go_iload K HT102 d29_19 rfl ?_
    refine go_iloadN K HT102 d29_21 rfl ?_
    refine go_iconst (2) K HT102 d29_22 (by decide) ?_
    refine go_aloadN K HT102 d29_23 rfl rfl ?_
    refine go_getfield K HT102 d29_24 (host := "") (Or.inl (hw _ (List.mem_of_getElem? (i := 68) rfl))) Via.refl (B.2.2.1) fun T113 HT113 => ?_
    refine go_ishl K HT113 d29_27 fun v114 ev114 => ?_
    obtain rfl : v114 = oN (4) := ev114.trans ((oN_shl (a := 2) (k := 1) (by decide) (by omega)).trans (congrArg oN (by omega)))
    refine go_iadd K HT113 d29_28 fun v115 ev115 => ?_
    obtain rfl : v115 = oN (m + 4) := ev115.trans (oN_add _ _)
    refine go_callS [(.int (oN m)), (.int (oN (2 * min - m))), (.int (oN (m + 4)))] K HT113 d29_29 (hw _ (List.mem_of_getElem? (i := 164) rfl)) (hw _ (List.mem_of_getElem? (i := 165) rfl)) (hw _ (List.mem_of_getElem? (i := 166) rfl)) (hw _ (List.mem_of_getElem? (i := 167) rfl)) (st' := []) (by decide) (rmNG Z a0 hw _ n0 (at_size K HT113) m (2 * min - m) (m + 4) (by omega) (by omega) (by omega) (by omega)) pd10 rfl rfl rfl (by decide) (W := 0) rfl (by decide) (by decide) (by decide) fun T116 h116 v116 H116 q116 => ?_
    obtain ⟨z116, rfl, rfl, rfl⟩ := q116
    show Go _ _ _ 32 #[.val (.ref b), .val (.int (oN min)), .val (.int (oN m)), .val (.int (oN (2 * min))), .val (.int (oN (2 * min - m))), .unset] [(.int (oN (m + max (2 * min - m) (m + 4))))]
    obtain ⟨t, et⟩ : ∃ t, t = m + max (2 * min - m) (m + 4) := ⟨_, rfl⟩
    have ht : 2 * min ≤ t ∧ t ≤ 60 := by have q1 := Nat.le_max_left (2 * min - m) (m + 4); have q2 := Nat.max_le.mpr ⟨(show 2 * min - m ≤ 1000 by omega), (show m + 4 ≤ 1000 by omega)⟩; rw [et]; constructor; exact Nat.le_trans (by omega) (Nat.add_le_add_left q1 m); (have q3 : max (2 * min - m) (m + 4) ≤ 60 - m := Nat.max_le.mpr ⟨by omega, by omega⟩; omega)
    rw [← et]
    show Go _ _ _ 32 #[.val (.ref b), .val (.int (oN min)), .val (.int (oN m)), .val (.int (oN (2 * min))), .val (.int (oN (2 * min - m))), .unset] [(.int (oN t))]
    refine go_istore K H116 d29_32 (L' := #[.val (.ref b), .val (.int (oN min)), .val (.int (oN m)), .val (.int (oN (2 * min))), .val (.int (oN (2 * min - m))), .val (.int (oN t))]) rfl ?_
    refine go_iload K H116 d29_34 rfl ?_
    refine go_ldcI (2147483647) K H116 d29_36 (hw _ (List.mem_of_getElem? (i := 173) rfl)) ?_
    refine go_icmp_ne K H116 d29_38 (fun cc => ?_) (fun cc => False.elim (by (try simp (disch := omega) only [oN_toInt, Int32.lt_iff_toInt_lt, Int32.le_iff_toInt_le, ← Int32.toInt_inj, Int32.reduceToInt, ne_eq] at cc); omega))
    refine go_iload K H116 d29_51 rfl ?_
    refine go_aloadN K H116 d29_53 rfl rfl ?_
    refine go_getfield K H116 d29_54 (host := "") (Or.inl (hw _ (List.mem_of_getElem? (i := 68) rfl))) Via.refl (B.2.2.1) fun T117 HT117 => ?_
    refine go_ishr K HT117 d29_57 fun v118 ev118 => ?_
    obtain rfl : v118 = oN (t / 2) := ev118.trans ((oN_shr (k := 1) (by omega) (by decide)).trans (congrArg oN (by omega)))
    exact go_iret K HT117 d29_58 rfl (by decide) (by decide) (⟨_, rfl, by omega, by omega, rfl⟩)
set_option maxRecDepth 65536 in
set_option maxHeartbeats 40000000 in
theorem rmEC (Z : State) (a0 : Array Value) (hw : ∀ d ∈ tables_1, d.before a0 Z = true) (b : Addr) (h0 : Heap) (n0 : Nat) (Z0 : n0 ≤ h0.size) (ss : SSt Z) (X0 : Ext Z.heap h0) (g0 : n0 ≤ b)  (v : Addr) (cd : Nat) (L js : List Nat) (B : Sb Z h0 b v cd L js) (gv : n0 ≤ v) (min : Nat) (m14 : min ≤ 14) (lau : Launch) :
    Con lau Z (⟨"java/lang/AbstractStringBuilder", "ensureCapacityInternal", "(I)V"⟩ : MethodName) jdk_68_method_9_code 3 none ({ frames := 3, cells := 1, slots := 64, locals := 48 } : Room) #[(.ref b), (.int (oN min))] h0 n0 (RV fun h => ∃ v' js', n0 ≤ v' ∧ (v' = v ∨ h0.size ≤ v') ∧ Sb Z h b v' cd L js' ∧ min * (cd + 1) ≤ (enc cd L ++ js').length ∧ Keep h0 h [b]) := by
  refine con_intro pn30 (L := #[.val (.ref b), .val (.int (oN min)), .unset]) (fun m => by first | (simp [entryFrame, mkF, argsToLocals, Value.category, maxLocals]; done) | rfl) Z0 (fun w T K H => ?_)
  have bl := B.2.2.2.2.2.1.len; have cdd := B.2.2.2.2.2.2.2.1; have mb := B.2.2.2.2.2.2.2.2; have nbv := B.ne
  refine go_aloadN K H d30_0 rfl rfl ?_
  refine go_getfield K H d30_1 (host := "") (Or.inl (hw _ (List.mem_of_getElem? (i := 66) rfl))) Via.refl (B.2.1) fun T101 HT101 => ?_
  refine go_lenB K HT101 d30_4 (B.2.2.2.2.2.1) ?_
  refine go_aloadN K HT101 d30_5 rfl rfl ?_
  refine go_getfield K HT101 d30_6 (host := "") (Or.inl (hw _ (List.mem_of_getElem? (i := 68) rfl))) Via.refl (B.2.2.1) fun T102 HT102 => ?_
  refine go_ishr K HT102 d30_9 fun v103 ev103 => ?_
  obtain ⟨cp, hc1, hc2, ecp⟩ : ∃ cp, cp * (cd + 1) ≤ (enc cd L ++ js).length ∧ (enc cd L ++ js).length < (cp + 1) * (cd + 1) ∧ v103 = oN cp := by
    refine ⟨(enc cd L ++ js).length / 2 ^ cd, ?_, ?_, ev103.trans (oN_shr bl (by rcases cdd with q | q <;> omega))⟩ <;> (rcases cdd with rfl | rfl <;> (simp only [Nat.pow_zero, Nat.pow_one] <;> omega))
  have cp1 : cp ≤ (enc cd L ++ js).length := Nat.le_trans (Nat.le_mul_of_pos_right cp (Nat.succ_pos cd)) hc1
  have cpb : (enc cd L ++ js).length ≤ 60 := by rcases cdd with rfl | rfl <;> omega
  obtain rfl := ecp
  show Go _ _ _ 10 #[.val (.ref b), .val (.int (oN min)), .unset] [(.int (oN cp))]
  refine go_istoreN K HT102 d30_10 (L' := #[.val (.ref b), .val (.int (oN min)), .val (.int (oN cp))]) rfl ?_
  refine go_iloadN K HT102 d30_11 rfl ?_
  refine go_iloadN K HT102 d30_12 rfl ?_
  refine go_isub K HT102 d30_13 fun v104 ev104 => ?_
  have fv := f_isub ev104; have rv := rng32 v104; rw [oN_toInt (by omega), oN_toInt (by omega)] at fv
  refine go_if_le K HT102 d30_14 (fun cc => ?_) (fun cc => ?_)
  · have hle : min ≤ cp := by (try simp (disch := omega) only [oN_toInt, Int32.lt_iff_toInt_lt, Int32.le_iff_toInt_le, ← Int32.toInt_inj, Int32.reduceToInt, ne_eq] at cc); omega
    exact go_ret K HT102 d30_38 rfl (by decide) (by decide) (⟨v, js, gv, Or.inl rfl, B, Nat.le_trans (Nat.mul_le_mul_right _ hle) hc1, Keep.refl _ _⟩)
  · have hlt : cp < min := by (try simp (disch := omega) only [oN_toInt, Int32.lt_iff_toInt_lt, Int32.le_iff_toInt_le, ← Int32.toInt_inj, Int32.reduceToInt, ne_eq] at cc); omega
    have hlm : (enc cd L ++ js).length < min * (cd + 1) := Nat.lt_of_lt_of_le hc2 (Nat.mul_le_mul_right _ hlt)
    refine go_aloadN K HT102 d30_17 rfl rfl ?_
    refine go_aloadN K HT102 d30_18 rfl rfl ?_
    refine go_getfield K HT102 d30_19 (host := "") (Or.inl (hw _ (List.mem_of_getElem? (i := 66) rfl))) Via.refl (B.2.1) fun T105 HT105 => ?_
    refine go_aloadN K HT105 d30_22 rfl rfl ?_
    refine go_iloadN K HT105 d30_23 rfl ?_
    refine go_callV [(.int (oN min))] K HT105 d30_24 (B.1) (hw _ (List.mem_of_getElem? (i := 159) rfl)) (dec_of (hw _ (List.mem_of_getElem? (i := 163) rfl)) (hw _ (List.mem_of_getElem? (i := 160) rfl))) (nf_sel (hw _ (List.mem_of_getElem? (i := 162) rfl))) (hw _ (List.mem_of_getElem? (i := 162) rfl)) (hw _ (List.mem_of_getElem? (i := 160) rfl)) (hw _ (List.mem_of_getElem? (i := 62) rfl)) (hw _ (List.mem_of_getElem? (i := 163) rfl)) (st' := [(.ref v), (.ref b)]) (by decide) (rmNC Z a0 hw _ _ n0 (at_size K HT105) ss X0 v cd L js B min hlm m14) pd8 rfl rfl rfl (by decide) (W := 2) rfl (by decide) (by decide) (by decide) fun T106 h106 v106 H106 q106 => ?_
    obtain ⟨z106, rfl, ⟨N, e1, hN1, hN2, rfl⟩⟩ := q106
    show Go _ _ _ 27 #[.val (.ref b), .val (.int (oN min)), .val (.int (oN cp))] [(.int z106), (.ref v), (.ref b)]
    obtain rfl := e1
    show Go _ _ _ 27 #[.val (.ref b), .val (.int (oN min)), .val (.int (oN cp))] [(.int (oN N)), (.ref v), (.ref b)]
    refine go_aloadN K H106 d30_27 rfl rfl ?_
    refine go_getfield K H106 d30_28 (host := "") (Or.inl (hw _ (List.mem_of_getElem? (i := 68) rfl))) Via.refl (B.2.2.1) fun T107 HT107 => ?_
    refine go_ishl K HT107 d30_31 fun v108 ev108 => ?_
    obtain rfl : v108 = oN (N * (cd + 1)) := ev108.trans ((oN_shl (a := N) (k := cd) (by rcases cdd with q | q <;> omega) (by rcases cdd with rfl | rfl <;> (simp only [Nat.pow_zero, Nat.pow_one] <;> omega))).trans (congrArg oN (by rcases cdd with rfl | rfl <;> (simp only [Nat.pow_zero, Nat.pow_one] <;> omega))))
    have hMl : (enc cd L ++ js).length < N * (cd + 1) := Nat.lt_of_lt_of_le hlm (Nat.mul_le_mul_right _ hN1)
    have hM64 : N * (cd + 1) ≤ 60 ∧ N * (cd + 1) ≤ 30 * (cd + 1) := by rcases cdd with rfl | rfl <;> omega
    refine go_callS [(.ref v), (.int (oN (N * (cd + 1))))] K HT107 d30_32 (hw _ (List.mem_of_getElem? (i := 174) rfl)) (hw _ (List.mem_of_getElem? (i := 175) rfl)) (hw _ (List.mem_of_getElem? (i := 176) rfl)) (hw _ (List.mem_of_getElem? (i := 177) rfl)) (st' := [(.ref b)]) (by decide) (rmCO Z a0 hw _ _ n0 (at_size K HT107) _ (B.2.2.2.2.2.1) (N * (cd + 1)) hMl (by omega)) pd15 rfl rfl rfl (by decide) (W := 1) rfl (by decide) (by decide) (by decide) fun T109 h109 v109 H109 q109 => ?_
    obtain ⟨z109, rfl, hz109, v', rfl, l1, s1, B1, BX1, E1⟩ := q109
    show Go _ _ _ 35 #[.val (.ref b), .val (.int (oN min)), .val (.int (oN cp))] [(.ref v'), (.ref b)]
    obtain ⟨a1, a2, a3, a4, a5, a6, a7, a8, a9⟩ := B
    have nbv' : b ≠ v' := ne_lt a1.lt s1
    replace a1 := a1.ext E1; replace a2 := a2.ext E1; replace a3 := a3.ext E1; replace a4 := a4.ext E1; replace a5 := a5.ext E1
    refine go_putfield K H109 d30_35 (host := "") (Or.inl (hw _ (List.mem_of_getElem? (i := 66) rfl))) Via.refl (a2) (a1) (Or.inl (hw _ (List.mem_of_getElem? (i := 67) rfl))) (hw _ (List.mem_of_getElem? (i := 43) rfl)) (ty := (.array .byte)) (by decide) rfl rfl (g0) fun T110 h110 H110 W110 => ?_
    replace a2 := a2.same W110
    replace a3 := a3.other W110 (Or.inr (slot_ne (Z := Z) (a0 := a0) (Or.inl (hw _ (List.mem_of_getElem? (i := 69) rfl))) (Or.inl (hw _ (List.mem_of_getElem? (i := 67) rfl))) (by decide) (t := .byte) (by decide) (t' := (.array .byte)) (by decide)))
    replace a4 := a4.other W110 (Or.inr (slot_ne (Z := Z) (a0 := a0) (Or.inl (hw _ (List.mem_of_getElem? (i := 81) rfl))) (Or.inl (hw _ (List.mem_of_getElem? (i := 67) rfl))) (by decide) (t := .int) (by decide) (t' := (.array .byte)) (by decide)))
    replace a5 := a5.other W110 (Or.inr (slot_ne (Z := Z) (a0 := a0) (Or.inl (hw _ (List.mem_of_getElem? (i := 296) rfl))) (Or.inl (hw _ (List.mem_of_getElem? (i := 67) rfl))) (by decide) (t := .boolean) (by decide) (t' := (.array .byte)) (by decide)))
    rw [List.append_assoc] at B1
    have el : (enc cd L ++ (js ++ List.replicate (N * (cd + 1) - (enc cd L ++ js).length) 0)).length = N * (cd + 1) := by rw [← List.append_assoc, List.length_append, List.length_replicate]; omega
    exact go_ret K H110 d30_38 rfl (by decide) (by decide) (⟨v', _, l1, Or.inr s1, ⟨a1.wr W110, a2, a3, a4, a5, B1.other W110 nbv'.symm, BX1.wr W110, a8, by rw [el]; exact hM64.2⟩, by rw [el]; exact Nat.mul_le_mul_right _ hN1, (E1.keep [b]).wr W110 (Or.inl (List.mem_singleton.mpr rfl))⟩)
set_option maxRecDepth 65536 in
set_option maxHeartbeats 40000000 in
theorem rmBI (Z : State) (a0 : Array Value) (hw : ∀ d ∈ tables_1, d.before a0 Z = true) (b : Addr) (h0 : Heap) (n0 : Nat) (Z0 : n0 ≤ h0.size) (ss : SSt Z) (X0 : Ext Z.heap h0) (hz : Z.heap.size ≤ n0) (g0 : n0 ≤ b) (v : Addr) (cd : Nat) (L js : List Nat) (B : Sb Z h0 b v cd L js) (gv : n0 ≤ v) (lau : Launch) :
    Con lau Z (⟨"java/lang/AbstractStringBuilder", "inflate", "()V"⟩ : MethodName) jdk_68_method_11_code 2 none ({ frames := 5, cells := 1, slots := 64, locals := 76 } : Room) #[(.ref b)] h0 n0 (RV fun h => ∃ v' js', n0 ≤ v' ∧ (v' = v ∨ h0.size ≤ v') ∧ Sb Z h b v' 1 L js' ∧ 2 * (enc cd L ++ js).length ≤ (cd + 1) * (enc 1 L ++ js').length ∧ Keep h0 h [b]) := by
  refine con_intro pn31 (L := #[.val (.ref b), .unset]) (fun m => by first | (simp [entryFrame, mkF, argsToLocals, Value.category, maxLocals]; done) | rfl) Z0 (fun w T K H => ?_)
  have bl := B.2.2.2.2.2.1.len; have mb := B.2.2.2.2.2.2.2.2; have nbv := B.ne
  refine go_aloadN K H d31_0 rfl rfl ?_
  refine go_callV [] K H d31_1 (B.1) (hw _ (List.mem_of_getElem? (i := 87) rfl)) (hw _ (List.mem_of_getElem? (i := 88) rfl)) (nf_sel (hw _ (List.mem_of_getElem? (i := 90) rfl))) (hw _ (List.mem_of_getElem? (i := 90) rfl)) (hw _ (List.mem_of_getElem? (i := 89) rfl)) (hw _ (List.mem_of_getElem? (i := 62) rfl)) (hw _ (List.mem_of_getElem? (i := 91) rfl)) (st' := []) (by decide) (rmBL Z a0 hw _ _ n0 (at_size K H) ss X0 v cd L js B) pd6 rfl rfl rfl (by decide) (W := 0) rfl (by decide) (by decide) (by decide) fun T101 h101 v101 H101 q101 => ?_
  obtain ⟨z101, rfl, rfl, rfl⟩ := q101
  show Go _ _ _ 4 #[.val (.ref b), .unset] [(.int (bI (cd = 0)))]
  refine go_if_ne K H101 d31_4 (fun cc => ?_) (fun cc => ?_)
  · obtain rfl : cd = 0 := bI_ne0.mp cc
    have m30 : (enc 0 L ++ js).length ≤ 30 := by omega
    refine go_aloadN K H101 d31_8 rfl rfl ?_
    refine go_getfield K H101 d31_9 (host := "") (Or.inl (hw _ (List.mem_of_getElem? (i := 66) rfl))) Via.refl (B.2.1) fun T102 HT102 => ?_
    refine go_lenB K HT102 d31_12 (B.2.2.2.2.2.1) ?_
    refine go_callS [(.int (oN (enc 0 L ++ js).length))] K HT102 d31_13 (hw _ (List.mem_of_getElem? (i := 270) rfl)) (hw _ (List.mem_of_getElem? (i := 271) rfl)) (hw _ (List.mem_of_getElem? (i := 18) rfl)) (hw _ (List.mem_of_getElem? (i := 272) rfl)) (st' := []) (by decide) (rmNB Z a0 hw _ n0 (at_size K HT102) _ m30) pd16 rfl rfl rfl (by decide) (W := 0) rfl (by decide) (by decide) (by decide) fun T103 h103 v103 H103 q103 => ?_
    obtain ⟨z103, rfl, hz103, v', rfl, l1, s1, B1, BX1, E1⟩ := q103
    show Go _ _ _ 16 #[.val (.ref b), .unset] [(.ref v')]
    obtain ⟨a1, a2, a3, a4, a5, a6, a7, a8, a9⟩ := B
    have nbv' : b ≠ v' := ne_lt a1.lt s1; have nvv' : v ≠ v' := ne_lt a6.lt s1
    replace a1 := a1.ext E1; replace a2 := a2.ext E1; replace a3 := a3.ext E1; replace a4 := a4.ext E1; replace a5 := a5.ext E1; replace a6 := a6.ext E1; have X1 := ext_trans X0 E1
    refine go_astoreN K H103 d31_16 rfl (L' := #[.val (.ref b), .val (.ref v')]) rfl ?_
    refine go_aloadN K H103 d31_17 rfl rfl ?_
    refine go_getfield K H103 d31_18 (host := "") (Or.inl (hw _ (List.mem_of_getElem? (i := 66) rfl))) Via.refl (a2) fun T104 HT104 => ?_
    refine go_iconst (0) K HT104 d31_21 (by decide) ?_
    refine go_aloadN K HT104 d31_22 rfl rfl ?_
    refine go_iconst (0) K HT104 d31_23 (by decide) ?_
    refine go_aloadN K HT104 d31_24 rfl rfl ?_
    refine go_getfield K HT104 d31_25 (host := "") (Or.inl (hw _ (List.mem_of_getElem? (i := 80) rfl))) Via.refl (a4) fun T105 HT105 => ?_
    refine go_callS [(.ref v), (.int 0), (.ref v'), (.int 0), (.int (oN L.length))] K HT105 d31_28 (hw _ (List.mem_of_getElem? (i := 277) rfl)) (hw _ (List.mem_of_getElem? (i := 278) rfl)) (hw _ (List.mem_of_getElem? (i := 94) rfl)) (hw _ (List.mem_of_getElem? (i := 279) rfl)) (st' := []) (by decide) (rmLI Z a0 hw _ _ _ n0 (at_size K HT105) ss X1 hz l1 nvv' js L [] (List.replicate (2 * (enc 0 L ++ js).length) 0) a6 B1 0 rfl (by rw [List.length_replicate, List.length_append, enc0]; omega)) pd12 rfl rfl rfl (by decide) (W := 0) rfl (by decide) (by decide) (by decide) fun T106 h106 v106 H106 q106 => ?_
    obtain ⟨rfl, B2, K2⟩ := q106
    show Go _ _ _ 31 #[.val (.ref b), .val (.ref v')] []
    rw [List.nil_append] at B2
    replace a1 := a1.keep K2; replace a2 := a2.keep K2 (ninS nbv' nin0); replace a3 := a3.keep K2 (ninS nbv' nin0); replace a4 := a4.keep K2 (ninS nbv' nin0); replace a5 := a5.keep K2 (ninS nbv' nin0); replace BX1 := BX1.keep K2
    refine go_aloadN K H106 d31_31 rfl rfl ?_
    refine go_aloadN K H106 d31_32 rfl rfl ?_
    refine go_putfield K H106 d31_33 (host := "") (Or.inl (hw _ (List.mem_of_getElem? (i := 66) rfl))) Via.refl (a2) (a1) (Or.inl (hw _ (List.mem_of_getElem? (i := 67) rfl))) (hw _ (List.mem_of_getElem? (i := 43) rfl)) (ty := (.array .byte)) (by decide) rfl rfl (g0) fun T107 h107 H107 W107 => ?_
    replace a2 := a2.same W107
    replace a3 := a3.other W107 (Or.inr (slot_ne (Z := Z) (a0 := a0) (Or.inl (hw _ (List.mem_of_getElem? (i := 69) rfl))) (Or.inl (hw _ (List.mem_of_getElem? (i := 67) rfl))) (by decide) (t := .byte) (by decide) (t' := (.array .byte)) (by decide)))
    replace a4 := a4.other W107 (Or.inr (slot_ne (Z := Z) (a0 := a0) (Or.inl (hw _ (List.mem_of_getElem? (i := 81) rfl))) (Or.inl (hw _ (List.mem_of_getElem? (i := 67) rfl))) (by decide) (t := .int) (by decide) (t' := (.array .byte)) (by decide)))
    replace a5 := a5.other W107 (Or.inr (slot_ne (Z := Z) (a0 := a0) (Or.inl (hw _ (List.mem_of_getElem? (i := 296) rfl))) (Or.inl (hw _ (List.mem_of_getElem? (i := 67) rfl))) (by decide) (t := .boolean) (by decide) (t' := (.array .byte)) (by decide)))
    replace a1 := a1.wr W107; replace B2 := B2.other W107 nbv'.symm; replace BX1 := BX1.wr W107
    refine go_aloadN K H107 d31_36 rfl rfl ?_
    refine go_iconst (1) K H107 d31_37 (by decide) ?_
    refine go_putfieldN K H107 d31_38 (hw _ (List.mem_of_getElem? (i := 68) rfl)) Via.refl (a3) (a1) (Or.inl (hw _ (List.mem_of_getElem? (i := 69) rfl))) (hw _ (List.mem_of_getElem? (i := 43) rfl)) (ty := .byte) (by decide) (v' := (.int (oN 1))) (rfl) (rfl) (g0) fun T108 h108 H108 W108 => ?_
    replace a2 := a2.other W108 (Or.inr (slot_ne (Z := Z) (a0 := a0) (Or.inl (hw _ (List.mem_of_getElem? (i := 67) rfl))) (Or.inl (hw _ (List.mem_of_getElem? (i := 69) rfl))) (by decide) (t := (.array .byte)) (by decide) (t' := .byte) (by decide)))
    replace a3 := a3.same W108
    replace a4 := a4.other W108 (Or.inr (slot_ne (Z := Z) (a0 := a0) (Or.inl (hw _ (List.mem_of_getElem? (i := 81) rfl))) (Or.inl (hw _ (List.mem_of_getElem? (i := 69) rfl))) (by decide) (t := .int) (by decide) (t' := .byte) (by decide)))
    replace a5 := a5.other W108 (Or.inr (slot_ne (Z := Z) (a0 := a0) (Or.inl (hw _ (List.mem_of_getElem? (i := 296) rfl))) (Or.inl (hw _ (List.mem_of_getElem? (i := 69) rfl))) (by decide) (t := .boolean) (by decide) (t' := .byte) (by decide)))
    have el : (enc 1 L ++ (List.replicate (2 * (enc 0 L ++ js).length) 0).drop (2 * L.length)).length = 2 * (enc 0 L ++ js).length := by rw [List.length_append, enc1_len, List.length_drop, List.length_replicate, List.length_append, enc0]; omega
    exact go_ret K H108 d31_41 rfl (by decide) (by decide) (⟨v', _, l1, Or.inr s1, ⟨a1.wr W108, a2, a3, a4, a5, B2.other W108 nbv'.symm, BX1.wr W108, Or.inr rfl, by rw [el]; omega⟩, by rw [el]; omega, (((E1.keep [b]).trans K2 (inS (Or.inr s1) in0)).wr W107 (Or.inl (List.mem_singleton.mpr rfl))).wr W108 (Or.inl (List.mem_singleton.mpr rfl))⟩)
  · obtain rfl : cd = 1 := (B.2.2.2.2.2.2.2.1).resolve_left (by first | exact bI_eq0.mp cc | exact bI_eq0.mp (Decidable.not_not.mp cc))
    exact go_ret K H101 d31_7 rfl (by decide) (by decide) (⟨v, js, gv, Or.inl rfl, B, by omega, Keep.refl _ _⟩)
set_option maxRecDepth 65536 in
set_option maxHeartbeats 40000000 in
theorem rmAC (Z : State) (a0 : Array Value) (hw : ∀ d ∈ tables_1, d.before a0 Z = true) (b : Addr) (h0 : Heap) (n0 : Nat) (Z0 : n0 ≤ h0.size) (ss : SSt Z) (X0 : Ext Z.heap h0) (hz : Z.heap.size ≤ n0) (g0 : n0 ≤ b) (v : Addr) (cd : Nat) (L js : List Nat) (B : Sb Z h0 b v cd L js) (gv : n0 ≤ v) (c : Nat) (c6 : c < 65536) (l14 : L.length + 1 ≤ 14) (lau : Launch) :
    Con lau Z (⟨"java/lang/AbstractStringBuilder", "append", "(C)Ljava/lang/AbstractStringBuilder;"⟩ : MethodName) jdk_68_method_31_code 2 (some (.object "java/lang/AbstractStringBuilder")) ({ frames := 6, cells := 2, slots := 128, locals := 89 } : Room) #[(.ref b), (.int (oN c))] h0 n0 (RR fun z h => z = .ref b ∧ ∃ v' cd' js', n0 ≤ v' ∧ (v' = v ∨ h0.size ≤ v') ∧ Sb Z h b v' cd' (L ++ [c]) js' ∧ Keep h0 h [b, v]) := by
  refine con_intro pn32 (L := #[.val (.ref b), .val (.int (oN c))]) (fun m => by first | (simp [entryFrame, mkF, argsToLocals, Value.category, maxLocals]; done) | rfl) Z0 (fun w T K H => ?_)
  have cdd := B.2.2.2.2.2.2.2.1
  refine go_aloadN K H d32_0 rfl rfl ?_
  refine go_aloadN K H d32_1 rfl rfl ?_
  refine go_getfield K H d32_2 (host := "") (Or.inl (hw _ (List.mem_of_getElem? (i := 80) rfl))) Via.refl (B.2.2.2.1) fun T101 HT101 => ?_
  refine go_iconst (1) K HT101 d32_5 (by decide) ?_
  refine go_iadd K HT101 d32_6 fun v102 ev102 => ?_
  obtain rfl : v102 = oN (L.length + 1) := ev102.trans (oN_add _ 1)
  refine go_callV [(.int (oN (L.length + 1)))] K HT101 d32_7 (B.1) (hw _ (List.mem_of_getElem? (i := 82) rfl)) (dec_of (hw _ (List.mem_of_getElem? (i := 86) rfl)) (hw _ (List.mem_of_getElem? (i := 83) rfl))) (nf_sel (hw _ (List.mem_of_getElem? (i := 85) rfl))) (hw _ (List.mem_of_getElem? (i := 85) rfl)) (hw _ (List.mem_of_getElem? (i := 83) rfl)) (hw _ (List.mem_of_getElem? (i := 62) rfl)) (hw _ (List.mem_of_getElem? (i := 86) rfl)) (st' := []) (by decide) (rmEC Z a0 hw _ _ n0 (at_size K HT101) ss X0 g0 v cd L js B gv (L.length + 1) l14) pd17 rfl rfl rfl (by decide) (W := 0) rfl (by decide) (by decide) (by decide) fun T103 h103 v103 H103 q103 => ?_
  obtain ⟨rfl, v1, j1, g1, f1, B1, r1, K1⟩ := q103
  show Go _ _ _ 10 #[.val (.ref b), .val (.int (oN c))] []
  have X1 := ext_keep X0 K1 (allS (Nat.le_trans hz g0) all0); have m1 := B1.2.2.2.2.2.2.2.2
  have le1 := lenA cdd L j1
  refine go_aloadN K H103 d32_10 rfl rfl ?_
  refine go_callV [] K H103 d32_11 (B1.1) (hw _ (List.mem_of_getElem? (i := 87) rfl)) (hw _ (List.mem_of_getElem? (i := 88) rfl)) (nf_sel (hw _ (List.mem_of_getElem? (i := 90) rfl))) (hw _ (List.mem_of_getElem? (i := 90) rfl)) (hw _ (List.mem_of_getElem? (i := 89) rfl)) (hw _ (List.mem_of_getElem? (i := 62) rfl)) (hw _ (List.mem_of_getElem? (i := 91) rfl)) (st' := []) (by decide) (rmBL Z a0 hw _ _ n0 (at_size K H103) ss X1 v1 cd L j1 B1) pd6 rfl rfl rfl (by decide) (W := 0) rfl (by decide) (by decide) (by decide) fun T104 h104 v104 H104 q104 => ?_
  obtain ⟨z104, rfl, rfl, rfl⟩ := q104
  show Go _ _ _ 14 #[.val (.ref b), .val (.int (oN c))] [(.int (bI (cd = 0)))]
  have J56 : ∀ T h v2 j2, At1 w T h 2 128 → Sb Z h b v2 1 L j2 → n0 ≤ v2 → (v2 = v ∨ h0.size ≤ v2) → 2 * (L.length + 1) ≤ (enc 1 L ++ j2).length → Keep h0 h [b] → Ext Z.heap h → Go w (Fn w (RR fun z h => z = .ref b ∧ ∃ v' cd' js', n0 ≤ v' ∧ (v' = v ∨ h0.size ≤ v') ∧ Sb Z h b v' cd' (L ++ [c]) js' ∧ Keep h0 h [b, v])) T 56 #[.val (.ref b), .val (.int (oN c))] [] := by
    intro T h v2 j2 H B2 g2 f2 r2 KK XX
    have m2 := B2.2.2.2.2.2.2.2.2; have le2 := lenA (Or.inr rfl) L j2; have nbv := B2.ne
    obtain ⟨a1, a2, a3, a4, a5, a6, a7, a8, a9⟩ := B2
    refine go_aloadN K H d32_56 rfl rfl ?_
    refine go_getfield K H d32_57 (host := "") (Or.inl (hw _ (List.mem_of_getElem? (i := 66) rfl))) Via.refl (a2) fun T105 HT105 => ?_
    refine go_aloadN K HT105 d32_60 rfl rfl ?_
    refine go_dup K HT105 d32_61 rfl ?_
    refine go_getfield K HT105 d32_62 (host := "") (Or.inl (hw _ (List.mem_of_getElem? (i := 80) rfl))) Via.refl (a4) fun T106 HT106 => ?_
    refine go_dupX1 K HT106 d32_65 rfl rfl ?_
    refine go_iconst (1) K HT106 d32_66 (by decide) ?_
    refine go_iadd K HT106 d32_67 fun v107 ev107 => ?_
    obtain rfl : v107 = oN (L.length + 1) := ev107.trans (oN_add _ 1)
    refine go_putfield K HT106 d32_68 (host := "") (Or.inl (hw _ (List.mem_of_getElem? (i := 80) rfl))) Via.refl (a4) (a1) (Or.inl (hw _ (List.mem_of_getElem? (i := 81) rfl))) (hw _ (List.mem_of_getElem? (i := 43) rfl)) (ty := .int) (by decide) rfl rfl (g0) fun T108 h108 H108 W108 => ?_
    replace a2 := a2.other W108 (Or.inr (slot_ne (Z := Z) (a0 := a0) (Or.inl (hw _ (List.mem_of_getElem? (i := 67) rfl))) (Or.inl (hw _ (List.mem_of_getElem? (i := 81) rfl))) (by decide) (t := (.array .byte)) (by decide) (t' := .int) (by decide)))
    replace a3 := a3.other W108 (Or.inr (slot_ne (Z := Z) (a0 := a0) (Or.inl (hw _ (List.mem_of_getElem? (i := 69) rfl))) (Or.inl (hw _ (List.mem_of_getElem? (i := 81) rfl))) (by decide) (t := .byte) (by decide) (t' := .int) (by decide)))
    replace a4 := a4.same W108
    replace a5 := a5.other W108 (Or.inr (slot_ne (Z := Z) (a0 := a0) (Or.inl (hw _ (List.mem_of_getElem? (i := 296) rfl))) (Or.inl (hw _ (List.mem_of_getElem? (i := 81) rfl))) (by decide) (t := .boolean) (by decide) (t' := .int) (by decide)))
    replace a1 := a1.wr W108; replace a6 := a6.other W108 nbv.symm; replace a7 := a7.wr W108; replace XX := ext_wr XX W108 (Nat.le_trans hz g0); replace KK : Keep h0 h108 [b] := KK.wr W108 (Or.inl (List.mem_singleton.mpr rfl))
    refine go_iloadN K H108 d32_71 rfl ?_
    refine go_callS [(.ref v2), (.int (oN L.length)), (.int (oN c))] K H108 d32_72 (hw _ (List.mem_of_getElem? (i := 292) rfl)) (hw _ (List.mem_of_getElem? (i := 293) rfl)) (hw _ (List.mem_of_getElem? (i := 18) rfl)) (hw _ (List.mem_of_getElem? (i := 294) rfl)) (st' := []) (by decide) (rmPS Z a0 hw _ _ n0 (at_size K H108) ss XX hz g2 _ a6 L.length c (by omega) c6) pd7 rfl rfl rfl (by decide) (W := 0) rfl (by decide) (by decide) (by decide) fun T109 h109 v109 H109 q109 => ?_
    obtain ⟨rfl, a6', K2⟩ := q109
    show Go _ _ _ 75 #[.val (.ref b), .val (.int (oN c))] []
    rw [wide_set c6 (by omega)] at a6'
    refine go_aloadN K H109 d32_75 rfl rfl ?_
    exact go_aret K H109 d32_76 rfl rfl rfl (by decide) (by decide) (⟨rfl, v2, 1, _, g2, f2, ⟨a1.keep K2, a2.keep K2 (ninS nbv nin0), a3.keep K2 (ninS nbv nin0), (by rw [List.length_append]; exact a4.keep K2 (ninS nbv nin0)), a5.keep K2 (ninS nbv nin0), a6', a7.keep K2, Or.inr rfl, by rw [lenA (Or.inr rfl), List.length_append, List.length_drop]; simp only [List.length_cons, List.length_nil]; omega⟩, (keep_more KK (fun x q => List.mem_cons.mpr (Or.inl (List.mem_singleton.mp q)))).trans K2 (inS (by rcases f2 with q | q; exact Or.inl (by rw [q]; simp); exact Or.inr q) in0)⟩)
  refine go_if_eq K H104 d32_14 (fun cc => ?_) (fun cc => ?_)
  · refine go_aloadN K H104 d32_45 rfl rfl ?_
    refine go_callV [] K H104 d32_46 (B1.1) (hw _ (List.mem_of_getElem? (i := 87) rfl)) (hw _ (List.mem_of_getElem? (i := 88) rfl)) (nf_sel (hw _ (List.mem_of_getElem? (i := 90) rfl))) (hw _ (List.mem_of_getElem? (i := 90) rfl)) (hw _ (List.mem_of_getElem? (i := 89) rfl)) (hw _ (List.mem_of_getElem? (i := 62) rfl)) (hw _ (List.mem_of_getElem? (i := 91) rfl)) (st' := []) (by decide) (rmBL Z a0 hw _ _ n0 (at_size K H104) ss X1 v1 cd L j1 B1) pd6 rfl rfl rfl (by decide) (W := 0) rfl (by decide) (by decide) (by decide) fun T110 h110 v110 H110 q110 => ?_
    obtain ⟨z110, rfl, rfl, rfl⟩ := q110
    show Go _ _ _ 49 #[.val (.ref b), .val (.int (oN c))] [(.int (bI (cd = 0)))]
    refine go_if_eq K H110 d32_49 (fun cc => ?_) (fun cc => ?_)
    · obtain rfl : cd = 1 := cdd.resolve_left (bI_eq0.mp cc)
      exact J56 _ _ v1 j1 (H110.mono (by decide) (by decide)) B1 g1 f1 (by omega) K1 X1
    · obtain rfl : cd = 0 := bI_ne0.mp cc
      refine go_aloadN K H110 d32_52 rfl rfl ?_
      refine go_callV [] K H110 d32_53 (B1.1) (hw _ (List.mem_of_getElem? (i := 265) rfl)) (dec_of (hw _ (List.mem_of_getElem? (i := 269) rfl)) (hw _ (List.mem_of_getElem? (i := 266) rfl))) (nf_sel (hw _ (List.mem_of_getElem? (i := 268) rfl))) (hw _ (List.mem_of_getElem? (i := 268) rfl)) (hw _ (List.mem_of_getElem? (i := 266) rfl)) (hw _ (List.mem_of_getElem? (i := 62) rfl)) (hw _ (List.mem_of_getElem? (i := 269) rfl)) (st' := []) (by decide) (rmBI Z a0 hw _ _ n0 (at_size K H110) ss X1 hz g0 v1 0 L j1 B1 g1) pd18 rfl rfl rfl (by decide) (W := 0) rfl (by decide) (by decide) (by decide) fun T111 h111 v111 H111 q111 => ?_
      obtain ⟨rfl, v2, j2, g2, f2, B2, r2, K2⟩ := q111
      show Go _ _ _ 56 #[.val (.ref b), .val (.int (oN c))] []
      exact J56 _ _ v2 j2 H111 B2 g2 (by rcases f2 with q | q; rw [q]; exact f1; exact Or.inr (Nat.le_trans K1.1 q)) (by omega) (K1.trans K2 (inS (Or.inl (List.mem_singleton.mpr rfl)) in0)) (ext_keep X1 K2 (allS (Nat.le_trans hz g0) all0))
  · have e0 : cd = 0 := bI_ne0.mp cc
    refine go_iloadN K H104 d32_17 rfl ?_
    refine go_callS [(.int (oN c))] K H104 d32_18 (hw _ (List.mem_of_getElem? (i := 92) rfl)) (hw _ (List.mem_of_getElem? (i := 93) rfl)) (hw _ (List.mem_of_getElem? (i := 94) rfl)) (hw _ (List.mem_of_getElem? (i := 95) rfl)) (st' := []) (by decide) (rmCE Z a0 hw _ n0 (at_size K H104) c c6) pd19 rfl rfl rfl (by decide) (W := 0) rfl (by decide) (by decide) (by decide) fun T112 h112 v112 H112 q112 => ?_
    obtain ⟨z112, rfl, rfl, rfl⟩ := q112
    show Go _ _ _ 21 #[.val (.ref b), .val (.int (oN c))] [(.int (bI (c < 256)))]
    refine go_if_eq K H112 d32_21 (fun c2 => ?_) (fun c2 => ?_)
    · refine go_aloadN K H112 d32_45 rfl rfl ?_
      refine go_callV [] K H112 d32_46 (B1.1) (hw _ (List.mem_of_getElem? (i := 87) rfl)) (hw _ (List.mem_of_getElem? (i := 88) rfl)) (nf_sel (hw _ (List.mem_of_getElem? (i := 90) rfl))) (hw _ (List.mem_of_getElem? (i := 90) rfl)) (hw _ (List.mem_of_getElem? (i := 89) rfl)) (hw _ (List.mem_of_getElem? (i := 62) rfl)) (hw _ (List.mem_of_getElem? (i := 91) rfl)) (st' := []) (by decide) (rmBL Z a0 hw _ _ n0 (at_size K H112) ss X1 v1 cd L j1 B1) pd6 rfl rfl rfl (by decide) (W := 0) rfl (by decide) (by decide) (by decide) fun T113 h113 v113 H113 q113 => ?_
      obtain ⟨z113, rfl, rfl, rfl⟩ := q113
      show Go _ _ _ 49 #[.val (.ref b), .val (.int (oN c))] [(.int (bI (cd = 0)))]
      refine go_if_eq K H113 d32_49 (fun cc => ?_) (fun cc => ?_)
      · obtain rfl : cd = 1 := cdd.resolve_left (bI_eq0.mp cc)
        exact J56 _ _ v1 j1 (H113.mono (by decide) (by decide)) B1 g1 f1 (by omega) K1 X1
      · obtain rfl : cd = 0 := bI_ne0.mp cc
        refine go_aloadN K H113 d32_52 rfl rfl ?_
        refine go_callV [] K H113 d32_53 (B1.1) (hw _ (List.mem_of_getElem? (i := 265) rfl)) (dec_of (hw _ (List.mem_of_getElem? (i := 269) rfl)) (hw _ (List.mem_of_getElem? (i := 266) rfl))) (nf_sel (hw _ (List.mem_of_getElem? (i := 268) rfl))) (hw _ (List.mem_of_getElem? (i := 268) rfl)) (hw _ (List.mem_of_getElem? (i := 266) rfl)) (hw _ (List.mem_of_getElem? (i := 62) rfl)) (hw _ (List.mem_of_getElem? (i := 269) rfl)) (st' := []) (by decide) (rmBI Z a0 hw _ _ n0 (at_size K H113) ss X1 hz g0 v1 0 L j1 B1 g1) pd18 rfl rfl rfl (by decide) (W := 0) rfl (by decide) (by decide) (by decide) fun T114 h114 v114 H114 q114 => ?_
        obtain ⟨rfl, v2, j2, g2, f2, B2, r2, K2⟩ := q114
        show Go _ _ _ 56 #[.val (.ref b), .val (.int (oN c))] []
        exact J56 _ _ v2 j2 H114 B2 g2 (by rcases f2 with q | q; rw [q]; exact f1; exact Or.inr (Nat.le_trans K1.1 q)) (by omega) (K1.trans K2 (inS (Or.inl (List.mem_singleton.mpr rfl)) in0)) (ext_keep X1 K2 (allS (Nat.le_trans hz g0) all0))
    · obtain rfl := e0
      have c8 : c < 256 := bI_ne0.mp c2
      have nbv := B1.ne
      obtain ⟨a1, a2, a3, a4, a5, a6, a7, a8, a9⟩ := B1
      refine go_aloadN K H112 d32_24 rfl rfl ?_
      refine go_getfield K H112 d32_25 (host := "") (Or.inl (hw _ (List.mem_of_getElem? (i := 66) rfl))) Via.refl (a2) fun T115 HT115 => ?_
      refine go_aloadN K HT115 d32_28 rfl rfl ?_
      refine go_dup K HT115 d32_29 rfl ?_
      refine go_getfield K HT115 d32_30 (host := "") (Or.inl (hw _ (List.mem_of_getElem? (i := 80) rfl))) Via.refl (a4) fun T116 HT116 => ?_
      refine go_dupX1 K HT116 d32_33 rfl rfl ?_
      refine go_iconst (1) K HT116 d32_34 (by decide) ?_
      refine go_iadd K HT116 d32_35 fun v117 ev117 => ?_
      obtain rfl : v117 = oN (L.length + 1) := ev117.trans (oN_add _ 1)
      refine go_putfield K HT116 d32_36 (host := "") (Or.inl (hw _ (List.mem_of_getElem? (i := 80) rfl))) Via.refl (a4) (a1) (Or.inl (hw _ (List.mem_of_getElem? (i := 81) rfl))) (hw _ (List.mem_of_getElem? (i := 43) rfl)) (ty := .int) (by decide) rfl rfl (g0) fun T118 h118 H118 W118 => ?_
      replace a2 := a2.other W118 (Or.inr (slot_ne (Z := Z) (a0 := a0) (Or.inl (hw _ (List.mem_of_getElem? (i := 67) rfl))) (Or.inl (hw _ (List.mem_of_getElem? (i := 81) rfl))) (by decide) (t := (.array .byte)) (by decide) (t' := .int) (by decide)))
      replace a3 := a3.other W118 (Or.inr (slot_ne (Z := Z) (a0 := a0) (Or.inl (hw _ (List.mem_of_getElem? (i := 69) rfl))) (Or.inl (hw _ (List.mem_of_getElem? (i := 81) rfl))) (by decide) (t := .byte) (by decide) (t' := .int) (by decide)))
      replace a4 := a4.same W118
      replace a5 := a5.other W118 (Or.inr (slot_ne (Z := Z) (a0 := a0) (Or.inl (hw _ (List.mem_of_getElem? (i := 296) rfl))) (Or.inl (hw _ (List.mem_of_getElem? (i := 81) rfl))) (by decide) (t := .boolean) (by decide) (t' := .int) (by decide)))
      replace a1 := a1.wr W118; replace a6 := a6.other W118 nbv.symm; replace a7 := a7.wr W118; have KK : Keep h0 h118 [b] := K1.wr W118 (Or.inl (List.mem_singleton.mpr rfl))
      refine go_iloadN K H118 d32_39 rfl ?_
      refine go_i2b K H118 d32_40 fun v119 ev119 => ?_
      refine go_bS (b := c) K H118 d32_41 (a6) (by omega) (c8) (by have q := f_i2b ev119; rw [oN_toInt (by omega)] at q; omega) (g1) fun T120 h120 H120 W120 B120 => ?_
      have a6' := B120; rw [enc0, thin_set (by omega)] at a6'
      refine go_goto K H120 d32_42 ?_
      refine go_aloadN K H120 d32_75 rfl rfl ?_
      exact go_aret K H120 d32_76 rfl rfl rfl (by decide) (by decide) (⟨rfl, v1, 0, _, g1, f1, ⟨a1.wr W120, a2.other W120 (Or.inl nbv), a3.other W120 (Or.inl nbv), (by rw [List.length_append]; exact a4.other W120 (Or.inl nbv)), a5.other W120 (Or.inl nbv), a6', a7.wr W120, Or.inl rfl, by rw [lenA (Or.inl rfl), List.length_append, List.length_drop]; simp only [List.length_cons, List.length_nil]; omega⟩, (keep_more KK (fun x q => List.mem_cons.mpr (Or.inl (List.mem_singleton.mp q)))).wr W120 (by rcases f1 with q | q; exact Or.inl (by rw [q]; simp); exact Or.inr q)⟩)
set_option maxRecDepth 65536 in
set_option maxHeartbeats 40000000 in
theorem rmAp (Z : State) (a0 : Array Value) (hw : ∀ d ∈ tables_1, d.before a0 Z = true) (b : Addr) (h0 : Heap) (n0 : Nat) (Z0 : n0 ≤ h0.size) (ss : SSt Z) (X0 : Ext Z.heap h0) (hz : Z.heap.size ≤ n0) (g0 : n0 ≤ b) (v : Addr) (cd : Nat) (L js : List Nat) (B : Sb Z h0 b v cd L js) (gv : n0 ≤ v) (c : Nat) (c6 : c < 65536) (l14 : L.length + 1 ≤ 14) (lau : Launch) :
    Con lau Z (⟨"java/lang/StringBuilder", "append", "(C)Ljava/lang/StringBuilder;"⟩ : MethodName) jdk_67_method_14_code 2 (some (.object "java/lang/StringBuilder")) ({ frames := 7, cells := 2, slots := 128, locals := 102 } : Room) #[(.ref b), (.int (oN c))] h0 n0 (RR fun z h => z = .ref b ∧ ∃ v' cd' js', n0 ≤ v' ∧ (v' = v ∨ h0.size ≤ v') ∧ Sb Z h b v' cd' (L ++ [c]) js' ∧ Keep h0 h [b, v]) := by
  refine con_intro pn33 (L := #[.val (.ref b), .val (.int (oN c))]) (fun m => by first | (simp [entryFrame, mkF, argsToLocals, Value.category, maxLocals]; done) | rfl) Z0 (fun w T K H => ?_)
  refine go_aloadN K H d33_0 rfl rfl ?_
  refine go_iloadN K H d33_1 rfl ?_
  refine go_callU [(.int (oN c))] K H d33_2 (B.1) (hw _ (List.mem_of_getElem? (i := 75) rfl)) (nf_cls (y := (⟨"java/lang/AbstractStringBuilder", "isLatin1", "()Z"⟩ : MethodName)) rfl (hw _ (List.mem_of_getElem? (i := 88) rfl)) (nf_sel (hw _ (List.mem_of_getElem? (i := 90) rfl)))) (hw _ (List.mem_of_getElem? (i := 76) rfl)) (hw _ (List.mem_of_getElem? (i := 77) rfl)) (hw _ (List.mem_of_getElem? (i := 62) rfl)) (hw _ (List.mem_of_getElem? (i := 79) rfl)) (st' := []) (by decide) (rmAC Z a0 hw _ _ n0 (at_size K H) ss X0 hz g0 v cd L js B gv c c6 l14) pd20 rfl rfl (by decide) rfl (by decide) (W := 0) rfl (by decide) (by decide) (by decide) fun T101 h101 v101 H101 q101 => ?_
  obtain ⟨z101, rfl, hz101, rfl, R⟩ := q101
  show Go _ _ _ 5 #[.val (.ref b), .val (.int (oN c))] [(.ref b)]
  refine go_pop K H101 d33_5 rfl ?_
  refine go_aloadN K H101 d33_6 rfl rfl ?_
  exact go_aret K H101 d33_7 rfl rfl rfl (by decide) (by decide) (⟨rfl, R⟩)
set_option maxRecDepth 65536 in
set_option maxHeartbeats 40000000 in
theorem rmII (Z : State) (a0 : Array Value) (hw : ∀ d ∈ tables_1, d.before a0 Z = true) (b : Addr) (s : Addr) (h0 : Heap) (n0 : Nat) (Z0 : n0 ≤ h0.size) (ss : SSt Z) (X0 : Ext Z.heap h0) (hz : Z.heap.size ≤ n0) (g0 : n0 ≤ b) (v : Addr) (cd : Nat) (L js : List Nat) (B : Sb Z h0 b v cd L js) (gv : n0 ≤ v) (vs : Addr) (M : List Nat) (S : Sx Z h0 s vs 0 M) (lau : Launch) :
    Con lau Z (⟨"java/lang/AbstractStringBuilder", "inflateIfNeededFor", "(Ljava/lang/String;)V"⟩ : MethodName) jdk_68_method_71_code 2 none ({ frames := 6, cells := 1, slots := 64, locals := 89 } : Room) #[(.ref b), (.ref s)] h0 n0 (RV fun h => ∃ v' js', n0 ≤ v' ∧ (v' = v ∨ h0.size ≤ v') ∧ Sb Z h b v' cd L js' ∧ (enc cd L ++ js).length ≤ (enc cd L ++ js').length ∧ Keep h0 h [b]) := by
  refine con_intro pn34 (L := #[.val (.ref b), .val (.ref s)]) (fun m => by first | (simp [entryFrame, mkF, argsToLocals, Value.category, maxLocals]; done) | rfl) Z0 (fun w T K H => ?_)
  obtain ⟨cs, hcs, S1c⟩ := ss.1
  refine go_getstatic K H d34_0 (host := "") (Or.inl (hw _ (List.mem_of_getElem? (i := 65) rfl))) Via.refl (S1c.ext X0) fun T101 HT101 => ?_
  refine go_if_eq K HT101 d34_3 (fun cc => False.elim (by exact hcs cc)) (fun cc => ?_)
  refine go_aloadN K HT101 d34_6 rfl rfl ?_
  refine go_getfield K HT101 d34_7 (host := "") (Or.inl (hw _ (List.mem_of_getElem? (i := 68) rfl))) Via.refl (B.2.2.1) fun T102 HT102 => ?_
  refine go_aloadN K HT102 d34_10 rfl rfl ?_
  refine go_callV [] K HT102 d34_11 (S.1) (hw _ (List.mem_of_getElem? (i := 147) rfl)) (hw _ (List.mem_of_getElem? (i := 51) rfl)) (nf_sel (hw _ (List.mem_of_getElem? (i := 53) rfl))) (hw _ (List.mem_of_getElem? (i := 53) rfl)) (hw _ (List.mem_of_getElem? (i := 52) rfl)) (hw _ (List.mem_of_getElem? (i := 3) rfl)) (hw _ (List.mem_of_getElem? (i := 54) rfl)) (st' := [(.int (oN cd))]) (by decide) (rmSC Z a0 hw _ _ n0 (at_size K HT102) ss X0 vs 0 M S) pd0 rfl rfl rfl (by decide) (W := 1) rfl (by decide) (by decide) (by decide) fun T103 h103 v103 H103 q103 => ?_
  obtain ⟨z103, rfl, rfl, rfl⟩ := q103
  show Go _ _ _ 14 #[.val (.ref b), .val (.ref s)] [(.int (oN 0)), (.int (oN cd))]
  refine go_icmp_eq K H103 d34_14 (fun cc => ?_) (fun cc => ?_)
  · exact go_ret K H103 d34_21 rfl (by decide) (by decide) (⟨v, js, gv, Or.inl rfl, B, Nat.le_refl _, Keep.refl _ _⟩)
  · obtain rfl : cd = 1 := (B.2.2.2.2.2.2.2.1).resolve_left (fun q => cc (by rw [q]))
    refine go_aloadN K H103 d34_17 rfl rfl ?_
    refine go_callV [] K H103 d34_18 (B.1) (hw _ (List.mem_of_getElem? (i := 265) rfl)) (dec_of (hw _ (List.mem_of_getElem? (i := 269) rfl)) (hw _ (List.mem_of_getElem? (i := 266) rfl))) (nf_sel (hw _ (List.mem_of_getElem? (i := 268) rfl))) (hw _ (List.mem_of_getElem? (i := 268) rfl)) (hw _ (List.mem_of_getElem? (i := 266) rfl)) (hw _ (List.mem_of_getElem? (i := 62) rfl)) (hw _ (List.mem_of_getElem? (i := 269) rfl)) (st' := []) (by decide) (rmBI Z a0 hw _ _ n0 (at_size K H103) ss X0 hz g0 v 1 L js B gv) pd18 rfl rfl rfl (by decide) (W := 0) rfl (by decide) (by decide) (by decide) fun T104 h104 v104 H104 q104 => ?_
    obtain ⟨rfl, v', js', g', f', B', r', K'⟩ := q104
    show Go _ _ _ 21 #[.val (.ref b), .val (.ref s)] []
    exact go_ret K H104 d34_21 rfl (by decide) (by decide) (⟨v', js', g', f', B', by omega, K'⟩)
set_option maxRecDepth 65536 in
set_option maxHeartbeats 40000000 in
theorem rmGB (Z : State) (a0 : Array Value) (hw : ∀ d ∈ tables_1, d.before a0 Z = true) (s : Addr) (v : Addr) (h0 : Heap) (n0 : Nat) (Z0 : n0 ≤ h0.size) (ss : SSt Z) (X0 : Ext Z.heap h0) (hz : Z.heap.size ≤ n0) (gv : n0 ≤ v) (cd : Nat) (cdd : cd = 0 ∨ cd = 1) (L js : List Nat) (B : BA Z h0 v (enc cd L ++ js)) (vs : Addr) (M : List Nat) (S : Sx Z h0 s vs 0 M) (nvs : vs ≠ v) (hj : M.length * (cd + 1) ≤ js.length) (lau : Launch) :
    Con lau Z (⟨"java/lang/String", "getBytes", "([BIB)V"⟩ : MethodName) jdk_42_method_147_code 4 none ({ frames := 5, cells := 0, slots := 0, locals := 76 } : Room) #[(.ref s), (.ref v), (.int (oN L.length)), (.int (oN cd))] h0 n0 (RV fun h => BA Z h v (enc cd (L ++ M) ++ js.drop (M.length * (cd + 1))) ∧ Keep h0 h [v]) := by
  refine con_intro pn35 (L := #[.val (.ref s), .val (.ref v), .val (.int (oN L.length)), .val (.int (oN cd))]) (fun m => by first | (simp [entryFrame, mkF, argsToLocals, Value.category, maxLocals]; done) | rfl) Z0 (fun w T K H => ?_)
  have le := lenA cdd L js; have bl := B.len
  refine go_aloadN K H d35_0 rfl rfl ?_
  refine go_callV [] K H d35_1 (S.1) (hw _ (List.mem_of_getElem? (i := 50) rfl)) (hw _ (List.mem_of_getElem? (i := 51) rfl)) (nf_sel (hw _ (List.mem_of_getElem? (i := 53) rfl))) (hw _ (List.mem_of_getElem? (i := 53) rfl)) (hw _ (List.mem_of_getElem? (i := 52) rfl)) (hw _ (List.mem_of_getElem? (i := 3) rfl)) (hw _ (List.mem_of_getElem? (i := 54) rfl)) (st' := []) (by decide) (rmSC Z a0 hw _ _ n0 (at_size K H) ss X0 vs 0 M S) pd0 rfl rfl rfl (by decide) (W := 0) rfl (by decide) (by decide) (by decide) fun T101 h101 v101 H101 q101 => ?_
  obtain ⟨z101, rfl, rfl, rfl⟩ := q101
  show Go _ _ _ 4 #[.val (.ref s), .val (.ref v), .val (.int (oN L.length)), .val (.int (oN cd))] [(.int (oN 0))]
  refine go_iloadN K H101 d35_4 rfl ?_
  refine go_icmp_ne K H101 d35_5 (fun cc => ?_) (fun cc => ?_)
  · obtain rfl : cd = 1 := cdd.resolve_left (fun q => cc (by rw [q]))
    refine go_aloadN K H101 d35_28 rfl rfl ?_
    refine go_getfield K H101 d35_29 (host := "") (Or.inl (hw _ (List.mem_of_getElem? (i := 29) rfl))) Via.refl (S.2.1) fun T102 HT102 => ?_
    refine go_iconst (0) K HT102 d35_32 (by decide) ?_
    refine go_aloadN K HT102 d35_33 rfl rfl ?_
    refine go_iloadN K HT102 d35_34 rfl ?_
    refine go_aloadN K HT102 d35_35 rfl rfl ?_
    refine go_getfield K HT102 d35_36 (host := "") (Or.inl (hw _ (List.mem_of_getElem? (i := 29) rfl))) Via.refl (S.2.1) fun T103 HT103 => ?_
    refine go_lenB K HT103 d35_39 (S.2.2.2.1) ?_
    show Go _ _ _ 40 #[.val (.ref s), .val (.ref v), .val (.int (oN L.length)), .val (.int (oN 1))] [(.int (oN M.length)), (.int (oN L.length)), (.ref v), (.int 0), (.ref vs)]
    refine go_callS [(.ref vs), (.int 0), (.ref v), (.int (oN L.length)), (.int (oN M.length))] K HT103 d35_40 (hw _ (List.mem_of_getElem? (i := 302) rfl)) (hw _ (List.mem_of_getElem? (i := 278) rfl)) (hw _ (List.mem_of_getElem? (i := 94) rfl)) (hw _ (List.mem_of_getElem? (i := 279) rfl)) (st' := []) (by decide) (rmLI Z a0 hw _ _ _ n0 (at_size K HT103) ss X0 hz gv nvs [] M L js (by rw [List.append_nil]; exact S.2.2.2.1) B L.length rfl (by omega)) pd12 rfl rfl rfl (by decide) (W := 0) rfl (by decide) (by decide) (by decide) fun T104 h104 v104 H104 q104 => ?_
    obtain ⟨rfl, B1, K1⟩ := q104
    show Go _ _ _ 43 #[.val (.ref s), .val (.ref v), .val (.int (oN L.length)), .val (.int (oN 1))] []
    exact go_ret K H104 d35_43 rfl (by decide) (by decide) (⟨by rw [Nat.mul_comm M.length]; exact B1, K1⟩)
  · obtain rfl : cd = 0 := by rcases cdd with q | q; exact q; rw [q] at cc; exact absurd cc (by decide)
    refine go_aloadN K H101 d35_8 rfl rfl ?_
    refine go_getfield K H101 d35_9 (host := "") (Or.inl (hw _ (List.mem_of_getElem? (i := 29) rfl))) Via.refl (S.2.1) fun T105 HT105 => ?_
    refine go_iconst (0) K HT105 d35_12 (by decide) ?_
    refine go_aloadN K HT105 d35_13 rfl rfl ?_
    refine go_iloadN K HT105 d35_14 rfl ?_
    refine go_iloadN K HT105 d35_15 rfl ?_
    refine go_ishl K HT105 d35_16 fun v106 ev106 => ?_
    obtain rfl : v106 = oN (L.length) := ev106.trans ((oN_shl (k := 0) (by decide) (by omega)).trans (congrArg oN (by omega)))
    refine go_aloadN K HT105 d35_17 rfl rfl ?_
    refine go_getfield K HT105 d35_18 (host := "") (Or.inl (hw _ (List.mem_of_getElem? (i := 29) rfl))) Via.refl (S.2.1) fun T107 HT107 => ?_
    refine go_lenB K HT107 d35_21 (S.2.2.2.1) ?_
    show Go _ _ _ 22 #[.val (.ref s), .val (.ref v), .val (.int (oN L.length)), .val (.int (oN 0))] [(.int (oN M.length)), (.int (oN (L.length))), (.ref v), (.int 0), (.ref vs)]
    refine go_copyB (0) (L.length) (M.length) K HT107 d35_22 (hw _ (List.mem_of_getElem? (i := 153) rfl)) (hw _ (List.mem_of_getElem? (i := 156) rfl)) (hw _ (List.mem_of_getElem? (i := 154) rfl)) (hw _ (List.mem_of_getElem? (i := 155) rfl)) (S.2.2.2.1) (B) (by rw [enc0]; omega) (by omega) (gv) rfl (by decide) (W := 0) rfl (by decide) fun T108 h108 H108 K108 B108 => ?_
    refine go_goto K H108 d35_25 ?_
    exact go_ret K H108 d35_43 rfl (by decide) (by decide) (⟨by have q := B108; rw [List.drop_zero, enc0, enc0, List.take_length, List.take_left' rfl, List.drop_append, List.drop_eq_nil_of_le (by omega), List.nil_append, Nat.add_sub_cancel_left] at q; rw [enc0, Nat.zero_add, Nat.mul_one]; exact q, K108⟩)
set_option maxRecDepth 65536 in
set_option maxHeartbeats 40000000 in
theorem rmPA (Z : State) (a0 : Array Value) (hw : ∀ d ∈ tables_1, d.before a0 Z = true) (b : Addr) (s : Addr) (h0 : Heap) (n0 : Nat) (Z0 : n0 ≤ h0.size) (ss : SSt Z) (X0 : Ext Z.heap h0) (hz : Z.heap.size ≤ n0) (g0 : n0 ≤ b) (v : Addr) (cd : Nat) (L js : List Nat) (B : Sb Z h0 b v cd L js) (gv : n0 ≤ v) (vs : Addr) (M : List Nat) (S : Sx Z h0 s vs 0 M) (nsb : s ≠ b) (nsv : s ≠ v) (nvb : vs ≠ b) (nvv : vs ≠ v) (hc : (L.length + M.length) * (cd + 1) ≤ (enc cd L ++ js).length) (lau : Launch) :
    Con lau Z (⟨"java/lang/AbstractStringBuilder", "putStringAt", "(ILjava/lang/String;)V"⟩ : MethodName) jdk_68_method_73_code 3 none ({ frames := 7, cells := 1, slots := 64, locals := 102 } : Room) #[(.ref b), (.int (oN L.length)), (.ref s)] h0 n0 (RV fun h => ∃ v' r, n0 ≤ v' ∧ (v' = v ∨ h0.size ≤ v') ∧ Sb Z h b v' cd L (enc cd M ++ r) ∧ Keep h0 h [b, v]) := by
  refine con_intro pn36 (L := #[.val (.ref b), .val (.int (oN L.length)), .val (.ref s)]) (fun m => by first | (simp [entryFrame, mkF, argsToLocals, Value.category, maxLocals]; done) | rfl) Z0 (fun w T K H => ?_)
  have cdd := B.2.2.2.2.2.2.2.1; have slt := S.1.lt; have vlt := S.2.2.2.1.lt; have le := lenA cdd L js
  refine go_aloadN K H d36_0 rfl rfl ?_
  refine go_aloadN K H d36_1 rfl rfl ?_
  refine go_callV [(.ref s)] K H d36_2 (B.1) (hw _ (List.mem_of_getElem? (i := 142) rfl)) (dec_of (hw _ (List.mem_of_getElem? (i := 146) rfl)) (hw _ (List.mem_of_getElem? (i := 143) rfl))) (nf_sel (hw _ (List.mem_of_getElem? (i := 145) rfl))) (hw _ (List.mem_of_getElem? (i := 145) rfl)) (hw _ (List.mem_of_getElem? (i := 143) rfl)) (hw _ (List.mem_of_getElem? (i := 62) rfl)) (hw _ (List.mem_of_getElem? (i := 146) rfl)) (st' := []) (by decide) (rmII Z a0 hw _ _ _ n0 (at_size K H) ss X0 hz g0 v cd L js B gv vs M S) pd21 rfl rfl rfl (by decide) (W := 0) rfl (by decide) (by decide) (by decide) fun T101 h101 v101 H101 q101 => ?_
  obtain ⟨rfl, v1, j1, g1, f1, B1, r1, K1⟩ := q101
  show Go _ _ _ 5 #[.val (.ref b), .val (.int (oN L.length)), .val (.ref s)] []
  have S1 := S.keep K1 (ninS nsb nin0) (ninS nvb nin0); have X1 := ext_keep X0 K1 (allS (Nat.le_trans hz g0) all0); have nv1 : vs ≠ v1 := by rcases f1 with q | q; rw [q]; exact nvv; exact ne_lt vlt q
  have le1 := lenA cdd L j1; have nbv := B1.ne; have m1 := B1.2.2.2.2.2.2.2.2
  obtain ⟨a1, a2, a3, a4, a5, a6, a7, a8, a9⟩ := B1
  refine go_aloadN K H101 d36_5 rfl rfl ?_
  refine go_aloadN K H101 d36_6 rfl rfl ?_
  refine go_getfield K H101 d36_7 (host := "") (Or.inl (hw _ (List.mem_of_getElem? (i := 66) rfl))) Via.refl (a2) fun T102 HT102 => ?_
  refine go_iloadN K HT102 d36_10 rfl ?_
  refine go_aloadN K HT102 d36_11 rfl rfl ?_
  refine go_getfield K HT102 d36_12 (host := "") (Or.inl (hw _ (List.mem_of_getElem? (i := 68) rfl))) Via.refl (a3) fun T103 HT103 => ?_
  refine go_callV [(.ref v1), (.int (oN L.length)), (.int (oN cd))] K HT103 d36_15 (S1.1) (hw _ (List.mem_of_getElem? (i := 148) rfl)) (hw _ (List.mem_of_getElem? (i := 149) rfl)) (nf_sel (hw _ (List.mem_of_getElem? (i := 151) rfl))) (hw _ (List.mem_of_getElem? (i := 151) rfl)) (hw _ (List.mem_of_getElem? (i := 150) rfl)) (hw _ (List.mem_of_getElem? (i := 3) rfl)) (hw _ (List.mem_of_getElem? (i := 152) rfl)) (st' := []) (by decide) (rmGB Z a0 hw _ _ _ n0 (at_size K HT103) ss X1 hz g1 cd cdd L j1 a6 vs M S1 nv1 (by rcases cdd with rfl | rfl <;> omega)) pd22 rfl rfl rfl (by decide) (W := 0) rfl (by decide) (by decide) (by decide) fun T104 h104 v104 H104 q104 => ?_
  obtain ⟨rfl, B2, K2⟩ := q104
  show Go _ _ _ 18 #[.val (.ref b), .val (.int (oN L.length)), .val (.ref s)] []
  rw [enc_app, List.append_assoc] at B2
  exact go_ret K H104 d36_18 rfl (by decide) (by decide) (⟨v1, _, g1, f1, ⟨a1.keep K2, a2.keep K2 (ninS nbv nin0), a3.keep K2 (ninS nbv nin0), a4.keep K2 (ninS nbv nin0), a5.keep K2 (ninS nbv nin0), B2, a7.keep K2, a8, by rw [List.length_append, List.length_append, List.length_drop, enc_len cdd, enc_len cdd]; rcases cdd with rfl | rfl <;> omega⟩, (keep_more K1 (fun x q => List.mem_cons.mpr (Or.inl (List.mem_singleton.mp q)))).trans K2 (inS (by rcases f1 with q | q; exact Or.inl (by rw [q]; simp); exact Or.inr q) in0)⟩)
set_option maxRecDepth 65536 in
set_option maxHeartbeats 40000000 in
theorem rmAS (Z : State) (a0 : Array Value) (hw : ∀ d ∈ tables_1, d.before a0 Z = true) (b : Addr) (s : Addr) (h0 : Heap) (n0 : Nat) (Z0 : n0 ≤ h0.size) (ss : SSt Z) (X0 : Ext Z.heap h0) (hz : Z.heap.size ≤ n0) (g0 : n0 ≤ b) (v : Addr) (cd : Nat) (L js : List Nat) (B : Sb Z h0 b v cd L js) (gv : n0 ≤ v) (vs : Addr) (M : List Nat) (S : Sx Z h0 s vs 0 M) (nsb : s ≠ b) (nsv : s ≠ v) (nvb : vs ≠ b) (nvv : vs ≠ v) (l14 : L.length + M.length ≤ 14) (lau : Launch) :
    Con lau Z (⟨"java/lang/AbstractStringBuilder", "append", "(Ljava/lang/String;)Ljava/lang/AbstractStringBuilder;"⟩ : MethodName) jdk_68_method_22_code 3 (some (.object "java/lang/AbstractStringBuilder")) ({ frames := 8, cells := 2, slots := 128, locals := 116 } : Room) #[(.ref b), (.ref s)] h0 n0 (RR fun z h => z = .ref b ∧ ∃ v' cd' js', n0 ≤ v' ∧ (v' = v ∨ h0.size ≤ v') ∧ Sb Z h b v' cd' (L ++ M) js' ∧ Keep h0 h [b, v]) := by
  refine con_intro pn37 (L := #[.val (.ref b), .val (.ref s), .unset]) (fun m => by first | (simp [entryFrame, mkF, argsToLocals, Value.category, maxLocals]; done) | rfl) Z0 (fun w T K H => ?_)
  have cdd := B.2.2.2.2.2.2.2.1; have slt := S.1.lt; have vlt := S.2.2.2.1.lt
  refine go_aloadN K H d37_0 rfl rfl ?_
  refine go_ifnonnull_yes K H d37_1 ?_
  refine go_aloadN K H d37_9 rfl rfl ?_
  refine go_callV [] K H d37_10 (S.1) (hw _ (List.mem_of_getElem? (i := 136) rfl)) (hw _ (List.mem_of_getElem? (i := 46) rfl)) (nf_sel (hw _ (List.mem_of_getElem? (i := 48) rfl))) (hw _ (List.mem_of_getElem? (i := 48) rfl)) (hw _ (List.mem_of_getElem? (i := 47) rfl)) (hw _ (List.mem_of_getElem? (i := 3) rfl)) (hw _ (List.mem_of_getElem? (i := 49) rfl)) (st' := []) (by decide) (rmLe Z a0 hw _ _ n0 (at_size K H) ss X0 vs 0 M S) pd23 rfl rfl rfl (by decide) (W := 0) rfl (by decide) (by decide) (by decide) fun T101 h101 v101 H101 q101 => ?_
  obtain ⟨z101, rfl, rfl, rfl⟩ := q101
  show Go _ _ _ 13 #[.val (.ref b), .val (.ref s), .unset] [(.int (oN M.length))]
  refine go_istoreN K H101 d37_13 (L' := #[.val (.ref b), .val (.ref s), .val (.int (oN M.length))]) rfl ?_
  refine go_aloadN K H101 d37_14 rfl rfl ?_
  refine go_aloadN K H101 d37_15 rfl rfl ?_
  refine go_getfield K H101 d37_16 (host := "") (Or.inl (hw _ (List.mem_of_getElem? (i := 80) rfl))) Via.refl (B.2.2.2.1) fun T102 HT102 => ?_
  refine go_iloadN K HT102 d37_19 rfl ?_
  refine go_iadd K HT102 d37_20 fun v103 ev103 => ?_
  obtain rfl : v103 = oN (L.length + M.length) := ev103.trans (oN_add _ _)
  refine go_callV [(.int (oN (L.length + M.length)))] K HT102 d37_21 (B.1) (hw _ (List.mem_of_getElem? (i := 82) rfl)) (dec_of (hw _ (List.mem_of_getElem? (i := 86) rfl)) (hw _ (List.mem_of_getElem? (i := 83) rfl))) (nf_sel (hw _ (List.mem_of_getElem? (i := 85) rfl))) (hw _ (List.mem_of_getElem? (i := 85) rfl)) (hw _ (List.mem_of_getElem? (i := 83) rfl)) (hw _ (List.mem_of_getElem? (i := 62) rfl)) (hw _ (List.mem_of_getElem? (i := 86) rfl)) (st' := []) (by decide) (rmEC Z a0 hw _ _ n0 (at_size K HT102) ss X0 g0 v cd L js B gv (L.length + M.length) l14) pd17 rfl rfl rfl (by decide) (W := 0) rfl (by decide) (by decide) (by decide) fun T104 h104 v104 H104 q104 => ?_
  obtain ⟨rfl, v1, j1, g1, f1, B1, r1, K1⟩ := q104
  show Go _ _ _ 24 #[.val (.ref b), .val (.ref s), .val (.int (oN M.length))] []
  have S1 := S.keep K1 (ninS nsb nin0) (ninS nvb nin0); have X1 := ext_keep X0 K1 (allS (Nat.le_trans hz g0) all0); have nv1 : vs ≠ v1 := by rcases f1 with q | q; rw [q]; exact nvv; exact ne_lt vlt q
  have ns1 : s ≠ v1 := by rcases f1 with q | q; rw [q]; exact nsv; exact ne_lt slt q
  refine go_aloadN K H104 d37_24 rfl rfl ?_
  refine go_aloadN K H104 d37_25 rfl rfl ?_
  refine go_getfield K H104 d37_26 (host := "") (Or.inl (hw _ (List.mem_of_getElem? (i := 80) rfl))) Via.refl (B1.2.2.2.1) fun T105 HT105 => ?_
  refine go_aloadN K HT105 d37_29 rfl rfl ?_
  refine go_callV [(.int (oN L.length)), (.ref s)] K HT105 d37_30 (B1.1) (hw _ (List.mem_of_getElem? (i := 137) rfl)) (dec_of (hw _ (List.mem_of_getElem? (i := 141) rfl)) (hw _ (List.mem_of_getElem? (i := 138) rfl))) (nf_sel (hw _ (List.mem_of_getElem? (i := 140) rfl))) (hw _ (List.mem_of_getElem? (i := 140) rfl)) (hw _ (List.mem_of_getElem? (i := 138) rfl)) (hw _ (List.mem_of_getElem? (i := 62) rfl)) (hw _ (List.mem_of_getElem? (i := 141) rfl)) (st' := []) (by decide) (rmPA Z a0 hw _ _ _ n0 (at_size K HT105) ss X1 hz g0 v1 cd L j1 B1 g1 vs M S1 nsb ns1 nvb nv1 r1) pd24 rfl rfl rfl (by decide) (W := 0) rfl (by decide) (by decide) (by decide) fun T106 h106 v106 H106 q106 => ?_
  obtain ⟨rfl, v2, r, g2, f2, B2, K2⟩ := q106
  show Go _ _ _ 33 #[.val (.ref b), .val (.ref s), .val (.int (oN M.length))] []
  have nbv := B2.ne; have m2 := B2.2.2.2.2.2.2.2.2
  obtain ⟨a1, a2, a3, a4, a5, a6, a7, a8, a9⟩ := B2
  have f3 : v2 = v ∨ h0.size ≤ v2 := by rcases f2 with q | q; rw [q]; exact f1; exact Or.inr (Nat.le_trans K1.1 q)
  refine go_aloadN K H106 d37_33 rfl rfl ?_
  refine go_dup K H106 d37_34 rfl ?_
  refine go_getfield K H106 d37_35 (host := "") (Or.inl (hw _ (List.mem_of_getElem? (i := 80) rfl))) Via.refl (a4) fun T107 HT107 => ?_
  refine go_iloadN K HT107 d37_38 rfl ?_
  refine go_iadd K HT107 d37_39 fun v108 ev108 => ?_
  obtain rfl : v108 = oN (L.length + M.length) := ev108.trans (oN_add _ _)
  refine go_putfield K HT107 d37_40 (host := "") (Or.inl (hw _ (List.mem_of_getElem? (i := 80) rfl))) Via.refl (a4) (a1) (Or.inl (hw _ (List.mem_of_getElem? (i := 81) rfl))) (hw _ (List.mem_of_getElem? (i := 43) rfl)) (ty := .int) (by decide) rfl rfl (g0) fun T109 h109 H109 W109 => ?_
  replace a2 := a2.other W109 (Or.inr (slot_ne (Z := Z) (a0 := a0) (Or.inl (hw _ (List.mem_of_getElem? (i := 67) rfl))) (Or.inl (hw _ (List.mem_of_getElem? (i := 81) rfl))) (by decide) (t := (.array .byte)) (by decide) (t' := .int) (by decide)))
  replace a3 := a3.other W109 (Or.inr (slot_ne (Z := Z) (a0 := a0) (Or.inl (hw _ (List.mem_of_getElem? (i := 69) rfl))) (Or.inl (hw _ (List.mem_of_getElem? (i := 81) rfl))) (by decide) (t := .byte) (by decide) (t' := .int) (by decide)))
  replace a4 := a4.same W109
  replace a5 := a5.other W109 (Or.inr (slot_ne (Z := Z) (a0 := a0) (Or.inl (hw _ (List.mem_of_getElem? (i := 296) rfl))) (Or.inl (hw _ (List.mem_of_getElem? (i := 81) rfl))) (by decide) (t := .boolean) (by decide) (t' := .int) (by decide)))
  refine go_aloadN K H109 d37_43 rfl rfl ?_
  exact go_aret K H109 d37_44 rfl rfl rfl (by decide) (by decide) (⟨rfl, v2, cd, r, g2, f3, ⟨a1.wr W109, a2, a3, (by rw [List.length_append]; exact a4), a5, (by rw [enc_app, List.append_assoc]; exact a6.other W109 nbv.symm), a7.wr W109, a8, by rw [enc_app, List.append_assoc]; exact a9⟩, ((keep_more K1 (fun x q => List.mem_cons.mpr (Or.inl (List.mem_singleton.mp q)))).trans K2 (inS (Or.inl (by simp)) (inS (by rcases f1 with q | q; exact Or.inl (by rw [q]; simp); exact Or.inr q) in0))).wr W109 (Or.inl (by simp))⟩)
set_option maxRecDepth 65536 in
set_option maxHeartbeats 40000000 in
theorem rmAt (Z : State) (a0 : Array Value) (hw : ∀ d ∈ tables_1, d.before a0 Z = true) (b : Addr) (s : Addr) (h0 : Heap) (n0 : Nat) (Z0 : n0 ≤ h0.size) (ss : SSt Z) (X0 : Ext Z.heap h0) (hz : Z.heap.size ≤ n0) (g0 : n0 ≤ b) (v : Addr) (cd : Nat) (L js : List Nat) (B : Sb Z h0 b v cd L js) (gv : n0 ≤ v) (vs : Addr) (M : List Nat) (S : Sx Z h0 s vs 0 M) (nsb : s ≠ b) (nsv : s ≠ v) (nvb : vs ≠ b) (nvv : vs ≠ v) (l14 : L.length + M.length ≤ 14) (lau : Launch) :
    Con lau Z (⟨"java/lang/StringBuilder", "append", "(Ljava/lang/String;)Ljava/lang/StringBuilder;"⟩ : MethodName) jdk_67_method_7_code 2 (some (.object "java/lang/StringBuilder")) ({ frames := 9, cells := 2, slots := 128, locals := 130 } : Room) #[(.ref b), (.ref s)] h0 n0 (RR fun z h => z = .ref b ∧ ∃ v' cd' js', n0 ≤ v' ∧ (v' = v ∨ h0.size ≤ v') ∧ Sb Z h b v' cd' (L ++ M) js' ∧ Keep h0 h [b, v]) := by
  refine con_intro pn38 (L := #[.val (.ref b), .val (.ref s)]) (fun m => by first | (simp [entryFrame, mkF, argsToLocals, Value.category, maxLocals]; done) | rfl) Z0 (fun w T K H => ?_)
  refine go_aloadN K H d38_0 rfl rfl ?_
  refine go_aloadN K H d38_1 rfl rfl ?_
  refine go_callU [(.ref s)] K H d38_2 (B.1) (hw _ (List.mem_of_getElem? (i := 132) rfl)) (nf_cls (y := (⟨"java/lang/AbstractStringBuilder", "isLatin1", "()Z"⟩ : MethodName)) rfl (hw _ (List.mem_of_getElem? (i := 88) rfl)) (nf_sel (hw _ (List.mem_of_getElem? (i := 90) rfl)))) (hw _ (List.mem_of_getElem? (i := 133) rfl)) (hw _ (List.mem_of_getElem? (i := 77) rfl)) (hw _ (List.mem_of_getElem? (i := 62) rfl)) (hw _ (List.mem_of_getElem? (i := 135) rfl)) (st' := []) (by decide) (rmAS Z a0 hw _ _ _ n0 (at_size K H) ss X0 hz g0 v cd L js B gv vs M S nsb nsv nvb nvv l14) pd25 rfl rfl (by decide) rfl (by decide) (W := 0) rfl (by decide) (by decide) (by decide) fun T101 h101 v101 H101 q101 => ?_
  obtain ⟨z101, rfl, hz101, rfl, R⟩ := q101
  show Go _ _ _ 5 #[.val (.ref b), .val (.ref s)] [(.ref b)]
  refine go_pop K H101 d38_5 rfl ?_
  refine go_aloadN K H101 d38_6 rfl rfl ?_
  exact go_aret K H101 d38_7 rfl rfl rfl (by decide) (by decide) (⟨rfl, R⟩)
set_option maxRecDepth 65536 in
set_option maxHeartbeats 40000000 in
theorem rmAB (Z : State) (a0 : Array Value) (hw : ∀ d ∈ tables_1, d.before a0 Z = true) (b : Addr) (h0 : Heap) (n0 : Nat) (Z0 : n0 ≤ h0.size) (ss : SSt Z) (X0 : Ext Z.heap h0) (m : Nat) (hm : m ≤ 4) (w1 w2 : Value) (F1 : Fld Z h0 b "java/lang/AbstractStringBuilder" "value" "[B" w1) (F2 : Fld Z h0 b "java/lang/AbstractStringBuilder" "coder" "B" w2) (F3 : Fld Z h0 b "java/lang/AbstractStringBuilder" "count" "I" (.int 0)) (F4 : Fld Z h0 b "java/lang/AbstractStringBuilder" "maybeLatin1" "Z" (.int 0)) (E0 : Exa Z h0 b "java/lang/StringBuilder") (g0 : n0 ≤ b) (lau : Launch) :
    Con lau Z (⟨"java/lang/AbstractStringBuilder", "<init>", "(I)V"⟩ : MethodName) jdk_68_method_2_code 2 none ({ frames := 1, cells := 1, slots := 4, locals := 12 } : Room) #[(.ref b), (.int (oN m))] h0 n0 (RV fun h => ∃ v, n0 ≤ v ∧ h0.size ≤ v ∧ Sb Z h b v 0 [] (List.replicate m 0) ∧ Keep h0 h [b]) := by
  refine con_intro pn39 (L := #[.val (.ref b), .val (.int (oN m))]) (fun m => by first | (simp [entryFrame, mkF, argsToLocals, Value.category, maxLocals]; done) | rfl) Z0 (fun w T K H => ?_)
  have EE := E0; have KK : Keep h0 h0 [b] := Keep.refl _ _
  refine go_aloadN K H d39_0 rfl rfl ?_
  refine go_initO K H d39_1 (hw _ (List.mem_of_getElem? (i := 64) rfl)) (hw _ (List.mem_of_getElem? (i := 13) rfl)) (hw _ (List.mem_of_getElem? (i := 14) rfl)) rfl (by decide) (W := 0) rfl (by decide) fun T101 HT101 => ?_
  obtain ⟨cs, hcs, S1c⟩ := ss.1
  refine go_getstatic K HT101 d39_4 (host := "") (Or.inl (hw _ (List.mem_of_getElem? (i := 65) rfl))) Via.refl (S1c.ext X0) fun T102 HT102 => ?_
  refine go_if_eq K HT102 d39_7 (fun cc => False.elim (by exact hcs cc)) (fun cc => ?_)
  refine go_aloadN K HT102 d39_10 rfl rfl ?_
  refine go_iloadN K HT102 d39_11 rfl ?_
  refine go_newB (m := m) 4 K HT102 d39_12 (hw _ (List.mem_of_getElem? (i := 20) rfl)) (hm) (by decide) (by decide) (by decide) fun T103 h103 v H103 g103 l103 E103 A103 X103 => ?_
  have nbv : b ≠ v := Nat.ne_of_lt (g103 ▸ E0.lt); have A1 := A103; have AX := X103; have lv := l103; have sv : h0.size ≤ v := Nat.le_of_eq g103.symm
  replace EE := EE.ext E103; replace F1 := F1.ext E103; replace F2 := F2.ext E103; replace F3 := F3.ext E103; replace F4 := F4.ext E103; replace KK := KK.ext E103
  refine go_putfield K H103 d39_14 (host := "") (Or.inl (hw _ (List.mem_of_getElem? (i := 66) rfl))) Via.refl (F1) (EE) (Or.inl (hw _ (List.mem_of_getElem? (i := 67) rfl))) (hw _ (List.mem_of_getElem? (i := 43) rfl)) (ty := (.array .byte)) (by decide) rfl rfl (g0) fun T104 h104 H104 W104 => ?_
  replace F1 := F1.same W104
  replace F2 := F2.other W104 (Or.inr (slot_ne (Z := Z) (a0 := a0) (Or.inl (hw _ (List.mem_of_getElem? (i := 69) rfl))) (Or.inl (hw _ (List.mem_of_getElem? (i := 67) rfl))) (by decide) (t := .byte) (by decide) (t' := (.array .byte)) (by decide)))
  replace F3 := F3.other W104 (Or.inr (slot_ne (Z := Z) (a0 := a0) (Or.inl (hw _ (List.mem_of_getElem? (i := 81) rfl))) (Or.inl (hw _ (List.mem_of_getElem? (i := 67) rfl))) (by decide) (t := .int) (by decide) (t' := (.array .byte)) (by decide)))
  replace F4 := F4.other W104 (Or.inr (slot_ne (Z := Z) (a0 := a0) (Or.inl (hw _ (List.mem_of_getElem? (i := 296) rfl))) (Or.inl (hw _ (List.mem_of_getElem? (i := 67) rfl))) (by decide) (t := .boolean) (by decide) (t' := (.array .byte)) (by decide)))
  replace EE := EE.wr W104; replace A1 := A1.other W104 nbv.symm; replace AX := AX.wr W104; replace KK : Keep h0 h104 [b] := KK.wr W104 (Or.inl (List.mem_singleton.mpr rfl))
  refine go_aloadN K H104 d39_17 rfl rfl ?_
  refine go_iconst (0) K H104 d39_18 (by decide) ?_
  refine go_putfieldN K H104 d39_19 (hw _ (List.mem_of_getElem? (i := 68) rfl)) Via.refl (F2) (EE) (Or.inl (hw _ (List.mem_of_getElem? (i := 69) rfl))) (hw _ (List.mem_of_getElem? (i := 43) rfl)) (ty := .byte) (by decide) (v' := (.int (oN 0))) (rfl) (rfl) (g0) fun T105 h105 H105 W105 => ?_
  replace F1 := F1.other W105 (Or.inr (slot_ne (Z := Z) (a0 := a0) (Or.inl (hw _ (List.mem_of_getElem? (i := 67) rfl))) (Or.inl (hw _ (List.mem_of_getElem? (i := 69) rfl))) (by decide) (t := (.array .byte)) (by decide) (t' := .byte) (by decide)))
  replace F2 := F2.same W105
  replace F3 := F3.other W105 (Or.inr (slot_ne (Z := Z) (a0 := a0) (Or.inl (hw _ (List.mem_of_getElem? (i := 81) rfl))) (Or.inl (hw _ (List.mem_of_getElem? (i := 69) rfl))) (by decide) (t := .int) (by decide) (t' := .byte) (by decide)))
  replace F4 := F4.other W105 (Or.inr (slot_ne (Z := Z) (a0 := a0) (Or.inl (hw _ (List.mem_of_getElem? (i := 296) rfl))) (Or.inl (hw _ (List.mem_of_getElem? (i := 69) rfl))) (by decide) (t := .boolean) (by decide) (t' := .byte) (by decide)))
  replace EE := EE.wr W105; replace A1 := A1.other W105 nbv.symm; replace AX := AX.wr W105; replace KK : Keep h0 h105 [b] := KK.wr W105 (Or.inl (List.mem_singleton.mpr rfl))
  refine go_goto K H105 d39_22 ?_
  exact go_ret K H105 d39_38 rfl (by decide) (by decide) (⟨v, lv, sv, ⟨EE, F1, F2, F3, F4, A1, AX, Or.inl rfl, by rw [enc0, List.nil_append, List.length_replicate]; omega⟩, KK⟩)
set_option maxRecDepth 65536 in
set_option maxHeartbeats 40000000 in
theorem rmBB (Z : State) (a0 : Array Value) (hw : ∀ d ∈ tables_1, d.before a0 Z = true) (b : Addr) (h0 : Heap) (n0 : Nat) (Z0 : n0 ≤ h0.size) (ss : SSt Z) (X0 : Ext Z.heap h0) (m : Nat) (hm : m ≤ 4) (w1 w2 : Value) (F1 : Fld Z h0 b "java/lang/AbstractStringBuilder" "value" "[B" w1) (F2 : Fld Z h0 b "java/lang/AbstractStringBuilder" "coder" "B" w2) (F3 : Fld Z h0 b "java/lang/AbstractStringBuilder" "count" "I" (.int 0)) (F4 : Fld Z h0 b "java/lang/AbstractStringBuilder" "maybeLatin1" "Z" (.int 0)) (E0 : Exa Z h0 b "java/lang/StringBuilder") (g0 : n0 ≤ b) (lau : Launch) :
    Con lau Z (⟨"java/lang/StringBuilder", "<init>", "(I)V"⟩ : MethodName) jdk_67_method_2_code 2 none ({ frames := 2, cells := 1, slots := 4, locals := 25 } : Room) #[(.ref b), (.int (oN m))] h0 n0 (RV fun h => ∃ v, n0 ≤ v ∧ h0.size ≤ v ∧ Sb Z h b v 0 [] (List.replicate m 0) ∧ Keep h0 h [b]) := by
  refine con_intro pn40 (L := #[.val (.ref b), .val (.int (oN m))]) (fun m => by first | (simp [entryFrame, mkF, argsToLocals, Value.category, maxLocals]; done) | rfl) Z0 (fun w T K H => ?_)
  refine go_aloadN K H d40_0 rfl rfl ?_
  refine go_iloadN K H d40_1 rfl ?_
  refine go_callI [(.int (oN m))] K H d40_2 rfl (hw _ (List.mem_of_getElem? (i := 58) rfl)) (hw _ (List.mem_of_getElem? (i := 59) rfl)) (hw _ (List.mem_of_getElem? (i := 62) rfl)) (hw _ (List.mem_of_getElem? (i := 63) rfl)) (st' := []) (by decide) (rmAB Z a0 hw _ _ n0 (at_size K H) ss X0 m hm w1 w2 F1 F2 F3 F4 E0 g0) pd17 rfl rfl rfl (by decide) (W := 0) rfl (by decide) (by decide) (by decide) fun T101 h101 v101 H101 q101 => ?_
  obtain ⟨rfl, v, lv, sv, BB, KK⟩ := q101
  show Go _ _ _ 5 #[.val (.ref b), .val (.int (oN m))] []
  exact go_ret K H101 d40_5 rfl (by decide) (by decide) (⟨v, lv, sv, BB, KK⟩)
set_option maxRecDepth 65536 in
set_option maxHeartbeats 40000000 in
theorem rmGV (Z : State) (a0 : Array Value) (hw : ∀ d ∈ tables_1, d.before a0 Z = true) (b : Addr) (h0 : Heap) (n0 : Nat) (Z0 : n0 ≤ h0.size)  (v : Addr) (cd : Nat) (L js : List Nat) (B : Sb Z h0 b v cd L js) (lau : Launch) :
    Con lau Z (⟨"java/lang/AbstractStringBuilder", "getValue", "()[B"⟩ : MethodName) jdk_68_method_64_code 1 (some (.array .byte)) ({ frames := 0, cells := 0, slots := 0, locals := 0 } : Room) #[(.ref b)] h0 n0 (RR fun z h => z = .ref v ∧ h0 = h) := by
  refine con_intro pn41 (L := #[.val (.ref b)]) (fun m => by first | (simp [entryFrame, mkF, argsToLocals, Value.category, maxLocals]; done) | rfl) Z0 (fun w T K H => ?_)
  refine go_aloadN K H d41_0 rfl rfl ?_
  refine go_getfield K H d41_1 (host := "") (Or.inl (hw _ (List.mem_of_getElem? (i := 66) rfl))) Via.refl (B.2.1) fun T101 HT101 => ?_
  exact go_aret K HT101 d41_4 rfl rfl rfl (by decide) (by decide) (⟨rfl, rfl⟩)
set_option maxRecDepth 65536 in
set_option maxHeartbeats 40000000 in
theorem rmAN (Z : State) (a0 : Array Value) (hw : ∀ d ∈ tables_1, d.before a0 Z = true) (b : Addr) (h0 : Heap) (n0 : Nat) (Z0 : n0 ≤ h0.size)  (v : Addr) (cd : Nat) (L js : List Nat) (B : Sb Z h0 b v cd L js) (lau : Launch) :
    Con lau Z (⟨"java/lang/AbstractStringBuilder", "length", "()I"⟩ : MethodName) jdk_68_method_6_code 1 (some .int) ({ frames := 0, cells := 0, slots := 0, locals := 0 } : Room) #[(.ref b)] h0 n0 (RI fun z h => z = oN L.length ∧ h0 = h) := by
  refine con_intro pn42 (L := #[.val (.ref b)]) (fun m => by first | (simp [entryFrame, mkF, argsToLocals, Value.category, maxLocals]; done) | rfl) Z0 (fun w T K H => ?_)
  refine go_aloadN K H d42_0 rfl rfl ?_
  refine go_getfield K H d42_1 (host := "") (Or.inl (hw _ (List.mem_of_getElem? (i := 80) rfl))) Via.refl (B.2.2.2.1) fun T101 HT101 => ?_
  exact go_iret K HT101 d42_4 rfl (by decide) (by decide) (⟨rfl, rfl⟩)
set_option maxRecDepth 65536 in
set_option maxHeartbeats 40000000 in
theorem rmBN (Z : State) (a0 : Array Value) (hw : ∀ d ∈ tables_1, d.before a0 Z = true) (b : Addr) (h0 : Heap) (n0 : Nat) (Z0 : n0 ≤ h0.size)  (v : Addr) (cd : Nat) (L js : List Nat) (B : Sb Z h0 b v cd L js) (lau : Launch) :
    Con lau Z (⟨"java/lang/StringBuilder", "length", "()I"⟩ : MethodName) jdk_67_method_93_code 1 (some .int) ({ frames := 1, cells := 0, slots := 0, locals := 12 } : Room) #[(.ref b)] h0 n0 (RI fun z h => z = oN L.length ∧ h0 = h) := by
  refine con_intro pn43 (L := #[.val (.ref b)]) (fun m => by first | (simp [entryFrame, mkF, argsToLocals, Value.category, maxLocals]; done) | rfl) Z0 (fun w T K H => ?_)
  refine go_aloadN K H d43_0 rfl rfl ?_
  refine go_callU [] K H d43_1 (B.1) (hw _ (List.mem_of_getElem? (i := 205) rfl)) (nf_cls (y := (⟨"java/lang/AbstractStringBuilder", "isLatin1", "()Z"⟩ : MethodName)) rfl (hw _ (List.mem_of_getElem? (i := 88) rfl)) (nf_sel (hw _ (List.mem_of_getElem? (i := 90) rfl)))) (hw _ (List.mem_of_getElem? (i := 201) rfl)) (hw _ (List.mem_of_getElem? (i := 77) rfl)) (hw _ (List.mem_of_getElem? (i := 62) rfl)) (hw _ (List.mem_of_getElem? (i := 206) rfl)) (st' := []) (by decide) (rmAN Z a0 hw _ _ n0 (at_size K H) v cd L js B) pd23 rfl rfl (by decide) rfl (by decide) (W := 0) rfl (by decide) (by decide) (by decide) fun T101 h101 v101 H101 q101 => ?_
  obtain ⟨z101, rfl, rfl, rfl⟩ := q101
  show Go _ _ _ 4 #[.val (.ref b)] [(.int (oN L.length))]
  exact go_iret K H101 d43_4 rfl (by decide) (by decide) (⟨rfl, rfl⟩)
set_option maxRecDepth 65536 in
set_option maxHeartbeats 40000000 in
theorem rmSI (Z : State) (a0 : Array Value) (hw : ∀ d ∈ tables_1, d.before a0 Z = true) (s : Addr) (b : Addr) (h0 : Heap) (n0 : Nat) (Z0 : n0 ≤ h0.size) (ss : SSt Z) (X0 : Ext Z.heap h0) (v : Addr) (cd : Nat) (L js : List Nat) (B : Sb Z h0 b v cd L js) (w1 w2 : Value) (F1 : Fld Z h0 s "java/lang/String" "value" "[B" w1) (F2 : Fld Z h0 s "java/lang/String" "coder" "B" w2) (E0 : Exa Z h0 s "java/lang/String") (gs : n0 ≤ s) (lau : Launch) :
    Con lau Z (⟨"java/lang/String", "<init>", "(Ljava/lang/AbstractStringBuilder;Ljava/lang/Void;)V"⟩ : MethodName) jdk_42_method_150_code 5 none ({ frames := 3, cells := 1, slots := 64, locals := 57 } : Room) #[(.ref s), (.ref b), .null] h0 n0 (RV fun h => ∃ v2, n0 ≤ v2 ∧ h0.size ≤ v2 ∧ Sx Z h s v2 cd L ∧ Keep h0 h [s]) := by
  refine con_intro pn44 (L := #[.val (.ref s), .val (.ref b), .val .null, .unset, .unset]) (fun m => by first | (simp [entryFrame, mkF, argsToLocals, Value.category, maxLocals]; done) | rfl) Z0 (fun w T K H => ?_)
  have cdd := B.2.2.2.2.2.2.2.1; have le := lenA cdd L js; have mb := B.2.2.2.2.2.2.2.2; have nsb : s ≠ b := Exa.ne E0 B.1 (by decide); have nsv : s ≠ v := Exa.ne E0 (B.2.2.2.2.2.2.1) (by decide)
  refine go_aloadN K H d44_0 rfl rfl ?_
  refine go_initO K H d44_1 (hw _ (List.mem_of_getElem? (i := 12) rfl)) (hw _ (List.mem_of_getElem? (i := 13) rfl)) (hw _ (List.mem_of_getElem? (i := 14) rfl)) rfl (by decide) (W := 0) rfl (by decide) fun T101 HT101 => ?_
  refine go_aloadN K HT101 d44_4 rfl rfl ?_
  refine go_callV [] K HT101 d44_5 (B.1) (hw _ (List.mem_of_getElem? (i := 194) rfl)) (hw _ (List.mem_of_getElem? (i := 195) rfl)) (nf_sel (hw _ (List.mem_of_getElem? (i := 197) rfl))) (hw _ (List.mem_of_getElem? (i := 197) rfl)) (hw _ (List.mem_of_getElem? (i := 196) rfl)) (hw _ (List.mem_of_getElem? (i := 62) rfl)) (hw _ (List.mem_of_getElem? (i := 198) rfl)) (st' := []) (by decide) (rmGV Z a0 hw _ _ n0 (at_size K HT101) v cd L js B) pd26 rfl rfl rfl (by decide) (W := 0) rfl (by decide) (by decide) (by decide) fun T102 h102 v102 H102 q102 => ?_
  obtain ⟨z102, rfl, hz102, rfl, rfl⟩ := q102
  show Go _ _ _ 8 #[.val (.ref s), .val (.ref b), .val .null, .unset, .unset] [(.ref v)]
  refine go_astoreN K H102 d44_8 rfl (L' := #[.val (.ref s), .val (.ref b), .val .null, .val (.ref v), .unset]) rfl ?_
  refine go_aloadN K H102 d44_9 rfl rfl ?_
  refine go_callV [] K H102 d44_10 (B.1) (hw _ (List.mem_of_getElem? (i := 199) rfl)) (hw _ (List.mem_of_getElem? (i := 200) rfl)) (nf_cls (y := (⟨"java/lang/AbstractStringBuilder", "isLatin1", "()Z"⟩ : MethodName)) rfl (hw _ (List.mem_of_getElem? (i := 88) rfl)) (nf_sel (hw _ (List.mem_of_getElem? (i := 90) rfl)))) (hw _ (List.mem_of_getElem? (i := 202) rfl)) (hw _ (List.mem_of_getElem? (i := 203) rfl)) (hw _ (List.mem_of_getElem? (i := 44) rfl)) (hw _ (List.mem_of_getElem? (i := 204) rfl)) (st' := []) (by decide) (rmBN Z a0 hw _ _ n0 (at_size K H102) v cd L js B) pd23 rfl rfl rfl (by decide) (W := 0) rfl (by decide) (by decide) (by decide) fun T103 h103 v103 H103 q103 => ?_
  obtain ⟨z103, rfl, rfl, rfl⟩ := q103
  show Go _ _ _ 13 #[.val (.ref s), .val (.ref b), .val .null, .val (.ref v), .unset] [(.int (oN L.length))]
  refine go_istore K H103 d44_13 (L' := #[.val (.ref s), .val (.ref b), .val .null, .val (.ref v), .val (.int (oN L.length))]) rfl ?_
  refine go_aloadN K H103 d44_15 rfl rfl ?_
  refine go_callV [] K H103 d44_16 (B.1) (hw _ (List.mem_of_getElem? (i := 207) rfl)) (hw _ (List.mem_of_getElem? (i := 88) rfl)) (nf_sel (hw _ (List.mem_of_getElem? (i := 90) rfl))) (hw _ (List.mem_of_getElem? (i := 90) rfl)) (hw _ (List.mem_of_getElem? (i := 89) rfl)) (hw _ (List.mem_of_getElem? (i := 62) rfl)) (hw _ (List.mem_of_getElem? (i := 91) rfl)) (st' := []) (by decide) (rmBL Z a0 hw _ _ n0 (at_size K H103) ss X0 v cd L js B) pd6 rfl rfl rfl (by decide) (W := 0) rfl (by decide) (by decide) (by decide) fun T104 h104 v104 H104 q104 => ?_
  obtain ⟨z104, rfl, rfl, rfl⟩ := q104
  show Go _ _ _ 19 #[.val (.ref s), .val (.ref b), .val .null, .val (.ref v), .val (.int (oN L.length))] [(.int (bI (cd = 0)))]
  refine go_if_eq K H104 d44_19 (fun cc => ?_) (fun cc => ?_)
  · obtain rfl : cd = 1 := cdd.resolve_left (bI_eq0.mp cc)
    obtain ⟨cs, hcs, S1c⟩ := ss.1
    refine go_getstatic K H104 d44_41 (host := "") (Or.inl (hw _ (List.mem_of_getElem? (i := 15) rfl))) Via.refl (S1c.ext X0) fun T105 HT105 => ?_
    refine go_if_eq K HT105 d44_44 (fun cc => False.elim (by exact hcs cc)) (fun cc => ?_)
    refine go_aloadN K HT105 d44_47 rfl rfl ?_
    refine go_getfield K HT105 d44_48 (host := "") (Or.inl (hw _ (List.mem_of_getElem? (i := 295) rfl))) Via.refl (B.2.2.2.2.1) fun T106 HT106 => ?_
    refine go_if_eq K HT106 d44_51 (fun cc => ?_) (fun cc => False.elim (by first | exact absurd cc (by decide) | exact cc (by decide)))
    refine go_aloadN K HT106 d44_79 rfl rfl ?_
    refine go_iconst (1) K HT106 d44_80 (by decide) ?_
    have EE := E0
    refine go_putfieldN K HT106 d44_81 (hw _ (List.mem_of_getElem? (i := 27) rfl)) Via.refl (F2) (EE) (Or.inr ⟨(hw _ (List.mem_of_getElem? (i := 28) rfl)), rfl, rfl⟩) (hw _ (List.mem_of_getElem? (i := 2) rfl)) (ty := .byte) (by decide) (v' := (.int (oN 1))) (rfl) (rfl) (gs) fun T107 h107 H107 W107 => ?_
    replace F2 := F2.same W107; replace F1 := F1.other W107 (Or.inr (slot_ne (Z := Z) (a0 := a0) (Or.inr (hw _ (List.mem_of_getElem? (i := 30) rfl))) (Or.inr (hw _ (List.mem_of_getElem? (i := 28) rfl))) (by decide) (t := (.array .byte)) (by decide) (t' := .byte) (by decide))); replace EE := EE.wr W107; replace B := B.keep (Keep.of_wr W107) (ninS nsb.symm nin0) (ninS nsv.symm nin0)
    refine go_aloadN K H107 d44_84 rfl rfl ?_
    refine go_aloadN K H107 d44_85 rfl rfl ?_
    refine go_iconst (0) K H107 d44_86 (by decide) ?_
    refine go_iload K H107 d44_87 rfl ?_
    refine go_iconst (1) K H107 d44_89 (by decide) ?_
    refine go_ishl K H107 d44_90 fun v108 ev108 => ?_
    obtain rfl : v108 = oN (2 * L.length) := ev108.trans ((oN_shl (k := 1) (by decide) (by omega)).trans (congrArg oN (by omega)))
    refine go_callS [(.ref v), (.int 0), (.int (oN (2 * L.length)))] K H107 d44_91 (hw _ (List.mem_of_getElem? (i := 208) rfl)) (hw _ (List.mem_of_getElem? (i := 209) rfl)) (hw _ (List.mem_of_getElem? (i := 176) rfl)) (hw _ (List.mem_of_getElem? (i := 210) rfl)) (st' := [(.ref s)]) (by decide) (rmCR Z a0 hw _ _ n0 (at_size K H107) _ (B.2.2.2.2.2.1) (2 * L.length) (by omega) (by omega) (B.2.2.2.2.2.2.1)) pd14 rfl rfl rfl (by decide) (W := 1) rfl (by decide) (by decide) (by decide) fun T109 h109 v109 H109 q109 => ?_
    obtain ⟨z109, rfl, hz109, v2, rfl, l2, s2, B2, X2, E2⟩ := q109
    show Go _ _ _ 94 #[.val (.ref s), .val (.ref b), .val .null, .val (.ref v), .val (.int (oN L.length))] [(.ref v2), (.ref s)]
    have q := take_enc cdd L js; rw [show L.length * (1 + 1) = 2 * L.length by omega] at q; rw [q] at B2
    have ns2 : s ≠ v2 := ne_lt EE.lt s2; have KK : Keep h0 h109 [s] := (Keep.of_wr W107).ext E2; replace F1 := F1.ext E2; replace F2 := F2.ext E2; replace EE := EE.ext E2
    refine go_putfield K H109 d44_94 (host := "") (Or.inl (hw _ (List.mem_of_getElem? (i := 29) rfl))) Via.refl (F1) (EE) (Or.inr ⟨(hw _ (List.mem_of_getElem? (i := 30) rfl)), rfl, rfl⟩) (hw _ (List.mem_of_getElem? (i := 2) rfl)) (ty := (.array .byte)) (by decide) rfl rfl (gs) fun T110 h110 H110 W110 => ?_
    exact go_ret K H110 d44_97 rfl (by decide) (by decide) (⟨v2, l2, by rw [← W107.size]; exact s2, ⟨EE.wr W110, F1.same W110, F2.other W110 (Or.inr (slot_ne (Z := Z) (a0 := a0) (Or.inr (hw _ (List.mem_of_getElem? (i := 28) rfl))) (Or.inr (hw _ (List.mem_of_getElem? (i := 30) rfl))) (by decide) (t := .byte) (by decide) (t' := (.array .byte)) (by decide))), B2.other W110 ns2.symm, cdd⟩, KK.wr W110 (Or.inl (List.mem_singleton.mpr rfl))⟩)
  · obtain rfl : cd = 0 := bI_ne0.mp cc
    refine go_aloadN K H104 d44_22 rfl rfl ?_
    refine go_iconst (0) K H104 d44_23 (by decide) ?_
    have EE := E0
    refine go_putfieldN K H104 d44_24 (hw _ (List.mem_of_getElem? (i := 27) rfl)) Via.refl (F2) (EE) (Or.inr ⟨(hw _ (List.mem_of_getElem? (i := 28) rfl)), rfl, rfl⟩) (hw _ (List.mem_of_getElem? (i := 2) rfl)) (ty := .byte) (by decide) (v' := (.int (oN 0))) (rfl) (rfl) (gs) fun T111 h111 H111 W111 => ?_
    replace F2 := F2.same W111; replace F1 := F1.other W111 (Or.inr (slot_ne (Z := Z) (a0 := a0) (Or.inr (hw _ (List.mem_of_getElem? (i := 30) rfl))) (Or.inr (hw _ (List.mem_of_getElem? (i := 28) rfl))) (by decide) (t := (.array .byte)) (by decide) (t' := .byte) (by decide))); replace EE := EE.wr W111; replace B := B.keep (Keep.of_wr W111) (ninS nsb.symm nin0) (ninS nsv.symm nin0)
    refine go_aloadN K H111 d44_27 rfl rfl ?_
    refine go_aloadN K H111 d44_28 rfl rfl ?_
    refine go_iconst (0) K H111 d44_29 (by decide) ?_
    refine go_iload K H111 d44_30 rfl ?_
    refine go_callS [(.ref v), (.int 0), (.int (oN L.length))] K H111 d44_32 (hw _ (List.mem_of_getElem? (i := 208) rfl)) (hw _ (List.mem_of_getElem? (i := 209) rfl)) (hw _ (List.mem_of_getElem? (i := 176) rfl)) (hw _ (List.mem_of_getElem? (i := 210) rfl)) (st' := [(.ref s)]) (by decide) (rmCR Z a0 hw _ _ n0 (at_size K H111) _ (B.2.2.2.2.2.1) (L.length) (by omega) (by omega) (B.2.2.2.2.2.2.1)) pd14 rfl rfl rfl (by decide) (W := 1) rfl (by decide) (by decide) (by decide) fun T112 h112 v112 H112 q112 => ?_
    obtain ⟨z112, rfl, hz112, v2, rfl, l2, s2, B2, X2, E2⟩ := q112
    show Go _ _ _ 35 #[.val (.ref s), .val (.ref b), .val .null, .val (.ref v), .val (.int (oN L.length))] [(.ref v2), (.ref s)]
    have q := take_enc cdd L js; rw [show L.length * (0 + 1) = L.length by omega] at q; rw [q] at B2
    have ns2 : s ≠ v2 := ne_lt EE.lt s2; have KK : Keep h0 h112 [s] := (Keep.of_wr W111).ext E2; replace F1 := F1.ext E2; replace F2 := F2.ext E2; replace EE := EE.ext E2
    refine go_putfield K H112 d44_35 (host := "") (Or.inl (hw _ (List.mem_of_getElem? (i := 29) rfl))) Via.refl (F1) (EE) (Or.inr ⟨(hw _ (List.mem_of_getElem? (i := 30) rfl)), rfl, rfl⟩) (hw _ (List.mem_of_getElem? (i := 2) rfl)) (ty := (.array .byte)) (by decide) rfl rfl (gs) fun T113 h113 H113 W113 => ?_
    refine go_goto K H113 d44_38 ?_
    exact go_ret K H113 d44_97 rfl (by decide) (by decide) (⟨v2, l2, by rw [← W111.size]; exact s2, ⟨EE.wr W113, F1.same W113, F2.other W113 (Or.inr (slot_ne (Z := Z) (a0 := a0) (Or.inr (hw _ (List.mem_of_getElem? (i := 28) rfl))) (Or.inr (hw _ (List.mem_of_getElem? (i := 30) rfl))) (by decide) (t := .byte) (by decide) (t' := (.array .byte)) (by decide))), B2.other W113 ns2.symm, cdd⟩, KK.wr W113 (Or.inl (List.mem_singleton.mpr rfl))⟩)
set_option maxRecDepth 65536 in
set_option maxHeartbeats 40000000 in
theorem rmSJ (Z : State) (a0 : Array Value) (hw : ∀ d ∈ tables_1, d.before a0 Z = true) (s : Addr) (b : Addr) (h0 : Heap) (n0 : Nat) (Z0 : n0 ≤ h0.size) (ss : SSt Z) (X0 : Ext Z.heap h0) (v : Addr) (cd : Nat) (L js : List Nat) (B : Sb Z h0 b v cd L js) (w1 w2 : Value) (F1 : Fld Z h0 s "java/lang/String" "value" "[B" w1) (F2 : Fld Z h0 s "java/lang/String" "coder" "B" w2) (E0 : Exa Z h0 s "java/lang/String") (gs : n0 ≤ s) (lau : Launch) :
    Con lau Z (⟨"java/lang/String", "<init>", "(Ljava/lang/StringBuilder;)V"⟩ : MethodName) jdk_42_method_53_code 2 none ({ frames := 4, cells := 1, slots := 64, locals := 73 } : Room) #[(.ref s), (.ref b)] h0 n0 (RV fun h => ∃ v2, n0 ≤ v2 ∧ h0.size ≤ v2 ∧ Sx Z h s v2 cd L ∧ Keep h0 h [s]) := by
  refine con_intro pn45 (L := #[.val (.ref s), .val (.ref b)]) (fun m => by first | (simp [entryFrame, mkF, argsToLocals, Value.category, maxLocals]; done) | rfl) Z0 (fun w T K H => ?_)
  refine go_aloadN K H d45_0 rfl rfl ?_
  refine go_aloadN K H d45_1 rfl rfl ?_
  refine go_null K H d45_2 ?_
  refine go_callI [(.ref b), .null] K H d45_3 rfl (hw _ (List.mem_of_getElem? (i := 191) rfl)) (hw _ (List.mem_of_getElem? (i := 192) rfl)) (hw _ (List.mem_of_getElem? (i := 3) rfl)) (hw _ (List.mem_of_getElem? (i := 193) rfl)) (st' := []) (by decide) (rmSI Z a0 hw _ _ _ n0 (at_size K H) ss X0 v cd L js B w1 w2 F1 F2 E0 gs) pd27 rfl rfl rfl (by decide) (W := 0) rfl (by decide) (by decide) (by decide) fun T101 h101 v101 H101 q101 => ?_
  obtain ⟨rfl, v2, l2, s2, R, KK⟩ := q101
  show Go _ _ _ 6 #[.val (.ref s), .val (.ref b)] []
  exact go_ret K H101 d45_6 rfl (by decide) (by decide) (⟨v2, l2, s2, R, KK⟩)
set_option maxRecDepth 65536 in
set_option maxHeartbeats 40000000 in
theorem rmTS (Z : State) (a0 : Array Value) (hw : ∀ d ∈ tables_1, d.before a0 Z = true) (b : Addr) (h0 : Heap) (n0 : Nat) (Z0 : n0 ≤ h0.size) (ss : SSt Z) (X0 : Ext Z.heap h0) (v : Addr) (cd : Nat) (L js : List Nat) (B : Sb Z h0 b v cd L js) (lau : Launch) :
    Con lau Z (⟨"java/lang/StringBuilder", "toString", "()Ljava/lang/String;"⟩ : MethodName) jdk_67_method_42_code 1 (some (.object "java/lang/String")) ({ frames := 5, cells := 2, slots := 68, locals := 87 } : Room) #[(.ref b)] h0 n0 (RR fun z h => ∃ s v2 cd, z = .ref s ∧ n0 ≤ s ∧ n0 ≤ v2 ∧ h0.size ≤ s ∧ h0.size ≤ v2 ∧ Sx Z h s v2 cd (L) ∧ Ext h0 h) := by
  refine con_intro pn46 (L := #[.val (.ref b)]) (fun m => by first | (simp [entryFrame, mkF, argsToLocals, Value.category, maxLocals]; done) | rfl) Z0 (fun w T K H => ?_)
  refine go_new K H d46_0 (hw _ (List.mem_of_getElem? (i := 187) rfl)) (hw _ (List.mem_of_getElem? (i := 2) rfl)) (hw _ (List.mem_of_getElem? (i := 3) rfl)) (by decide) (by decide) fun T101 h101 s H101 g101 l101 E101 A101 D101 => ?_
  have hs0 : h0.size ≤ s := Nat.le_of_eq g101.symm; have X1 := ext_trans X0 E101
  refine go_dup K H101 d46_3 rfl ?_
  refine go_aloadN K H101 d46_4 rfl rfl ?_
  refine go_callI [(.ref b)] K H101 d46_5 rfl (hw _ (List.mem_of_getElem? (i := 188) rfl)) (hw _ (List.mem_of_getElem? (i := 189) rfl)) (hw _ (List.mem_of_getElem? (i := 3) rfl)) (hw _ (List.mem_of_getElem? (i := 190) rfl)) (st' := [(.ref s)]) (by decide) (rmSJ Z a0 hw _ _ _ n0 (at_size K H101) ss X1 v cd L js (B.ext E101) _ _ (D101 (Or.inr (hw _ (List.mem_of_getElem? (i := 30) rfl))) (ty := (.array .byte)) (by decide)) (D101 (Or.inr (hw _ (List.mem_of_getElem? (i := 28) rfl))) (ty := .byte) (by decide)) A101 l101) pd28 rfl rfl rfl (by decide) (W := 1) rfl (by decide) (by decide) (by decide) fun T102 h102 v102 H102 q102 => ?_
  obtain ⟨rfl, v2, l2, s2, R, KK⟩ := q102
  show Go _ _ _ 8 #[.val (.ref b)] [(.ref s)]
  exact go_aret K H102 d46_8 rfl rfl rfl (by decide) (by decide) (⟨s, v2, cd, rfl, l101, l2, hs0, Nat.le_trans E101.1 s2, R, ((E101.keep []).trans KK (inS (Or.inr hs0) in0)).toExt⟩)
set_option maxRecDepth 65536 in
set_option maxHeartbeats 40000000 in
theorem rmT1 (Z : State) (a0 : Array Value) (hw : ∀ d ∈ tables_1, d.before a0 Z = true)  (h0 : Heap) (n0 : Nat) (Z0 : n0 ≤ h0.size) (c : Nat) (c8 : c < 256) (lau : Launch) :
    Con lau Z (⟨"java/lang/StringLatin1", "toBytes", "(C)[B"⟩ : MethodName) jdk_43_method_46_code 1 (some (.array .byte)) ({ frames := 0, cells := 1, slots := 1, locals := 0 } : Room) #[(.int (oN c))] h0 n0 (RR fun z h => ∃ a, z = .ref a ∧ n0 ≤ a ∧ h0.size ≤ a ∧ BA Z h a (enc 0 [c]) ∧ Exa Z h a "[B" ∧ Ext h0 h) := by
  refine con_intro pn47 (L := #[.val (.int (oN c))]) (fun m => by first | (simp [entryFrame, mkF, argsToLocals, Value.category, maxLocals]; done) | rfl) Z0 (fun w T K H => ?_)
  refine go_iconst (1) K H d47_0 (by decide) ?_
  refine go_newB (m := 1) 1 K H d47_1 (hw _ (List.mem_of_getElem? (i := 20) rfl)) (by decide) (by decide) (by decide) (by decide) fun T101 h101 a H101 g101 l101 E101 A101 X101 => ?_
  refine go_dup K H101 d47_3 rfl ?_
  refine go_iconst (0) K H101 d47_4 (by decide) ?_
  refine go_iloadN K H101 d47_5 rfl ?_
  refine go_i2b K H101 d47_6 fun v102 ev102 => ?_
  refine go_bS (i := 0) (b := c) K H101 d47_7 (A101) (by decide) (c8) (by have q := f_i2b ev102; rw [oN_toInt (by omega)] at q; omega) (l101) fun T103 h103 H103 W103 B103 => ?_
  exact go_aret K H103 d47_8 rfl rfl rfl (by decide) (by decide) (⟨a, rfl, l101, Nat.le_of_eq g101.symm, B103, X101.wr W103, ((E101.keep []).wr W103 (Or.inr (Nat.le_of_eq g101.symm))).toExt⟩)
set_option maxRecDepth 65536 in
set_option maxHeartbeats 40000000 in
theorem rmT2 (Z : State) (a0 : Array Value) (hw : ∀ d ∈ tables_1, d.before a0 Z = true)  (h0 : Heap) (n0 : Nat) (Z0 : n0 ≤ h0.size) (ss : SSt Z) (X0 : Ext Z.heap h0) (hz : Z.heap.size ≤ n0) (c : Nat) (c6 : c < 65536) (lau : Launch) :
    Con lau Z (⟨"java/lang/StringUTF16", "toBytes", "(C)[B"⟩ : MethodName) jdk_52_method_24_code 2 (some (.array .byte)) ({ frames := 1, cells := 1, slots := 2, locals := 14 } : Room) #[(.int (oN c))] h0 n0 (RR fun z h => ∃ a, z = .ref a ∧ n0 ≤ a ∧ h0.size ≤ a ∧ BA Z h a (enc 1 [c]) ∧ Exa Z h a "[B" ∧ Ext h0 h) := by
  refine con_intro pn48 (L := #[.val (.int (oN c)), .unset]) (fun m => by first | (simp [entryFrame, mkF, argsToLocals, Value.category, maxLocals]; done) | rfl) Z0 (fun w T K H => ?_)
  refine go_iconst (2) K H d48_0 (by decide) ?_
  refine go_newB (m := 2) 2 K H d48_1 (hw _ (List.mem_of_getElem? (i := 20) rfl)) (by decide) (by decide) (by decide) (by decide) fun T101 h101 a H101 g101 l101 E101 A101 X101 => ?_
  have X1 := ext_trans X0 E101
  refine go_astoreN K H101 d48_3 rfl (L' := #[.val (.int (oN c)), .val (.ref a)]) rfl ?_
  refine go_aloadN K H101 d48_4 rfl rfl ?_
  refine go_iconst (0) K H101 d48_5 (by decide) ?_
  refine go_iloadN K H101 d48_6 rfl ?_
  refine go_callS [(.ref a), (.int 0), (.int (oN c))] K H101 d48_7 (hw _ (List.mem_of_getElem? (i := 246) rfl)) (hw _ (List.mem_of_getElem? (i := 247) rfl)) (hw _ (List.mem_of_getElem? (i := 18) rfl)) (hw _ (List.mem_of_getElem? (i := 248) rfl)) (st' := []) (by decide) (rmPU Z a0 hw _ _ n0 (at_size K H101) ss X1 hz l101 _ A101 0 c (by decide) c6) pd7 rfl rfl rfl (by decide) (W := 0) rfl (by decide) (by decide) (by decide) fun T102 h102 v102 H102 q102 => ?_
  obtain ⟨rfl, B1, K1⟩ := q102
  show Go _ _ _ 10 #[.val (.int (oN c)), .val (.ref a)] []
  refine go_aloadN K H102 d48_10 rfl rfl ?_
  exact go_aret K H102 d48_11 rfl rfl rfl (by decide) (by decide) (⟨a, rfl, l101, Nat.le_of_eq g101.symm, B1, X101.keep K1, ((E101.keep []).trans K1 (inS (Or.inr (Nat.le_of_eq g101.symm)) in0)).toExt⟩)
set_option maxRecDepth 65536 in
set_option maxHeartbeats 40000000 in
theorem rmI0 (Z : State) (a0 : Array Value) (hw : ∀ d ∈ tables_1, d.before a0 Z = true) (s : Addr) (v : Addr) (h0 : Heap) (n0 : Nat) (Z0 : n0 ≤ h0.size) (L : List Nat) (B : BA Z h0 v (enc 0 L)) (nsv : s ≠ v) (w1 w2 : Value) (F1 : Fld Z h0 s "java/lang/String" "value" "[B" w1) (F2 : Fld Z h0 s "java/lang/String" "coder" "B" w2) (E0 : Exa Z h0 s "java/lang/String") (gs : n0 ≤ s) (lau : Launch) :
    Con lau Z (⟨"java/lang/String", "<init>", "([BB)V"⟩ : MethodName) jdk_42_method_151_code 3 none ({ frames := 1, cells := 0, slots := 0, locals := 12 } : Room) #[(.ref s), (.ref v), (.int (oN 0))] h0 n0 (RV fun h => Sx Z h s v 0 L ∧ Keep h0 h [s]) := by
  refine con_intro pn49 (L := #[.val (.ref s), .val (.ref v), .val (.int (oN 0))]) (fun m => by first | (simp [entryFrame, mkF, argsToLocals, Value.category, maxLocals]; done) | rfl) Z0 (fun w T K H => ?_)
  have EE := E0; have KK : Keep h0 h0 [s] := Keep.refl _ _
  refine go_aloadN K H d49_0 rfl rfl ?_
  refine go_initO K H d49_1 (hw _ (List.mem_of_getElem? (i := 12) rfl)) (hw _ (List.mem_of_getElem? (i := 13) rfl)) (hw _ (List.mem_of_getElem? (i := 14) rfl)) rfl (by decide) (W := 0) rfl (by decide) fun T101 HT101 => ?_
  refine go_aloadN K HT101 d49_4 rfl rfl ?_
  refine go_aloadN K HT101 d49_5 rfl rfl ?_
  refine go_putfield K HT101 d49_6 (host := "") (Or.inl (hw _ (List.mem_of_getElem? (i := 29) rfl))) Via.refl (F1) (EE) (Or.inr ⟨(hw _ (List.mem_of_getElem? (i := 30) rfl)), rfl, rfl⟩) (hw _ (List.mem_of_getElem? (i := 2) rfl)) (ty := (.array .byte)) (by decide) rfl rfl (gs) fun T102 h102 H102 W102 => ?_
  replace F1 := F1.same W102; replace F2 := F2.other W102 (Or.inr (slot_ne (Z := Z) (a0 := a0) (Or.inr (hw _ (List.mem_of_getElem? (i := 28) rfl))) (Or.inr (hw _ (List.mem_of_getElem? (i := 30) rfl))) (by decide) (t := .byte) (by decide) (t' := (.array .byte)) (by decide))); replace EE := EE.wr W102; replace B := B.other W102 nsv.symm; replace KK : Keep h0 h102 [s] := KK.wr W102 (Or.inl (List.mem_singleton.mpr rfl))
  refine go_aloadN K H102 d49_9 rfl rfl ?_
  refine go_iloadN K H102 d49_10 rfl ?_
  refine go_putfieldN K H102 d49_11 (hw _ (List.mem_of_getElem? (i := 27) rfl)) Via.refl (F2) (EE) (Or.inr ⟨(hw _ (List.mem_of_getElem? (i := 28) rfl)), rfl, rfl⟩) (hw _ (List.mem_of_getElem? (i := 2) rfl)) (ty := .byte) (by decide) (v' := (.int (oN 0))) (rfl) (rfl) (gs) fun T103 h103 H103 W103 => ?_
  exact go_ret K H103 d49_14 rfl (by decide) (by decide) (⟨⟨EE.wr W103, F1.other W103 (Or.inr (slot_ne (Z := Z) (a0 := a0) (Or.inr (hw _ (List.mem_of_getElem? (i := 30) rfl))) (Or.inr (hw _ (List.mem_of_getElem? (i := 28) rfl))) (by decide) (t := (.array .byte)) (by decide) (t' := .byte) (by decide))), F2.same W103, B.other W103 nsv.symm, Or.inl rfl⟩, KK.wr W103 (Or.inl (List.mem_singleton.mpr rfl))⟩)
set_option maxRecDepth 65536 in
set_option maxHeartbeats 40000000 in
theorem rmI1 (Z : State) (a0 : Array Value) (hw : ∀ d ∈ tables_1, d.before a0 Z = true) (s : Addr) (v : Addr) (h0 : Heap) (n0 : Nat) (Z0 : n0 ≤ h0.size) (L : List Nat) (B : BA Z h0 v (enc 1 L)) (nsv : s ≠ v) (w1 w2 : Value) (F1 : Fld Z h0 s "java/lang/String" "value" "[B" w1) (F2 : Fld Z h0 s "java/lang/String" "coder" "B" w2) (E0 : Exa Z h0 s "java/lang/String") (gs : n0 ≤ s) (lau : Launch) :
    Con lau Z (⟨"java/lang/String", "<init>", "([BB)V"⟩ : MethodName) jdk_42_method_151_code 3 none ({ frames := 1, cells := 0, slots := 0, locals := 12 } : Room) #[(.ref s), (.ref v), (.int (oN 1))] h0 n0 (RV fun h => Sx Z h s v 1 L ∧ Keep h0 h [s]) := by
  refine con_intro pn49 (L := #[.val (.ref s), .val (.ref v), .val (.int (oN 1))]) (fun m => by first | (simp [entryFrame, mkF, argsToLocals, Value.category, maxLocals]; done) | rfl) Z0 (fun w T K H => ?_)
  have EE := E0; have KK : Keep h0 h0 [s] := Keep.refl _ _
  refine go_aloadN K H d49_0 rfl rfl ?_
  refine go_initO K H d49_1 (hw _ (List.mem_of_getElem? (i := 12) rfl)) (hw _ (List.mem_of_getElem? (i := 13) rfl)) (hw _ (List.mem_of_getElem? (i := 14) rfl)) rfl (by decide) (W := 0) rfl (by decide) fun T101 HT101 => ?_
  refine go_aloadN K HT101 d49_4 rfl rfl ?_
  refine go_aloadN K HT101 d49_5 rfl rfl ?_
  refine go_putfield K HT101 d49_6 (host := "") (Or.inl (hw _ (List.mem_of_getElem? (i := 29) rfl))) Via.refl (F1) (EE) (Or.inr ⟨(hw _ (List.mem_of_getElem? (i := 30) rfl)), rfl, rfl⟩) (hw _ (List.mem_of_getElem? (i := 2) rfl)) (ty := (.array .byte)) (by decide) rfl rfl (gs) fun T102 h102 H102 W102 => ?_
  replace F1 := F1.same W102; replace F2 := F2.other W102 (Or.inr (slot_ne (Z := Z) (a0 := a0) (Or.inr (hw _ (List.mem_of_getElem? (i := 28) rfl))) (Or.inr (hw _ (List.mem_of_getElem? (i := 30) rfl))) (by decide) (t := .byte) (by decide) (t' := (.array .byte)) (by decide))); replace EE := EE.wr W102; replace B := B.other W102 nsv.symm; replace KK : Keep h0 h102 [s] := KK.wr W102 (Or.inl (List.mem_singleton.mpr rfl))
  refine go_aloadN K H102 d49_9 rfl rfl ?_
  refine go_iloadN K H102 d49_10 rfl ?_
  refine go_putfieldN K H102 d49_11 (hw _ (List.mem_of_getElem? (i := 27) rfl)) Via.refl (F2) (EE) (Or.inr ⟨(hw _ (List.mem_of_getElem? (i := 28) rfl)), rfl, rfl⟩) (hw _ (List.mem_of_getElem? (i := 2) rfl)) (ty := .byte) (by decide) (v' := (.int (oN 1))) (rfl) (rfl) (gs) fun T103 h103 H103 W103 => ?_
  exact go_ret K H103 d49_14 rfl (by decide) (by decide) (⟨⟨EE.wr W103, F1.other W103 (Or.inr (slot_ne (Z := Z) (a0 := a0) (Or.inr (hw _ (List.mem_of_getElem? (i := 30) rfl))) (Or.inr (hw _ (List.mem_of_getElem? (i := 28) rfl))) (by decide) (t := (.array .byte)) (by decide) (t' := .byte) (by decide))), F2.same W103, B.other W103 nsv.symm, Or.inr rfl⟩, KK.wr W103 (Or.inl (List.mem_singleton.mpr rfl))⟩)
set_option maxRecDepth 65536 in
set_option maxHeartbeats 40000000 in
theorem rmVO (Z : State) (a0 : Array Value) (hw : ∀ d ∈ tables_1, d.before a0 Z = true)  (h0 : Heap) (n0 : Nat) (Z0 : n0 ≤ h0.size) (ss : SSt Z) (X0 : Ext Z.heap h0) (hz : Z.heap.size ≤ n0) (c : Nat) (c6 : c < 65536) (lau : Launch) :
    Con lau Z (⟨"java/lang/String", "valueOf", "(C)Ljava/lang/String;"⟩ : MethodName) jdk_42_method_139_code 1 (some (.object "java/lang/String")) ({ frames := 2, cells := 2, slots := 6, locals := 29 } : Room) #[(.int (oN c))] h0 n0 (RR fun z h => ∃ s v2 cd, z = .ref s ∧ n0 ≤ s ∧ n0 ≤ v2 ∧ h0.size ≤ s ∧ h0.size ≤ v2 ∧ Sx Z h s v2 cd ([c]) ∧ Ext h0 h) := by
  refine con_intro pn50 (L := #[.val (.int (oN c))]) (fun m => by first | (simp [entryFrame, mkF, argsToLocals, Value.category, maxLocals]; done) | rfl) Z0 (fun w T K H => ?_)
  obtain ⟨cs, hcs, S1c⟩ := ss.1
  refine go_getstatic K H d50_0 (host := "") (Or.inl (hw _ (List.mem_of_getElem? (i := 15) rfl))) Via.refl (S1c.ext X0) fun T101 HT101 => ?_
  refine go_if_eq K HT101 d50_3 (fun cc => False.elim (by exact hcs cc)) (fun cc => ?_)
  refine go_iloadN K HT101 d50_6 rfl ?_
  refine go_callS [(.int (oN c))] K HT101 d50_7 (hw _ (List.mem_of_getElem? (i := 235) rfl)) (hw _ (List.mem_of_getElem? (i := 93) rfl)) (hw _ (List.mem_of_getElem? (i := 94) rfl)) (hw _ (List.mem_of_getElem? (i := 95) rfl)) (st' := []) (by decide) (rmCE Z a0 hw _ n0 (at_size K HT101) c c6) pd19 rfl rfl rfl (by decide) (W := 0) rfl (by decide) (by decide) (by decide) fun T102 h102 v102 H102 q102 => ?_
  obtain ⟨z102, rfl, rfl, rfl⟩ := q102
  show Go _ _ _ 10 #[.val (.int (oN c))] [(.int (bI (c < 256)))]
  refine go_if_eq K H102 d50_10 (fun cc => ?_) (fun cc => ?_)
  · have c8 : ¬ c < 256 := bI_eq0.mp cc
    refine go_new K H102 d50_26 (hw _ (List.mem_of_getElem? (i := 236) rfl)) (hw _ (List.mem_of_getElem? (i := 2) rfl)) (hw _ (List.mem_of_getElem? (i := 3) rfl)) (by decide) (by decide) fun T103 h103 s H103 g103 l103 E103 A103 D103 => ?_
    have hs0 : h0.size ≤ s := Nat.le_of_eq g103.symm; have X1 := ext_trans X0 E103
    refine go_dup K H103 d50_29 rfl ?_
    refine go_iloadN K H103 d50_30 rfl ?_
    refine go_callS [(.int (oN c))] K H103 d50_31 (hw _ (List.mem_of_getElem? (i := 243) rfl)) (hw _ (List.mem_of_getElem? (i := 244) rfl)) (hw _ (List.mem_of_getElem? (i := 18) rfl)) (hw _ (List.mem_of_getElem? (i := 245) rfl)) (st' := [(.ref s), (.ref s)]) (by decide) (rmT2 Z a0 hw _ n0 (at_size K H103) ss X1 hz c c6) pd29 rfl rfl rfl (by decide) (W := 2) rfl (by decide) (by decide) (by decide) fun T104 h104 v104 H104 q104 => ?_
    obtain ⟨z104, rfl, hz104, v, rfl, lv, sv, B, BX, E2⟩ := q104
    show Go _ _ _ 34 #[.val (.int (oN c))] [(.ref v), (.ref s), (.ref s)]
    have nsv : s ≠ v := ne_lt A103.lt sv
    refine go_iconst (1) K H104 d50_34 (by decide) ?_
    refine go_callI [(.ref v), (.int 1)] K H104 d50_35 rfl (hw _ (List.mem_of_getElem? (i := 240) rfl)) (hw _ (List.mem_of_getElem? (i := 241) rfl)) (hw _ (List.mem_of_getElem? (i := 3) rfl)) (hw _ (List.mem_of_getElem? (i := 242) rfl)) (st' := [(.ref s)]) (by decide) (rmI1 Z a0 hw _ _ _ n0 (at_size K H104) [c] B nsv _ _ ((D103 (Or.inr (hw _ (List.mem_of_getElem? (i := 30) rfl))) (ty := (.array .byte)) (by decide)).ext E2) ((D103 (Or.inr (hw _ (List.mem_of_getElem? (i := 28) rfl))) (ty := .byte) (by decide)).ext E2) (A103.ext E2) l103) pd30 rfl rfl rfl (by decide) (W := 1) rfl (by decide) (by decide) (by decide) fun T105 h105 v105 H105 q105 => ?_
    obtain ⟨rfl, R, KK⟩ := q105
    show Go _ _ _ 38 #[.val (.int (oN c))] [(.ref s)]
    exact go_aret K H105 d50_38 rfl rfl rfl (by decide) (by decide) (⟨s, v, 1, rfl, l103, lv, hs0, Nat.le_trans E103.1 sv, R, (((E103.keep []).ext E2).trans KK (inS (Or.inr hs0) in0)).toExt⟩)
  · have c8 : c < 256 := bI_ne0.mp cc
    refine go_new K H102 d50_13 (hw _ (List.mem_of_getElem? (i := 236) rfl)) (hw _ (List.mem_of_getElem? (i := 2) rfl)) (hw _ (List.mem_of_getElem? (i := 3) rfl)) (by decide) (by decide) fun T106 h106 s H106 g106 l106 E106 A106 D106 => ?_
    have hs0 : h0.size ≤ s := Nat.le_of_eq g106.symm; have X1 := ext_trans X0 E106
    refine go_dup K H106 d50_16 rfl ?_
    refine go_iloadN K H106 d50_17 rfl ?_
    refine go_callS [(.int (oN c))] K H106 d50_18 (hw _ (List.mem_of_getElem? (i := 237) rfl)) (hw _ (List.mem_of_getElem? (i := 238) rfl)) (hw _ (List.mem_of_getElem? (i := 94) rfl)) (hw _ (List.mem_of_getElem? (i := 239) rfl)) (st' := [(.ref s), (.ref s)]) (by decide) (rmT1 Z a0 hw _ n0 (at_size K H106) c c8) pd29 rfl rfl rfl (by decide) (W := 2) rfl (by decide) (by decide) (by decide) fun T107 h107 v107 H107 q107 => ?_
    obtain ⟨z107, rfl, hz107, v, rfl, lv, sv, B, BX, E2⟩ := q107
    show Go _ _ _ 21 #[.val (.int (oN c))] [(.ref v), (.ref s), (.ref s)]
    have nsv : s ≠ v := ne_lt A106.lt sv
    refine go_iconst (0) K H107 d50_21 (by decide) ?_
    refine go_callI [(.ref v), (.int 0)] K H107 d50_22 rfl (hw _ (List.mem_of_getElem? (i := 240) rfl)) (hw _ (List.mem_of_getElem? (i := 241) rfl)) (hw _ (List.mem_of_getElem? (i := 3) rfl)) (hw _ (List.mem_of_getElem? (i := 242) rfl)) (st' := [(.ref s)]) (by decide) (rmI0 Z a0 hw _ _ _ n0 (at_size K H107) [c] B nsv _ _ ((D106 (Or.inr (hw _ (List.mem_of_getElem? (i := 30) rfl))) (ty := (.array .byte)) (by decide)).ext E2) ((D106 (Or.inr (hw _ (List.mem_of_getElem? (i := 28) rfl))) (ty := .byte) (by decide)).ext E2) (A106.ext E2) l106) pd30 rfl rfl rfl (by decide) (W := 1) rfl (by decide) (by decide) (by decide) fun T108 h108 v108 H108 q108 => ?_
    obtain ⟨rfl, R, KK⟩ := q108
    show Go _ _ _ 25 #[.val (.int (oN c))] [(.ref s)]
    exact go_aret K H108 d50_25 rfl rfl rfl (by decide) (by decide) (⟨s, v, 0, rfl, l106, lv, hs0, Nat.le_trans E106.1 sv, R, (((E106.keep []).ext E2).trans KK (inS (Or.inr hs0) in0)).toExt⟩)
set_option maxRecDepth 65536 in
set_option maxHeartbeats 40000000 in
theorem rmC5 (Z : State) (a0 : Array Value) (hw : ∀ d ∈ tables_1, d.before a0 Z = true) (e : Addr) (d : Addr) (h0 : Heap) (n0 : Nat) (Z0 : n0 ≤ h0.size) (x0 x1 : Nat) (k0 : x0 < 65536) (k1 : x1 < 65536) (A : CA Z h0 e [x0, x1]) (B : BA Z h0 d [0, 0]) (ned : e ≠ d) (gd : n0 ≤ d) (lau : Launch) :
    Con lau Z (⟨"java/lang/StringUTF16", "compress", "([CI[BII)I"⟩ : MethodName) jdk_52_method_21_code 7 (some .int) ({ frames := 0, cells := 0, slots := 0, locals := 0 } : Room) #[(.ref e), (.int (oN 0)), (.ref d), (.int (oN 0)), (.int (oN 2))] h0 n0 (RI fun z h => Keep h0 h [d] ∧ ((z = oN 2 ∧ x0 < 256 ∧ x1 < 256 ∧ BA Z h d (enc 0 [x0, x1])) ∨ (∃ j c, j < 2 ∧ z = oN j ∧ [x0, x1][j]? = some c ∧ 255 < c))) := by
  refine con_intro pn51 (L := #[.val (.ref e), .val (.int (oN 0)), .val (.ref d), .val (.int (oN 0)), .val (.int (oN 2)), .unset, .unset]) (fun m => by first | (simp [entryFrame, mkF, argsToLocals, Value.category, maxLocals]; done) | rfl) Z0 (fun w T K H => ?_)
  have KK : Keep h0 h0 [d] := Keep.refl _ _
  refine go_iconst (0) K H d51_0 (by decide) ?_
  refine go_istore K H d51_1 (L' := #[.val (.ref e), .val (.int (oN 0)), .val (.ref d), .val (.int (oN 0)), .val (.int (oN 2)), .val (.int 0), .unset]) rfl ?_
  refine go_iload K H d51_3 rfl ?_
  refine go_iload K H d51_5 rfl ?_
  refine go_icmp_ge K H d51_7 (fun c0 => False.elim (by (try simp (disch := omega) only [oN_toInt, Int32.lt_iff_toInt_lt, Int32.le_iff_toInt_le, ← Int32.toInt_inj, Int32.reduceToInt, ne_eq] at c0); omega)) (fun c0 => ?_)
  refine go_aloadN K H d51_10 rfl rfl ?_
  refine go_iloadN K H d51_11 rfl ?_
  refine go_cL (i := 0) K H d51_12 (A) (rfl) ?_
  refine go_istore K H d51_13 (L' := #[.val (.ref e), .val (.int (oN 0)), .val (.ref d), .val (.int (oN 0)), .val (.int (oN 2)), .val (.int 0), .val (.int (oN (x0)))]) rfl ?_
  refine go_iload K H d51_15 rfl ?_
  refine go_sipush (255) K H d51_17 (by decide) ?_
  refine go_icmp_le K H d51_20 (fun e0 => ?_) (fun e0 => ?_)
  · have y0 : x0 < 256 := by (try simp (disch := omega) only [oN_toInt, Int32.lt_iff_toInt_lt, Int32.le_iff_toInt_le, ← Int32.toInt_inj, Int32.reduceToInt, ne_eq] at e0); omega
    refine go_aloadN K H d51_26 rfl rfl ?_
    refine go_iloadN K H d51_27 rfl ?_
    refine go_iload K H d51_28 rfl ?_
    refine go_i2b K H d51_30 fun v101 ev101 => ?_
    refine go_bS (i := 0) (b := x0) K H d51_31 (B) (by simp) (y0) (by have q := f_i2b ev101; rw [oN_toInt (by omega)] at q; omega) (gd) fun T102 h102 H102 W102 B102 => ?_
    replace KK : Keep h0 h102 [d] := KK.wr W102 (Or.inl (List.mem_singleton.mpr rfl)); have A102 := CA.other (A) W102 ned
    obtain ⟨v103, ev103⟩ : ∃ z : Int32, z = (oN 0) + Int32.ofInt (1) := ⟨_, rfl⟩
    refine go_iinc K H102 d51_32 rfl ev103 (L' := #[.val (.ref e), .val (.int v103), .val (.ref d), .val (.int (oN 0)), .val (.int (oN 2)), .val (.int 0), .val (.int (oN (x0)))]) rfl ?_
    obtain rfl : v103 = oN (1) := ev103.trans (oN_inc 0)
    obtain ⟨v104, ev104⟩ : ∃ z : Int32, z = (oN 0) + Int32.ofInt (1) := ⟨_, rfl⟩
    refine go_iinc K H102 d51_35 rfl ev104 (L' := #[.val (.ref e), .val (.int (oN (1))), .val (.ref d), .val (.int v104), .val (.int (oN 2)), .val (.int 0), .val (.int (oN (x0)))]) rfl ?_
    obtain rfl : v104 = oN (1) := ev104.trans (oN_inc 0)
    refine go_iinc K H102 d51_38 rfl (z := 1) (by decide) (L' := #[.val (.ref e), .val (.int (oN (1))), .val (.ref d), .val (.int (oN (1))), .val (.int (oN 2)), .val (.int 1), .val (.int (oN (x0)))]) rfl ?_
    refine go_goto K H102 d51_41 ?_
    refine go_iload K H102 d51_3 rfl ?_
    refine go_iload K H102 d51_5 rfl ?_
    refine go_icmp_ge K H102 d51_7 (fun c1 => False.elim (by (try simp (disch := omega) only [oN_toInt, Int32.lt_iff_toInt_lt, Int32.le_iff_toInt_le, ← Int32.toInt_inj, Int32.reduceToInt, ne_eq] at c1); omega)) (fun c1 => ?_)
    refine go_aloadN K H102 d51_10 rfl rfl ?_
    refine go_iloadN K H102 d51_11 rfl ?_
    refine go_cL (i := 1) K H102 d51_12 (A102) (rfl) ?_
    refine go_istore K H102 d51_13 (L' := #[.val (.ref e), .val (.int (oN (1))), .val (.ref d), .val (.int (oN (1))), .val (.int (oN 2)), .val (.int 1), .val (.int (oN (x1)))]) rfl ?_
    refine go_iload K H102 d51_15 rfl ?_
    refine go_sipush (255) K H102 d51_17 (by decide) ?_
    refine go_icmp_le K H102 d51_20 (fun e1 => ?_) (fun e1 => ?_)
    · have y1 : x1 < 256 := by (try simp (disch := omega) only [oN_toInt, Int32.lt_iff_toInt_lt, Int32.le_iff_toInt_le, ← Int32.toInt_inj, Int32.reduceToInt, ne_eq] at e1); omega
      refine go_aloadN K H102 d51_26 rfl rfl ?_
      refine go_iloadN K H102 d51_27 rfl ?_
      refine go_iload K H102 d51_28 rfl ?_
      refine go_i2b K H102 d51_30 fun v105 ev105 => ?_
      refine go_bS (i := 1) (b := x1) K H102 d51_31 (B102) (by simp) (y1) (by have q := f_i2b ev105; rw [oN_toInt (by omega)] at q; omega) (gd) fun T106 h106 H106 W106 B106 => ?_
      replace KK : Keep h0 h106 [d] := KK.wr W106 (Or.inl (List.mem_singleton.mpr rfl)); have A106 := CA.other (A102) W106 ned
      obtain ⟨v107, ev107⟩ : ∃ z : Int32, z = (oN (1)) + Int32.ofInt (1) := ⟨_, rfl⟩
      refine go_iinc K H106 d51_32 rfl ev107 (L' := #[.val (.ref e), .val (.int v107), .val (.ref d), .val (.int (oN (1))), .val (.int (oN 2)), .val (.int 1), .val (.int (oN (x1)))]) rfl ?_
      obtain rfl : v107 = oN (2) := ev107.trans (oN_inc 1)
      obtain ⟨v108, ev108⟩ : ∃ z : Int32, z = (oN (1)) + Int32.ofInt (1) := ⟨_, rfl⟩
      refine go_iinc K H106 d51_35 rfl ev108 (L' := #[.val (.ref e), .val (.int (oN (2))), .val (.ref d), .val (.int v108), .val (.int (oN 2)), .val (.int 1), .val (.int (oN (x1)))]) rfl ?_
      obtain rfl : v108 = oN (2) := ev108.trans (oN_inc 1)
      refine go_iinc K H106 d51_38 rfl (z := 2) (by decide) (L' := #[.val (.ref e), .val (.int (oN (2))), .val (.ref d), .val (.int (oN (2))), .val (.int (oN 2)), .val (.int 2), .val (.int (oN (x1)))]) rfl ?_
      refine go_goto K H106 d51_41 ?_
      refine go_iload K H106 d51_3 rfl ?_
      refine go_iload K H106 d51_5 rfl ?_
      refine go_icmp_ge K H106 d51_7 (fun c2 => ?_) (fun c2 => False.elim (by (try simp (disch := omega) only [oN_toInt, Int32.lt_iff_toInt_lt, Int32.le_iff_toInt_le, ← Int32.toInt_inj, Int32.reduceToInt, ne_eq] at c2); omega))
      refine go_iload K H106 d51_44 rfl ?_
      exact go_iret K H106 d51_46 rfl (by decide) (by decide) (⟨KK, Or.inl ⟨rfl, by omega, by omega, B106⟩⟩)
    · have y1 : 255 < x1 := by (try simp (disch := omega) only [oN_toInt, Int32.lt_iff_toInt_lt, Int32.le_iff_toInt_le, ← Int32.toInt_inj, Int32.reduceToInt, ne_eq] at e1); omega
      refine go_iload K H102 d51_23 rfl ?_
      exact go_iret K H102 d51_25 rfl (by decide) (by decide) (⟨KK, Or.inr ⟨1, x1, by decide, rfl, rfl, y1⟩⟩)
  · have y0 : 255 < x0 := by (try simp (disch := omega) only [oN_toInt, Int32.lt_iff_toInt_lt, Int32.le_iff_toInt_le, ← Int32.toInt_inj, Int32.reduceToInt, ne_eq] at e0); omega
    refine go_iload K H d51_23 rfl ?_
    exact go_iret K H d51_25 rfl (by decide) (by decide) (⟨KK, Or.inr ⟨0, x0, by decide, rfl, rfl, y0⟩⟩)
set_option maxRecDepth 65536 in
set_option maxHeartbeats 40000000 in
theorem rmTB (Z : State) (a0 : Array Value) (hw : ∀ d ∈ tables_1, d.before a0 Z = true) (e : Addr) (h0 : Heap) (n0 : Nat) (Z0 : n0 ≤ h0.size) (ss : SSt Z) (X0 : Ext Z.heap h0) (hz : Z.heap.size ≤ n0) (x0 x1 : Nat) (k0 : x0 < 65536) (k1 : x1 < 65536) (A : CA Z h0 e [x0, x1]) (lau : Launch) :
    Con lau Z (⟨"java/lang/StringUTF16", "toBytes", "([CII)[B"⟩ : MethodName) jdk_52_method_14_code 5 (some (.array .byte)) ({ frames := 2, cells := 1, slots := 64, locals := 24 } : Room) #[(.ref e), (.int (oN 0)), (.int (oN 2))] h0 n0 (RR fun z h => ∃ a, z = .ref a ∧ n0 ≤ a ∧ h0.size ≤ a ∧ BA Z h a (enc 1 [x0, x1]) ∧ Exa Z h a "[B" ∧ Ext h0 h) := by
  refine con_intro pn52 (L := #[.val (.ref e), .val (.int (oN 0)), .val (.int (oN 2)), .unset, .unset]) (fun m => by first | (simp [entryFrame, mkF, argsToLocals, Value.category, maxLocals]; done) | rfl) Z0 (fun w T K H => ?_)
  refine go_iloadN K H d52_0 rfl ?_
  refine go_callS [(.int (oN 2))] K H d52_1 (hw _ (List.mem_of_getElem? (i := 300) rfl)) (hw _ (List.mem_of_getElem? (i := 271) rfl)) (hw _ (List.mem_of_getElem? (i := 18) rfl)) (hw _ (List.mem_of_getElem? (i := 272) rfl)) (st' := []) (by decide) (rmNB Z a0 hw _ n0 (at_size K H) 2 (by decide)) pd16 rfl rfl rfl (by decide) (W := 0) rfl (by decide) (by decide) (by decide) fun T101 h101 v101 H101 q101 => ?_
  obtain ⟨z101, rfl, hz101, a, rfl, la, sa, B0, BX, E1⟩ := q101
  show Go _ _ _ 4 #[.val (.ref e), .val (.int (oN 0)), .val (.int (oN 2)), .unset, .unset] [(.ref a)]
  have nea : e ≠ a := ne_lt A.lt sa; replace A := A.ext E1; have X1 := ext_trans X0 E1; have KK : Keep h0 h101 [] := E1.keep []
  refine go_astoreN K H101 d52_4 rfl (L' := #[.val (.ref e), .val (.int (oN 0)), .val (.int (oN 2)), .val (.ref a), .unset]) rfl ?_
  refine go_iconst (0) K H101 d52_5 (by decide) ?_
  refine go_istore K H101 d52_6 (L' := #[.val (.ref e), .val (.int (oN 0)), .val (.int (oN 2)), .val (.ref a), .val (.int 0)]) rfl ?_
  refine go_iload K H101 d52_8 rfl ?_
  refine go_iloadN K H101 d52_10 rfl ?_
  refine go_icmp_ge K H101 d52_11 (fun c0 => False.elim (by (try simp (disch := omega) only [oN_toInt, Int32.lt_iff_toInt_lt, Int32.le_iff_toInt_le, ← Int32.toInt_inj, Int32.reduceToInt, ne_eq] at c0); omega)) (fun c0 => ?_)
  refine go_aloadN K H101 d52_14 rfl rfl ?_
  refine go_iload K H101 d52_15 rfl ?_
  refine go_aloadN K H101 d52_17 rfl rfl ?_
  refine go_iloadN K H101 d52_18 rfl ?_
  refine go_cL (i := 0) K H101 d52_19 (A) (rfl) ?_
  refine go_callS [(.ref a), (.int 0), (.int (oN (x0)))] K H101 d52_20 (hw _ (List.mem_of_getElem? (i := 246) rfl)) (hw _ (List.mem_of_getElem? (i := 247) rfl)) (hw _ (List.mem_of_getElem? (i := 18) rfl)) (hw _ (List.mem_of_getElem? (i := 248) rfl)) (st' := []) (by decide) (rmPU Z a0 hw _ _ n0 (at_size K H101) ss X1 hz la _ B0 0 x0 (by simp) k0) pd7 rfl rfl rfl (by decide) (W := 0) rfl (by decide) (by decide) (by decide) fun T102 h102 v102 H102 q102 => ?_
  obtain ⟨rfl, P0, K0⟩ := q102
  show Go _ _ _ 23 #[.val (.ref e), .val (.int (oN 0)), .val (.int (oN 2)), .val (.ref a), .val (.int 0)] []
  replace A := A.keep K0 (ninS nea nin0); replace X1 := ext_keep X1 K0 (allS (Nat.le_trans hz la) all0); replace BX := BX.keep K0; replace KK := KK.trans K0 (inS (Or.inr sa) in0)
  obtain ⟨v103, ev103⟩ : ∃ z : Int32, z = (oN 0) + Int32.ofInt (1) := ⟨_, rfl⟩
  refine go_iinc K H102 d52_23 rfl ev103 (L' := #[.val (.ref e), .val (.int v103), .val (.int (oN 2)), .val (.ref a), .val (.int 0)]) rfl ?_
  obtain rfl : v103 = oN (1) := ev103.trans (oN_inc 0)
  refine go_iinc K H102 d52_26 rfl (z := 1) (by decide) (L' := #[.val (.ref e), .val (.int (oN (1))), .val (.int (oN 2)), .val (.ref a), .val (.int 1)]) rfl ?_
  refine go_goto K H102 d52_29 ?_
  refine go_iload K H102 d52_8 rfl ?_
  refine go_iloadN K H102 d52_10 rfl ?_
  refine go_icmp_ge K H102 d52_11 (fun c1 => False.elim (by (try simp (disch := omega) only [oN_toInt, Int32.lt_iff_toInt_lt, Int32.le_iff_toInt_le, ← Int32.toInt_inj, Int32.reduceToInt, ne_eq] at c1); omega)) (fun c1 => ?_)
  refine go_aloadN K H102 d52_14 rfl rfl ?_
  refine go_iload K H102 d52_15 rfl ?_
  refine go_aloadN K H102 d52_17 rfl rfl ?_
  refine go_iloadN K H102 d52_18 rfl ?_
  refine go_cL (i := 1) K H102 d52_19 (A) (rfl) ?_
  refine go_callS [(.ref a), (.int 1), (.int (oN (x1)))] K H102 d52_20 (hw _ (List.mem_of_getElem? (i := 246) rfl)) (hw _ (List.mem_of_getElem? (i := 247) rfl)) (hw _ (List.mem_of_getElem? (i := 18) rfl)) (hw _ (List.mem_of_getElem? (i := 248) rfl)) (st' := []) (by decide) (rmPU Z a0 hw _ _ n0 (at_size K H102) ss X1 hz la _ P0 1 x1 (by simp) k1) pd7 rfl rfl rfl (by decide) (W := 0) rfl (by decide) (by decide) (by decide) fun T104 h104 v104 H104 q104 => ?_
  obtain ⟨rfl, P1, K1⟩ := q104
  show Go _ _ _ 23 #[.val (.ref e), .val (.int (oN (1))), .val (.int (oN 2)), .val (.ref a), .val (.int 1)] []
  replace A := A.keep K1 (ninS nea nin0); replace X1 := ext_keep X1 K1 (allS (Nat.le_trans hz la) all0); replace BX := BX.keep K1; replace KK := KK.trans K1 (inS (Or.inr sa) in0)
  obtain ⟨v105, ev105⟩ : ∃ z : Int32, z = (oN (1)) + Int32.ofInt (1) := ⟨_, rfl⟩
  refine go_iinc K H104 d52_23 rfl ev105 (L' := #[.val (.ref e), .val (.int v105), .val (.int (oN 2)), .val (.ref a), .val (.int 1)]) rfl ?_
  obtain rfl : v105 = oN (2) := ev105.trans (oN_inc 1)
  refine go_iinc K H104 d52_26 rfl (z := 2) (by decide) (L' := #[.val (.ref e), .val (.int (oN (2))), .val (.int (oN 2)), .val (.ref a), .val (.int 2)]) rfl ?_
  refine go_goto K H104 d52_29 ?_
  refine go_iload K H104 d52_8 rfl ?_
  refine go_iloadN K H104 d52_10 rfl ?_
  refine go_icmp_ge K H104 d52_11 (fun c2 => ?_) (fun c2 => False.elim (by (try simp (disch := omega) only [oN_toInt, Int32.lt_iff_toInt_lt, Int32.le_iff_toInt_le, ← Int32.toInt_inj, Int32.reduceToInt, ne_eq] at c2); omega))
  refine go_aloadN K H104 d52_32 rfl rfl ?_
  exact go_aret K H104 d52_33 rfl rfl rfl (by decide) (by decide) (⟨a, rfl, la, sa, P1, BX, KK.toExt⟩)
set_option maxRecDepth 65536 in
set_option maxHeartbeats 40000000 in
theorem rmC3 (Z : State) (a0 : Array Value) (hw : ∀ d ∈ tables_1, d.before a0 Z = true) (e : Addr) (h0 : Heap) (n0 : Nat) (Z0 : n0 ≤ h0.size) (ss : SSt Z) (X0 : Ext Z.heap h0) (hz : Z.heap.size ≤ n0) (x0 x1 : Nat) (k0 : x0 < 65536) (k1 : x1 < 65536) (A : CA Z h0 e [x0, x1]) (lau : Launch) :
    Con lau Z (⟨"java/lang/StringUTF16", "compress", "([CII)[B"⟩ : MethodName) jdk_52_method_16_code 6 (some (.array .byte)) ({ frames := 3, cells := 2, slots := 66, locals := 40 } : Room) #[(.ref e), (.int (oN 0)), (.int (oN 2))] h0 n0 (RR fun z h => ∃ a cd, z = .ref a ∧ n0 ≤ a ∧ h0.size ≤ a ∧ BA Z h a (enc cd [x0, x1]) ∧ (cd = 0 ∨ cd = 1) ∧ Ext h0 h) := by
  refine con_intro pn53 (L := #[.val (.ref e), .val (.int (oN 0)), .val (.int (oN 2)), .unset, .unset, .unset]) (fun m => by first | (simp [entryFrame, mkF, argsToLocals, Value.category, maxLocals]; done) | rfl) Z0 (fun w T K H => ?_)
  refine go_iloadN K H d53_0 rfl ?_
  refine go_newB (m := 2) 2 K H d53_1 (hw _ (List.mem_of_getElem? (i := 20) rfl)) (by decide) (by decide) (by decide) (by decide) fun T101 h101 d H101 g101 l101 E101 A101 X101 => ?_
  have ned : e ≠ d := Nat.ne_of_lt (g101 ▸ A.lt); replace A := A.ext E101; have X1 := ext_trans X0 E101; have sd : h0.size ≤ d := Nat.le_of_eq g101.symm
  refine go_astoreN K H101 d53_3 rfl (L' := #[.val (.ref e), .val (.int (oN 0)), .val (.int (oN 2)), .val (.ref d), .unset, .unset]) rfl ?_
  refine go_aloadN K H101 d53_4 rfl rfl ?_
  refine go_iloadN K H101 d53_5 rfl ?_
  refine go_aloadN K H101 d53_6 rfl rfl ?_
  refine go_iconst (0) K H101 d53_7 (by decide) ?_
  refine go_iloadN K H101 d53_8 rfl ?_
  refine go_callS [(.ref e), (.int (oN 0)), (.ref d), (.int 0), (.int (oN 2))] K H101 d53_9 (hw _ (List.mem_of_getElem? (i := 21) rfl)) (hw _ (List.mem_of_getElem? (i := 22) rfl)) (hw _ (List.mem_of_getElem? (i := 18) rfl)) (hw _ (List.mem_of_getElem? (i := 23) rfl)) (st' := []) (by decide) (rmC5 Z a0 hw _ _ _ n0 (at_size K H101) x0 x1 k0 k1 A A101 ned l101) pd31 rfl rfl rfl (by decide) (W := 0) rfl (by decide) (by decide) (by decide) fun T102 h102 v102 H102 q102 => ?_
  obtain ⟨z102, rfl, K1, D⟩ := q102
  show Go _ _ _ 12 #[.val (.ref e), .val (.int (oN 0)), .val (.int (oN 2)), .val (.ref d), .unset, .unset] [(.int z102)]
  replace A := A.keep K1 (ninS ned nin0); replace X1 := ext_keep X1 K1 (allS (Nat.le_trans hz l101) all0); have EE : Ext h0 h102 := ((E101.keep []).trans K1 (inS (Or.inr sd) in0)).toExt
  refine go_istore K H102 d53_12 (L' := #[.val (.ref e), .val (.int (oN 0)), .val (.int (oN 2)), .val (.ref d), .val (.int z102), .unset]) rfl ?_
  refine go_iload K H102 d53_14 rfl ?_
  refine go_iloadN K H102 d53_16 rfl ?_
  refine go_icmp_eq K H102 d53_17 (fun cc => ?_) (fun cc => ?_)
  · obtain ⟨-, y0, y1, BB⟩ | ⟨j, c, hj, ej, -⟩ := D
    · skip
      refine go_aloadN K H102 d53_57 rfl rfl ?_
      exact go_aret K H102 d53_58 rfl rfl rfl (by decide) (by decide) (⟨d, 0, rfl, l101, sd, BB, Or.inl rfl, EE⟩)
    · rw [ej] at cc; exact absurd ((oN_inj (by omega) (by decide)).mp cc) (by omega)
  · obtain ⟨j, c, hj, ej, hc, c8⟩ : ∃ j c, j < 2 ∧ z102 = oN j ∧ [x0, x1][j]? = some c ∧ 255 < c := D.resolve_left (fun q => cc q.1)
    have c6 : c < 65536 := by have q := List.mem_of_getElem? hc; simp only [List.mem_cons, List.not_mem_nil, or_false] at q; rcases q with rfl | rfl; exact k0; exact k1
    obtain rfl := ej
    refine go_aloadN K H102 d53_20 rfl rfl ?_
    refine go_iloadN K H102 d53_21 rfl ?_
    refine go_iloadN K H102 d53_22 rfl ?_
    refine go_callS [(.ref e), (.int (oN 0)), (.int (oN 2))] K H102 d53_23 (hw _ (List.mem_of_getElem? (i := 297) rfl)) (hw _ (List.mem_of_getElem? (i := 298) rfl)) (hw _ (List.mem_of_getElem? (i := 18) rfl)) (hw _ (List.mem_of_getElem? (i := 299) rfl)) (st' := []) (by decide) (rmTB Z a0 hw _ _ n0 (at_size K H102) ss X1 hz x0 x1 k0 k1 A) pd32 rfl rfl rfl (by decide) (W := 0) rfl (by decide) (by decide) (by decide) fun T103 h103 v103 H103 q103 => ?_
    obtain ⟨z103, rfl, hz103, a, rfl, la, sa, BB, BX, E2⟩ := q103
    show Go _ _ _ 26 #[.val (.ref e), .val (.int (oN 0)), .val (.int (oN 2)), .val (.ref d), .val (.int (oN j)), .unset] [(.ref a)]
    have X2 := ext_trans X1 E2
    refine go_astore K H103 d53_26 rfl (L' := #[.val (.ref e), .val (.int (oN 0)), .val (.int (oN 2)), .val (.ref d), .val (.int (oN j)), .val (.ref a)]) rfl ?_
    refine go_aload K H103 d53_28 rfl rfl ?_
    refine go_iload K H103 d53_30 rfl ?_
    refine go_callS [(.ref a), (.int (oN j))] K H103 d53_32 (hw _ (List.mem_of_getElem? (i := 262) rfl)) (hw _ (List.mem_of_getElem? (i := 263) rfl)) (hw _ (List.mem_of_getElem? (i := 18) rfl)) (hw _ (List.mem_of_getElem? (i := 264) rfl)) (st' := []) (by decide) (rmGC Z a0 hw _ _ n0 (at_size K H103) ss X2 _ BB j (c % 256) (c / 256) (enc1_at hc).1 (enc1_at hc).2) pd5 rfl rfl rfl (by decide) (W := 0) rfl (by decide) (by decide) (by decide) fun T104 h104 v104 H104 q104 => ?_
    obtain ⟨z104, rfl, rfl, rfl⟩ := q104
    show Go _ _ _ 35 #[.val (.ref e), .val (.int (oN 0)), .val (.int (oN 2)), .val (.ref d), .val (.int (oN j)), .val (.ref a)] [(.int (oN (c % 256 + 256 * (c / 256))))]
    refine go_sipush (255) K H104 d53_35 (by decide) ?_
    refine go_icmp_gt K H104 d53_38 (fun c3 => ?_) (fun c3 => False.elim (by (try simp (disch := omega) only [oN_toInt, Int32.lt_iff_toInt_lt, Int32.le_iff_toInt_le, ← Int32.toInt_inj, Int32.reduceToInt, ne_eq] at c3); omega))
    refine go_aload K H104 d53_54 rfl rfl ?_
    exact go_aret K H104 d53_56 rfl rfl rfl (by decide) (by decide) (⟨a, 1, rfl, la, Nat.le_trans EE.1 sa, BB, Or.inr rfl, ext_trans EE E2⟩)
set_option maxRecDepth 65536 in
set_option maxHeartbeats 40000000 in
theorem rmCF (Z : State) (a0 : Array Value) (hw : ∀ d ∈ tables_1, d.before a0 Z = true) (v : Addr) (h0 : Heap) (n0 : Nat) (Z0 : n0 ≤ h0.size) (cd x0 x1 : Nat) (cdd : cd = 0 ∨ cd = 1) (B : BA Z h0 v (enc cd [x0, x1])) (lau : Launch) :
    Con lau Z (⟨"java/lang/StringUTF16", "coderFromArrayLen", "([BI)B"⟩ : MethodName) jdk_52_method_15_code 2 (some .byte) ({ frames := 0, cells := 0, slots := 0, locals := 0 } : Room) #[(.ref v), (.int (oN 2))] h0 n0 (RI fun z h => z = oN cd ∧ h0 = h) := by
  refine con_intro pn54 (L := #[.val (.ref v), .val (.int (oN 2))]) (fun m => by first | (simp [entryFrame, mkF, argsToLocals, Value.category, maxLocals]; done) | rfl) Z0 (fun w T K H => ?_)
  refine go_iloadN K H d54_0 rfl ?_
  refine go_aloadN K H d54_1 rfl rfl ?_
  refine go_lenB K H d54_2 (B) ?_
  rcases cdd with rfl | rfl
  · show Go _ _ _ 3 #[.val (.ref v), .val (.int (oN 2))] [(.int (oN 2)), (.int (oN 2))]
    refine go_isub K H d54_3 fun v101 ev101 => ?_
    obtain rfl : v101 = (0 : Int32) := ev101.trans (by decide)
    refine go_bipush (31) K H d54_4 (by decide) ?_
    refine go_iushr K H d54_6 fun v102 ev102 => ?_
    obtain rfl : v102 = (0 : Int32) := ev102.trans (by decide)
    refine go_i2b K H d54_7 fun v103 ev103 => ?_
    obtain rfl : v103 = oN (0) := ev103.trans (by decide)
    exact go_nret K H d54_8 rfl (Or.inl rfl) (by decide) (by decide) (by decide) (⟨rfl, rfl⟩)
  · show Go _ _ _ 3 #[.val (.ref v), .val (.int (oN 2))] [(.int (oN 4)), (.int (oN 2))]
    refine go_isub K H d54_3 fun v104 ev104 => ?_
    obtain rfl : v104 = ((-2) : Int32) := ev104.trans (by decide)
    refine go_bipush (31) K H d54_4 (by decide) ?_
    refine go_iushr K H d54_6 fun v105 ev105 => ?_
    obtain rfl : v105 = (1 : Int32) := ev105.trans (by decide)
    refine go_i2b K H d54_7 fun v106 ev106 => ?_
    obtain rfl : v106 = oN (1) := ev106.trans (by decide)
    exact go_nret K H d54_8 rfl (Or.inl rfl) (by decide) (by decide) (by decide) (⟨rfl, rfl⟩)
set_option maxRecDepth 65536 in
set_option maxHeartbeats 40000000 in
theorem rmS2 (Z : State) (a0 : Array Value) (hw : ∀ d ∈ tables_1, d.before a0 Z = true) (s : Addr) (e : Addr) (h0 : Heap) (n0 : Nat) (Z0 : n0 ≤ h0.size) (ss : SSt Z) (X0 : Ext Z.heap h0) (hz : Z.heap.size ≤ n0) (x0 x1 : Nat) (k0 : x0 < 65536) (k1 : x1 < 65536) (A : CA Z h0 e [x0, x1]) (w1 w2 : Value) (F1 : Fld Z h0 s "java/lang/String" "value" "[B" w1) (F2 : Fld Z h0 s "java/lang/String" "coder" "B" w2) (E0 : Exa Z h0 s "java/lang/String") (gs : n0 ≤ s) (lau : Launch) :
    Con lau Z (⟨"java/lang/String", "<init>", "([CIILjava/lang/Void;)V"⟩ : MethodName) jdk_42_method_149_code 6 none ({ frames := 4, cells := 2, slots := 66, locals := 57 } : Room) #[(.ref s), (.ref e), (.int (oN 0)), (.int (oN 2)), .null] h0 n0 (RV fun h => ∃ v cd, Sx Z h s v cd [x0, x1] ∧ Keep h0 h [s]) := by
  refine con_intro pn55 (L := #[.val (.ref s), .val (.ref e), .val (.int (oN 0)), .val (.int (oN 2)), .val .null, .unset]) (fun m => by first | (simp [entryFrame, mkF, argsToLocals, Value.category, maxLocals]; done) | rfl) Z0 (fun w T K H => ?_)
  refine go_aloadN K H d55_0 rfl rfl ?_
  refine go_initO K H d55_1 (hw _ (List.mem_of_getElem? (i := 12) rfl)) (hw _ (List.mem_of_getElem? (i := 13) rfl)) (hw _ (List.mem_of_getElem? (i := 14) rfl)) rfl (by decide) (W := 0) rfl (by decide) fun T101 HT101 => ?_
  refine go_iloadN K HT101 d55_4 rfl ?_
  refine go_if_ne K HT101 d55_5 (fun cc => ?_) (fun cc => False.elim (by first | exact absurd cc (by decide) | exact cc (by decide)))
  obtain ⟨cs, hcs, S1c⟩ := ss.1
  refine go_getstatic K HT101 d55_27 (host := "") (Or.inl (hw _ (List.mem_of_getElem? (i := 15) rfl))) Via.refl (S1c.ext X0) fun T102 HT102 => ?_
  refine go_if_eq K HT102 d55_30 (fun cc => False.elim (by exact hcs cc)) (fun cc => ?_)
  refine go_aloadN K HT102 d55_33 rfl rfl ?_
  refine go_iloadN K HT102 d55_34 rfl ?_
  refine go_iloadN K HT102 d55_35 rfl ?_
  refine go_callS [(.ref e), (.int (oN 0)), (.int (oN 2))] K HT102 d55_36 (hw _ (List.mem_of_getElem? (i := 16) rfl)) (hw _ (List.mem_of_getElem? (i := 17) rfl)) (hw _ (List.mem_of_getElem? (i := 18) rfl)) (hw _ (List.mem_of_getElem? (i := 19) rfl)) (st' := []) (by decide) (rmC3 Z a0 hw _ _ n0 (at_size K HT102) ss X0 hz x0 x1 k0 k1 A) pd32 rfl rfl rfl (by decide) (W := 0) rfl (by decide) (by decide) (by decide) fun T103 h103 v103 H103 q103 => ?_
  obtain ⟨z103, rfl, hz103, v, cd, rfl, lv, sv, B, cdd, E1⟩ := q103
  show Go _ _ _ 39 #[.val (.ref s), .val (.ref e), .val (.int (oN 0)), .val (.int (oN 2)), .val .null, .unset] [(.ref v)]
  have nsv : s ≠ v := ne_lt E0.lt sv; replace E0 := E0.ext E1; replace F1 := F1.ext E1; replace F2 := F2.ext E1; have KK : Keep h0 h103 [s] := E1.keep _
  refine go_astore K H103 d55_39 rfl (L' := #[.val (.ref s), .val (.ref e), .val (.int (oN 0)), .val (.int (oN 2)), .val .null, .val (.ref v)]) rfl ?_
  refine go_aloadN K H103 d55_41 rfl rfl ?_
  refine go_aload K H103 d55_42 rfl rfl ?_
  refine go_iloadN K H103 d55_44 rfl ?_
  refine go_callS [(.ref v), (.int (oN 2))] K H103 d55_45 (hw _ (List.mem_of_getElem? (i := 24) rfl)) (hw _ (List.mem_of_getElem? (i := 25) rfl)) (hw _ (List.mem_of_getElem? (i := 18) rfl)) (hw _ (List.mem_of_getElem? (i := 26) rfl)) (st' := [(.ref s)]) (by decide) (rmCF Z a0 hw _ _ n0 (at_size K H103) cd x0 x1 cdd B) pd33 rfl rfl rfl (by decide) (W := 1) rfl (by decide) (by decide) (by decide) fun T104 h104 v104 H104 q104 => ?_
  obtain ⟨z104, rfl, rfl, rfl⟩ := q104
  show Go _ _ _ 48 #[.val (.ref s), .val (.ref e), .val (.int (oN 0)), .val (.int (oN 2)), .val .null, .val (.ref v)] [(.int (oN cd)), (.ref s)]
  rcases cdd with rfl | rfl
  · refine go_putfieldN K H104 d55_48 (hw _ (List.mem_of_getElem? (i := 27) rfl)) Via.refl (F2) (E0) (Or.inr ⟨(hw _ (List.mem_of_getElem? (i := 28) rfl)), rfl, rfl⟩) (hw _ (List.mem_of_getElem? (i := 2) rfl)) (ty := .byte) (by decide) (v' := (.int (oN 0))) (rfl) (rfl) (gs) fun T105 h105 H105 W105 => ?_
    replace F2 := F2.same W105; replace F1 := F1.other W105 (Or.inr (slot_ne (Z := Z) (a0 := a0) (Or.inr (hw _ (List.mem_of_getElem? (i := 30) rfl))) (Or.inr (hw _ (List.mem_of_getElem? (i := 28) rfl))) (by decide) (t := (.array .byte)) (by decide) (t' := .byte) (by decide))); replace E0 := E0.wr W105; replace B := B.other W105 nsv.symm; replace KK : Keep h0 h105 [s] := KK.wr W105 (Or.inl (List.mem_singleton.mpr rfl))
    refine go_aloadN K H105 d55_51 rfl rfl ?_
    refine go_aload K H105 d55_52 rfl rfl ?_
    refine go_putfield K H105 d55_54 (host := "") (Or.inl (hw _ (List.mem_of_getElem? (i := 29) rfl))) Via.refl (F1) (E0) (Or.inr ⟨(hw _ (List.mem_of_getElem? (i := 30) rfl)), rfl, rfl⟩) (hw _ (List.mem_of_getElem? (i := 2) rfl)) (ty := (.array .byte)) (by decide) rfl rfl (gs) fun T106 h106 H106 W106 => ?_
    exact go_ret K H106 d55_57 rfl (by decide) (by decide) (⟨v, 0, ⟨E0.wr W106, F1.same W106, F2.other W106 (Or.inr (slot_ne (Z := Z) (a0 := a0) (Or.inr (hw _ (List.mem_of_getElem? (i := 28) rfl))) (Or.inr (hw _ (List.mem_of_getElem? (i := 30) rfl))) (by decide) (t := .byte) (by decide) (t' := (.array .byte)) (by decide))), B.other W106 nsv.symm, Or.inl rfl⟩, KK.wr W106 (Or.inl (List.mem_singleton.mpr rfl))⟩)
  · refine go_putfieldN K H104 d55_48 (hw _ (List.mem_of_getElem? (i := 27) rfl)) Via.refl (F2) (E0) (Or.inr ⟨(hw _ (List.mem_of_getElem? (i := 28) rfl)), rfl, rfl⟩) (hw _ (List.mem_of_getElem? (i := 2) rfl)) (ty := .byte) (by decide) (v' := (.int (oN 1))) (rfl) (rfl) (gs) fun T107 h107 H107 W107 => ?_
    replace F2 := F2.same W107; replace F1 := F1.other W107 (Or.inr (slot_ne (Z := Z) (a0 := a0) (Or.inr (hw _ (List.mem_of_getElem? (i := 30) rfl))) (Or.inr (hw _ (List.mem_of_getElem? (i := 28) rfl))) (by decide) (t := (.array .byte)) (by decide) (t' := .byte) (by decide))); replace E0 := E0.wr W107; replace B := B.other W107 nsv.symm; replace KK : Keep h0 h107 [s] := KK.wr W107 (Or.inl (List.mem_singleton.mpr rfl))
    refine go_aloadN K H107 d55_51 rfl rfl ?_
    refine go_aload K H107 d55_52 rfl rfl ?_
    refine go_putfield K H107 d55_54 (host := "") (Or.inl (hw _ (List.mem_of_getElem? (i := 29) rfl))) Via.refl (F1) (E0) (Or.inr ⟨(hw _ (List.mem_of_getElem? (i := 30) rfl)), rfl, rfl⟩) (hw _ (List.mem_of_getElem? (i := 2) rfl)) (ty := (.array .byte)) (by decide) rfl rfl (gs) fun T108 h108 H108 W108 => ?_
    exact go_ret K H108 d55_57 rfl (by decide) (by decide) (⟨v, 1, ⟨E0.wr W108, F1.same W108, F2.other W108 (Or.inr (slot_ne (Z := Z) (a0 := a0) (Or.inr (hw _ (List.mem_of_getElem? (i := 28) rfl))) (Or.inr (hw _ (List.mem_of_getElem? (i := 30) rfl))) (by decide) (t := .byte) (by decide) (t' := (.array .byte)) (by decide))), B.other W108 nsv.symm, Or.inr rfl⟩, KK.wr W108 (Or.inl (List.mem_singleton.mpr rfl))⟩)
set_option maxRecDepth 65536 in
set_option maxHeartbeats 40000000 in
theorem rmS1 (Z : State) (a0 : Array Value) (hw : ∀ d ∈ tables_1, d.before a0 Z = true) (s : Addr) (e : Addr) (h0 : Heap) (n0 : Nat) (Z0 : n0 ≤ h0.size) (ss : SSt Z) (X0 : Ext Z.heap h0) (hz : Z.heap.size ≤ n0) (x0 x1 : Nat) (k0 : x0 < 65536) (k1 : x1 < 65536) (A : CA Z h0 e [x0, x1]) (w1 w2 : Value) (F1 : Fld Z h0 s "java/lang/String" "value" "[B" w1) (F2 : Fld Z h0 s "java/lang/String" "coder" "B" w2) (E0 : Exa Z h0 s "java/lang/String") (gs : n0 ≤ s) (lau : Launch) :
    Con lau Z (⟨"java/lang/String", "<init>", "([C)V"⟩ : MethodName) jdk_42_method_3_code 2 none ({ frames := 5, cells := 2, slots := 66, locals := 74 } : Room) #[(.ref s), (.ref e)] h0 n0 (RV fun h => ∃ v cd, Sx Z h s v cd [x0, x1] ∧ Keep h0 h [s]) := by
  refine con_intro pn56 (L := #[.val (.ref s), .val (.ref e)]) (fun m => by first | (simp [entryFrame, mkF, argsToLocals, Value.category, maxLocals]; done) | rfl) Z0 (fun w T K H => ?_)
  refine go_aloadN K H d56_0 rfl rfl ?_
  refine go_aloadN K H d56_1 rfl rfl ?_
  refine go_iconst (0) K H d56_2 (by decide) ?_
  refine go_aloadN K H d56_3 rfl rfl ?_
  refine go_lenC K H d56_4 (A) ?_
  show Go _ _ _ 5 #[.val (.ref s), .val (.ref e)] [(.int (oN 2)), (.int 0), (.ref e), (.ref s)]
  refine go_null K H d56_5 ?_
  refine go_callI [(.ref e), (.int 0), (.int (oN 2)), .null] K H d56_6 rfl (hw _ (List.mem_of_getElem? (i := 8) rfl)) (hw _ (List.mem_of_getElem? (i := 9) rfl)) (hw _ (List.mem_of_getElem? (i := 3) rfl)) (hw _ (List.mem_of_getElem? (i := 11) rfl)) (st' := []) (by decide) (rmS2 Z a0 hw _ _ _ n0 (at_size K H) ss X0 hz x0 x1 k0 k1 A w1 w2 F1 F2 E0 gs) pd34 rfl rfl rfl (by decide) (W := 0) rfl (by decide) (by decide) (by decide) fun T101 h101 v101 H101 q101 => ?_
  obtain ⟨rfl, v, cd, R, KK⟩ := q101
  show Go _ _ _ 9 #[.val (.ref s), .val (.ref e)] []
  exact go_ret K H101 d56_9 rfl (by decide) (by decide) (⟨v, cd, R, KK⟩)
set_option maxRecDepth 65536 in
set_option maxHeartbeats 40000000 in
theorem rmZ2 (Z : State) (a0 : Array Value) (hw : ∀ d ∈ tables_1, d.before a0 Z = true) (s : Addr) (e : Addr) (h0 : Heap) (n0 : Nat) (Z0 : n0 ≤ h0.size) (hEL : EW Z a0 consts_1) (w1 w2 : Value) (F1 : Fld Z h0 s "java/lang/String" "value" "[B" w1) (F2 : Fld Z h0 s "java/lang/String" "coder" "B" w2) (E0 : Exa Z h0 s "java/lang/String") (gs : n0 ≤ s) (lau : Launch) :
    ConH lau Z consts_1 (⟨"java/lang/String", "<init>", "([CIILjava/lang/Void;)V"⟩ : MethodName) jdk_42_method_149_code 6 none ({ frames := 1, cells := 4, slots := 8, locals := 12 } : Room) #[(.ref s), (.ref e), (.int (oN 0)), (.int (oN 0)), .null] h0 n0 [s] (RV fun h => ∃ v cd, Sx Z h s v cd [] ∧ Keep h0 h [s]) := by
  refine con_introH pn55 (L := #[.val (.ref s), .val (.ref e), .val (.int (oN 0)), .val (.int (oN 0)), .val .null, .unset]) (fun m => by first | (simp [entryFrame, mkF, argsToLocals, Value.category, maxLocals]; done) | rfl) Z0 (fun w T s0 K H I SF0 => ?_)
  have EE := E0; have KK : Keep h0 h0 [s] := Keep.refl _ _; have Ss := SF0 s (List.mem_singleton.mpr rfl)
  refine go_aloadN K H d55_0 rfl rfl ?_
  refine go_initO K H d55_1 (hw _ (List.mem_of_getElem? (i := 12) rfl)) (hw _ (List.mem_of_getElem? (i := 13) rfl)) (hw _ (List.mem_of_getElem? (i := 14) rfl)) rfl (by decide) (W := 0) rfl (by decide) fun T101 HT101 => ?_
  refine go_iloadN K HT101 d55_4 rfl ?_
  refine go_if_ne K HT101 d55_5 (fun cc => False.elim (by exact cc rfl)) (fun cc => ?_)
  refine go_aloadN K HT101 d55_8 rfl rfl ?_
  refine go_ldcH (text := "") [] K HT101 I hEL d55_9 (hw _ (List.mem_of_getElem? (i := 222) rfl)) (strA hw) (by simp [consts_1]) (by decide) (by decide) (by decide) (nn := 0) (by decide) (by decide) (by decide) (by decide) fun w102 T102 h102 s102 b102 K102 H102 I102 E102 A102 C102 V102 B102 F102 N102 => ?_
  replace Ss := F102 s EE.lt Ss; have nsb : s ≠ b102 := (N102 s Ss).2; replace EE := EE.ext E102; replace F1 := F1.ext E102; replace F2 := F2.ext E102; replace KK := KK.ext E102; have BB := B102
  refine go_getfield K102 H102 d55_11 (host := "") (Or.inl (hw _ (List.mem_of_getElem? (i := 29) rfl))) Via.refl (V102) fun T103 HT103 => ?_
  refine go_putfield K102 HT103 d55_14 (host := "") (Or.inl (hw _ (List.mem_of_getElem? (i := 29) rfl))) Via.refl (F1) (EE) (Or.inr ⟨(hw _ (List.mem_of_getElem? (i := 30) rfl)), rfl, rfl⟩) (hw _ (List.mem_of_getElem? (i := 2) rfl)) (ty := (.array .byte)) (by decide) rfl rfl (gs) fun T104 h104 H104 W104 => ?_
  have I1 := I102.keep (Keep.of_wr W104) (sfS Ss sf0); replace Ss := Ss.keep I102 (Keep.of_wr W104) (sfS Ss sf0); replace F1 := F1.same W104; replace F2 := F2.other W104 (Or.inr (slot_ne (Z := Z) (a0 := a0) (Or.inr (hw _ (List.mem_of_getElem? (i := 28) rfl))) (Or.inr (hw _ (List.mem_of_getElem? (i := 30) rfl))) (by decide) (t := .byte) (by decide) (t' := (.array .byte)) (by decide))); replace EE := EE.wr W104; replace BB := BB.other W104 nsb.symm; replace KK : Keep h0 h104 [s] := KK.wr W104 (Or.inl (List.mem_singleton.mpr rfl))
  refine go_aloadN K102 H104 d55_17 rfl rfl ?_
  refine go_ldcH (text := "") [] K102 H104 I1 hEL d55_18 (hw _ (List.mem_of_getElem? (i := 222) rfl)) (strA hw) (by simp [consts_1]) (by decide) (by decide) (by decide) (nn := 0) (by decide) (by decide) (by decide) (by decide) fun w105 T105 h105 s105 b105 K105 H105 I105 E105 A105 C105 V105 B105 F105 N105 => ?_
  replace Ss := F105 s EE.lt Ss; replace EE := EE.ext E105; replace F1 := F1.ext E105; replace F2 := F2.ext E105; replace KK := KK.ext E105; replace BB := BB.ext E105
  refine go_getfield K105 H105 d55_20 (host := "") (Or.inl (hw _ (List.mem_of_getElem? (i := 27) rfl))) Via.refl (C105) fun T106 HT106 => ?_
  refine go_putfieldN K105 HT106 d55_23 (hw _ (List.mem_of_getElem? (i := 27) rfl)) Via.refl (F2) (EE) (Or.inr ⟨(hw _ (List.mem_of_getElem? (i := 28) rfl)), rfl, rfl⟩) (hw _ (List.mem_of_getElem? (i := 2) rfl)) (ty := .byte) (by decide) (v' := (.int (oN 0))) (rfl) (rfl) (gs) fun T107 h107 H107 W107 => ?_
  have I2 := I105.keep (Keep.of_wr W107) (sfS Ss sf0)
  exact go_retH K105 H107 I2 hEL d55_26 rfl (by decide) (by decide) (⟨b102, 0, ⟨EE.wr W107, F1.other W107 (Or.inr (slot_ne (Z := Z) (a0 := a0) (Or.inr (hw _ (List.mem_of_getElem? (i := 30) rfl))) (Or.inr (hw _ (List.mem_of_getElem? (i := 28) rfl))) (by decide) (t := (.array .byte)) (by decide) (t' := .byte) (by decide))), F2.same W107, BB.other W107 nsb.symm, Or.inl rfl⟩, KK.wr W107 (Or.inl (List.mem_singleton.mpr rfl))⟩)
set_option maxRecDepth 65536 in
set_option maxHeartbeats 40000000 in
theorem rmZ1 (Z : State) (a0 : Array Value) (hw : ∀ d ∈ tables_1, d.before a0 Z = true) (s : Addr) (e : Addr) (h0 : Heap) (n0 : Nat) (Z0 : n0 ≤ h0.size) (hEL : EW Z a0 consts_1) (w1 w2 : Value) (F1 : Fld Z h0 s "java/lang/String" "value" "[B" w1) (F2 : Fld Z h0 s "java/lang/String" "coder" "B" w2) (E0 : Exa Z h0 s "java/lang/String") (gs : n0 ≤ s) (A : CA Z h0 e []) (lau : Launch) :
    ConH lau Z consts_1 (⟨"java/lang/String", "<init>", "([C)V"⟩ : MethodName) jdk_42_method_3_code 2 none ({ frames := 2, cells := 4, slots := 8, locals := 29 } : Room) #[(.ref s), (.ref e)] h0 n0 [s] (RV fun h => ∃ v cd, Sx Z h s v cd [] ∧ Keep h0 h [s]) := by
  refine con_introH pn56 (L := #[.val (.ref s), .val (.ref e)]) (fun m => by first | (simp [entryFrame, mkF, argsToLocals, Value.category, maxLocals]; done) | rfl) Z0 (fun w T s0 K H I SF0 => ?_)
  refine go_aloadN K H d56_0 rfl rfl ?_
  refine go_aloadN K H d56_1 rfl rfl ?_
  refine go_iconst (0) K H d56_2 (by decide) ?_
  refine go_aloadN K H d56_3 rfl rfl ?_
  refine go_lenC K H d56_4 (A) ?_
  show Go _ _ _ 5 #[.val (.ref s), .val (.ref e)] [(.int (oN 0)), (.int 0), (.ref e), (.ref s)]
  refine go_null K H d56_5 ?_
  refine go_callIH [(.ref e), (.int 0), (.int (oN 0)), .null] K H I hEL (fun x q => by cases List.mem_singleton.mp q; exact ⟨E0.lt, SF0 s (List.mem_singleton.mpr rfl)⟩) d56_6 rfl (hw _ (List.mem_of_getElem? (i := 8) rfl)) (hw _ (List.mem_of_getElem? (i := 9) rfl)) (hw _ (List.mem_of_getElem? (i := 3) rfl)) (hw _ (List.mem_of_getElem? (i := 11) rfl)) (st' := []) (by decide) (rmZ2 Z a0 hw _ _ _ n0 (at_size K H) hEL w1 w2 F1 F2 E0 gs) pd34 rfl rfl rfl (by decide) (W := 0) rfl (by decide) (by decide) (by decide) fun w101 T101 h101 v101 K101 H101 I101 F101 q101 => ?_
  obtain ⟨rfl, v, cd, R, KK⟩ := q101
  show Go _ _ _ 9 #[.val (.ref s), .val (.ref e)] []
  exact go_retH K101 H101 I101 hEL d56_9 rfl (by decide) (by decide) (⟨v, cd, R, KK⟩)
set_option maxRecDepth 65536 in
set_option maxHeartbeats 40000000 in
theorem rmIs (Z : State) (a0 : Array Value) (hw : ∀ d ∈ tables_1, d.before a0 Z = true)  (h0 : Heap) (n0 : Nat) (Z0 : n0 ≤ h0.size) (c : Nat) (c6 : c < 65536) (lau : Launch) :
    Con lau Z (⟨"java/lang/Character", "isISOControl", "(I)Z"⟩ : MethodName) jdk_89_method_89_code 1 (some .boolean) ({ frames := 0, cells := 0, slots := 0, locals := 0 } : Room) #[(.int (oN c))] h0 n0 (RI fun z h => z = bI (c < 32 ∨ 127 ≤ c ∧ c < 160) ∧ h0 = h) := by
  refine con_intro pn57 (L := #[.val (.int (oN c))]) (fun m => by first | (simp [entryFrame, mkF, argsToLocals, Value.category, maxLocals]; done) | rfl) Z0 (fun w T K H => ?_)
  refine go_iloadN K H d57_0 rfl ?_
  refine go_sipush (159) K H d57_1 (by decide) ?_
  refine go_icmp_gt K H d57_4 (fun c1 => ?_) (fun c1 => ?_)
  · (try simp (disch := omega) only [oN_toInt, Int32.lt_iff_toInt_lt, Int32.le_iff_toInt_le, ← Int32.toInt_inj, Int32.reduceToInt, ne_eq] at c1)
    refine go_iconst (0) K H d57_23 (by decide) ?_
    exact go_zret K H d57_24 rfl (by decide) (by decide) (by decide) (⟨(bI_f (by omega)).symm, rfl⟩)
  · (try simp (disch := omega) only [oN_toInt, Int32.lt_iff_toInt_lt, Int32.le_iff_toInt_le, ← Int32.toInt_inj, Int32.reduceToInt, ne_eq] at c1)
    refine go_iloadN K H d57_7 rfl ?_
    refine go_bipush (127) K H d57_8 (by decide) ?_
    refine go_icmp_ge K H d57_10 (fun c2 => ?_) (fun c2 => ?_)
    · (try simp (disch := omega) only [oN_toInt, Int32.lt_iff_toInt_lt, Int32.le_iff_toInt_le, ← Int32.toInt_inj, Int32.reduceToInt, ne_eq] at c2)
      refine go_iconst (1) K H d57_19 (by decide) ?_
      refine go_goto K H d57_20 ?_
      exact go_zret K H d57_24 rfl (by decide) (by decide) (by decide) (⟨(bI_t (by omega)).symm, rfl⟩)
    · (try simp (disch := omega) only [oN_toInt, Int32.lt_iff_toInt_lt, Int32.le_iff_toInt_le, ← Int32.toInt_inj, Int32.reduceToInt, ne_eq] at c2)
      refine go_iloadN K H d57_13 rfl ?_
      refine go_iconst (5) K H d57_14 (by decide) ?_
      refine go_iushr K H d57_15 fun v101 ev101 => ?_
      have fv := f_iushr 32 5 ev101 (by decide) (by decide) (by decide); rw [oN_toInt (by omega)] at fv
      refine go_if_ne K H d57_16 (fun cc => ?_) (fun cc => ?_)
      · refine go_iconst (0) K H d57_23 (by decide) ?_
        exact go_zret K H d57_24 rfl (by decide) (by decide) (by decide) (⟨(bI_f (by (try simp (disch := omega) only [oN_toInt, Int32.lt_iff_toInt_lt, Int32.le_iff_toInt_le, ← Int32.toInt_inj, Int32.reduceToInt, ne_eq] at cc); omega)).symm, rfl⟩)
      · refine go_iconst (1) K H d57_19 (by decide) ?_
        refine go_goto K H d57_20 ?_
        exact go_zret K H d57_24 rfl (by decide) (by decide) (by decide) (⟨(bI_t (by (try simp (disch := omega) only [oN_toInt, Int32.lt_iff_toInt_lt, Int32.le_iff_toInt_le, ← Int32.toInt_inj, Int32.reduceToInt, ne_eq] at cc); omega)).symm, rfl⟩)
set_option maxRecDepth 65536 in
set_option maxHeartbeats 40000000 in
theorem rmIc (Z : State) (a0 : Array Value) (hw : ∀ d ∈ tables_1, d.before a0 Z = true)  (h0 : Heap) (n0 : Nat) (Z0 : n0 ≤ h0.size) (c : Nat) (c6 : c < 65536) (lau : Launch) :
    Con lau Z (⟨"java/lang/Character", "isISOControl", "(C)Z"⟩ : MethodName) jdk_89_method_88_code 1 (some .boolean) ({ frames := 1, cells := 0, slots := 0, locals := 12 } : Room) #[(.int (oN c))] h0 n0 (RI fun z h => z = bI (c < 32 ∨ 127 ≤ c ∧ c < 160) ∧ h0 = h) := by
  refine con_intro pn58 (L := #[.val (.int (oN c))]) (fun m => by first | (simp [entryFrame, mkF, argsToLocals, Value.category, maxLocals]; done) | rfl) Z0 (fun w T K H => ?_)
  refine go_iloadN K H d58_0 rfl ?_
  refine go_callS [(.int (oN c))] K H d58_1 (hw _ (List.mem_of_getElem? (i := 121) rfl)) (hw _ (List.mem_of_getElem? (i := 122) rfl)) (hw _ (List.mem_of_getElem? (i := 119) rfl)) (hw _ (List.mem_of_getElem? (i := 123) rfl)) (st' := []) (by decide) (rmIs Z a0 hw _ n0 (at_size K H) c c6) pd35 rfl rfl rfl (by decide) (W := 0) rfl (by decide) (by decide) (by decide) fun T101 h101 v101 H101 q101 => ?_
  obtain ⟨z101, rfl, rfl, rfl⟩ := q101
  show Go _ _ _ 4 #[.val (.int (oN c))] [(.int (bI (c < 32 ∨ 127 ≤ c ∧ c < 160)))]
  exact go_zret K H101 d58_4 rfl (bI_nar) (by decide) (by decide) (⟨rfl, rfl⟩)
set_option maxRecDepth 65536 in
set_option maxHeartbeats 40000000 in
theorem rmHx (Z : State) (a0 : Array Value) (hw : ∀ d ∈ tables_1, d.before a0 Z = true)  (h0 : Heap) (n0 : Nat) (Z0 : n0 ≤ h0.size) (d : Nat) (hd : d < 16) (lau : Launch) :
    Con lau Z (⟨"com/example/bellwether/bellwether/model/LiteralsQuotePinLaw", "hex", "(I)C"⟩ : MethodName) method_4_code 1 (some .char) ({ frames := 0, cells := 0, slots := 0, locals := 0 } : Room) #[(.int (oN d))] h0 n0 (RI fun z h => z = oN (hexd d) ∧ h0 = h) := by
  refine con_intro pn59 (L := #[.val (.int (oN d))]) (fun m => by first | (simp [entryFrame, mkF, argsToLocals, Value.category, maxLocals]; done) | rfl) Z0 (fun w T K H => ?_)
  refine go_iloadN K H d59_0 rfl ?_
  refine go_bipush (10) K H d59_1 (by decide) ?_
  refine go_icmp_ge K H d59_3 (fun cc => ?_) (fun cc => ?_)
  · have hb : 10 ≤ d := by (try simp (disch := omega) only [oN_toInt, Int32.lt_iff_toInt_lt, Int32.le_iff_toInt_le, ← Int32.toInt_inj, Int32.reduceToInt, ne_eq] at cc); omega
    refine go_bipush (97) K H d59_13 (by decide) ?_
    refine go_iloadN K H d59_15 rfl ?_
    refine go_bipush (10) K H d59_16 (by decide) ?_
    refine go_isub K H d59_18 fun v101 ev101 => ?_
    obtain rfl : v101 = oN (d - 10) := ev101.trans (oN_sub (b := 10) hb)
    refine go_iadd K H d59_19 fun v102 ev102 => ?_
    obtain rfl : v102 = oN (97 + (d - 10)) := ev102.trans (oN_add 97 _)
    refine go_i2c K H d59_20 fun v103 ev103 => ?_
    obtain rfl : v103 = oN (97 + (d - 10)) := ev103.trans (i2cN (by omega))
    exact go_nret K H d59_21 rfl (Or.inr rfl) (narC (by omega)) (by decide) (by decide) (⟨congrArg oN (by unfold hexd; split <;> omega), rfl⟩)
  · have hb : d < 10 := by (try simp (disch := omega) only [oN_toInt, Int32.lt_iff_toInt_lt, Int32.le_iff_toInt_le, ← Int32.toInt_inj, Int32.reduceToInt, ne_eq] at cc); omega
    refine go_bipush (48) K H d59_6 (by decide) ?_
    refine go_iloadN K H d59_8 rfl ?_
    refine go_iadd K H d59_9 fun v104 ev104 => ?_
    obtain rfl : v104 = oN (48 + d) := ev104.trans (oN_add 48 _)
    refine go_goto K H d59_10 ?_
    refine go_i2c K H d59_20 fun v105 ev105 => ?_
    obtain rfl : v105 = oN (48 + d) := ev105.trans (i2cN (by omega))
    exact go_nret K H d59_21 rfl (Or.inr rfl) (narC (by omega)) (by decide) (by decide) (⟨congrArg oN (by unfold hexd; split <;> omega), rfl⟩)
set_option maxRecDepth 65536 in
set_option maxHeartbeats 40000000 in
theorem rmPt (Z : State) (a0 : Array Value) (hw : ∀ d ∈ tables_1, d.before a0 Z = true) (e : Addr) (h0 : Heap) (n0 : Nat) (Z0 : n0 ≤ h0.size) (P r : List Nat) (A : CA Z h0 e (P ++ r)) (hr : 6 ≤ r.length) (ge : n0 ≤ e) (c : Nat) (c6 : c < 65536) (lau : Launch) :
    Con lau Z (⟨"com/example/bellwether/bellwether/model/LiteralsQuotePinLaw", "put", "([CIC)I"⟩ : MethodName) method_5_code 3 (some .int) ({ frames := 1, cells := 0, slots := 0, locals := 14 } : Room) #[(.ref e), (.int (oN P.length)), (.int (oN c))] h0 n0 (RI fun z h => z = oN (P.length + (esc c).length) ∧ CA Z h e (P ++ esc c ++ r.drop (esc c).length) ∧ Keep h0 h [e]) := by
  refine con_intro pn60 (L := #[.val (.ref e), .val (.int (oN P.length)), .val (.int (oN c))]) (fun m => by first | (simp [entryFrame, mkF, argsToLocals, Value.category, maxLocals]; done) | rfl) Z0 (fun w T K H => ?_)
  have al := A.len; rw [List.length_append] at al
  have A0 : CA Z h0 e (P ++ [] ++ r.drop 0) := by rw [List.append_nil, List.drop_zero]; exact A
  have KK : Keep h0 h0 [e] := Keep.refl _ _
  have J12 : (c = 34 ∨ c = 92) → Go w (Fn w (RI fun z h => z = oN (P.length + (esc c).length) ∧ CA Z h e (P ++ esc c ++ r.drop (esc c).length) ∧ Keep h0 h [e])) T 12 #[.val (.ref e), .val (.int (oN P.length)), .val (.int (oN c))] [] := by
    intro hq
    refine go_aloadN K H d60_12 rfl rfl ?_
    refine go_iloadN K H d60_13 rfl ?_
    refine go_bipush (92) K H d60_14 (by decide) ?_
    refine go_cS (i := P.length + 0) (b := 92) K H d60_16 (A0) (by rw [List.length_append, List.length_append, List.length_drop]; simp only [List.length_cons, List.length_nil]; omega) (by decide) (ge) fun T101 h101 H101 W101 B101 => ?_
    have A1 : CA Z h101 e (P ++ [92] ++ r.drop 1) := by have q := B101; rw [put_at (xs := []) (k := 0) rfl (by omega)] at q; exact q
    replace KK : Keep h0 h101 [e] := KK.wr W101 (Or.inl (List.mem_singleton.mpr rfl))
    refine go_aloadN K H101 d60_17 rfl rfl ?_
    refine go_iloadN K H101 d60_18 rfl ?_
    refine go_iconst (1) K H101 d60_19 (by decide) ?_
    refine go_iadd K H101 d60_20 fun v102 ev102 => ?_
    obtain rfl : v102 = oN (P.length + 1) := ev102.trans (oN_add _ 1)
    refine go_iloadN K H101 d60_21 rfl ?_
    refine go_cS (i := P.length + 1) (b := c) K H101 d60_22 (A1) (by rw [List.length_append, List.length_append, List.length_drop]; simp only [List.length_cons, List.length_nil]; omega) (c6) (ge) fun T103 h103 H103 W103 B103 => ?_
    have A2 : CA Z h103 e (P ++ [92, c] ++ r.drop 2) := by have q := B103; rw [put_at (xs := [92]) (k := 1) rfl (by omega)] at q; exact q
    replace KK : Keep h0 h103 [e] := KK.wr W103 (Or.inl (List.mem_singleton.mpr rfl))
    refine go_iloadN K H103 d60_23 rfl ?_
    refine go_iconst (2) K H103 d60_24 (by decide) ?_
    refine go_iadd K H103 d60_25 fun v104 ev104 => ?_
    obtain rfl : v104 = oN (P.length + 2) := ev104.trans (oN_add _ 2)
    have he : esc c = [92, c] := by unfold esc; rw [if_pos hq]
    exact go_iret K H103 d60_26 rfl (by decide) (by decide) (⟨by rw [he]; rfl, by rw [he]; exact A2, KK⟩)
  have J126 : ¬ (c = 34 ∨ c = 92) → c ≠ 9 → c ≠ 10 → c ≠ 13 → ctl c → Go w (Fn w (RI fun z h => z = oN (P.length + (esc c).length) ∧ CA Z h e (P ++ esc c ++ r.drop (esc c).length) ∧ Keep h0 h [e])) T 126 #[.val (.ref e), .val (.int (oN P.length)), .val (.int (oN c))] [] := by
    intro hq1 hq2 hq3 hq4 hq5
    refine go_aloadN K H d60_126 rfl rfl ?_
    refine go_iloadN K H d60_127 rfl ?_
    refine go_bipush (92) K H d60_128 (by decide) ?_
    refine go_cS (i := P.length + 0) (b := 92) K H d60_130 (A0) (by rw [List.length_append, List.length_append, List.length_drop]; simp only [List.length_cons, List.length_nil]; omega) (by decide) (ge) fun T105 h105 H105 W105 B105 => ?_
    have A1 : CA Z h105 e (P ++ [92] ++ r.drop 1) := by have q := B105; rw [put_at (xs := []) (k := 0) rfl (by omega)] at q; exact q
    replace KK : Keep h0 h105 [e] := KK.wr W105 (Or.inl (List.mem_singleton.mpr rfl))
    refine go_aloadN K H105 d60_131 rfl rfl ?_
    refine go_iloadN K H105 d60_132 rfl ?_
    refine go_iconst (1) K H105 d60_133 (by decide) ?_
    refine go_iadd K H105 d60_134 fun v106 ev106 => ?_
    obtain rfl : v106 = oN (P.length + 1) := ev106.trans (oN_add _ 1)
    refine go_bipush (117) K H105 d60_135 (by decide) ?_
    refine go_cS (i := P.length + 1) (b := 117) K H105 d60_137 (A1) (by rw [List.length_append, List.length_append, List.length_drop]; simp only [List.length_cons, List.length_nil]; omega) (by decide) (ge) fun T107 h107 H107 W107 B107 => ?_
    have A2 : CA Z h107 e (P ++ [92, 117] ++ r.drop 2) := by have q := B107; rw [put_at (xs := [92]) (k := 1) rfl (by omega)] at q; exact q
    replace KK : Keep h0 h107 [e] := KK.wr W107 (Or.inl (List.mem_singleton.mpr rfl))
    refine go_aloadN K H107 d60_138 rfl rfl ?_
    refine go_iloadN K H107 d60_139 rfl ?_
    refine go_iconst (2) K H107 d60_140 (by decide) ?_
    refine go_iadd K H107 d60_141 fun v108 ev108 => ?_
    obtain rfl : v108 = oN (P.length + 2) := ev108.trans (oN_add _ 2)
    refine go_iloadN K H107 d60_142 rfl ?_
    refine go_bipush (12) K H107 d60_143 (by decide) ?_
    refine go_ishr K H107 d60_145 fun v109 ev109 => ?_
    obtain rfl : v109 = oN (c / 4096) := ev109.trans ((oN_shr (k := 12) (by omega) (by decide)).trans (congrArg oN (by omega)))
    refine go_bipush (15) K H107 d60_146 (by decide) ?_
    refine go_iand K H107 d60_148 fun v110 ev110 => ?_
    obtain rfl : v110 = oN (c / 4096) := ev110.trans ((oN_and15 (by omega)).trans (congrArg oN (by omega)))
    refine go_callS [(.int (oN (c / 4096)))] K H107 d60_149 (hw _ (List.mem_of_getElem? (i := 35) rfl)) (hw _ (List.mem_of_getElem? (i := 36) rfl)) (hw _ (List.mem_of_getElem? (i := 33) rfl)) (hw _ (List.mem_of_getElem? (i := 37) rfl)) (st' := [(.int (oN (P.length + 2))), (.ref e)]) (by decide) (rmHx Z a0 hw _ n0 (at_size K H107) (c / 4096) (by omega)) pd36 rfl rfl rfl (by decide) (W := 2) rfl (by decide) (by decide) (by decide) fun T111 h111 v111 H111 q111 => ?_
    obtain ⟨z111, rfl, rfl, rfl⟩ := q111
    show Go _ _ _ 152 #[.val (.ref e), .val (.int (oN P.length)), .val (.int (oN c))] [(.int (oN (hexd (c / 4096)))), (.int (oN (P.length + 2))), (.ref e)]
    refine go_cS (i := P.length + 2) (b := hexd (c / 4096)) K H111 d60_152 (A2) (by rw [List.length_append, List.length_append, List.length_drop]; simp only [List.length_cons, List.length_nil]; omega) (Nat.lt_trans (hexd_lt (by omega)) (by decide)) (ge) fun T112 h112 H112 W112 B112 => ?_
    have A3 : CA Z h112 e (P ++ [92, 117, hexd (c / 4096)] ++ r.drop 3) := by have q := B112; rw [put_at (xs := [92, 117]) (k := 2) rfl (by omega)] at q; exact q
    replace KK : Keep h0 h112 [e] := KK.wr W112 (Or.inl (List.mem_singleton.mpr rfl))
    refine go_aloadN K H112 d60_153 rfl rfl ?_
    refine go_iloadN K H112 d60_154 rfl ?_
    refine go_iconst (3) K H112 d60_155 (by decide) ?_
    refine go_iadd K H112 d60_156 fun v113 ev113 => ?_
    obtain rfl : v113 = oN (P.length + 3) := ev113.trans (oN_add _ 3)
    refine go_iloadN K H112 d60_157 rfl ?_
    refine go_bipush (8) K H112 d60_158 (by decide) ?_
    refine go_ishr K H112 d60_160 fun v114 ev114 => ?_
    obtain rfl : v114 = oN (c / 256) := ev114.trans ((oN_shr (k := 8) (by omega) (by decide)).trans (congrArg oN (by omega)))
    refine go_bipush (15) K H112 d60_161 (by decide) ?_
    refine go_iand K H112 d60_163 fun v115 ev115 => ?_
    obtain rfl : v115 = oN (c / 256 % 16) := ev115.trans ((oN_and15 (by omega)).trans (congrArg oN (by omega)))
    refine go_callS [(.int (oN (c / 256 % 16)))] K H112 d60_164 (hw _ (List.mem_of_getElem? (i := 35) rfl)) (hw _ (List.mem_of_getElem? (i := 36) rfl)) (hw _ (List.mem_of_getElem? (i := 33) rfl)) (hw _ (List.mem_of_getElem? (i := 37) rfl)) (st' := [(.int (oN (P.length + 3))), (.ref e)]) (by decide) (rmHx Z a0 hw _ n0 (at_size K H112) (c / 256 % 16) (by omega)) pd36 rfl rfl rfl (by decide) (W := 2) rfl (by decide) (by decide) (by decide) fun T116 h116 v116 H116 q116 => ?_
    obtain ⟨z116, rfl, rfl, rfl⟩ := q116
    show Go _ _ _ 167 #[.val (.ref e), .val (.int (oN P.length)), .val (.int (oN c))] [(.int (oN (hexd (c / 256 % 16)))), (.int (oN (P.length + 3))), (.ref e)]
    refine go_cS (i := P.length + 3) (b := hexd (c / 256 % 16)) K H116 d60_167 (A3) (by rw [List.length_append, List.length_append, List.length_drop]; simp only [List.length_cons, List.length_nil]; omega) (Nat.lt_trans (hexd_lt (by omega)) (by decide)) (ge) fun T117 h117 H117 W117 B117 => ?_
    have A4 : CA Z h117 e (P ++ [92, 117, hexd (c / 4096), hexd (c / 256 % 16)] ++ r.drop 4) := by have q := B117; rw [put_at (xs := [92, 117, hexd (c / 4096)]) (k := 3) rfl (by omega)] at q; exact q
    replace KK : Keep h0 h117 [e] := KK.wr W117 (Or.inl (List.mem_singleton.mpr rfl))
    refine go_aloadN K H117 d60_168 rfl rfl ?_
    refine go_iloadN K H117 d60_169 rfl ?_
    refine go_iconst (4) K H117 d60_170 (by decide) ?_
    refine go_iadd K H117 d60_171 fun v118 ev118 => ?_
    obtain rfl : v118 = oN (P.length + 4) := ev118.trans (oN_add _ 4)
    refine go_iloadN K H117 d60_172 rfl ?_
    refine go_iconst (4) K H117 d60_173 (by decide) ?_
    refine go_ishr K H117 d60_174 fun v119 ev119 => ?_
    obtain rfl : v119 = oN (c / 16) := ev119.trans ((oN_shr (k := 4) (by omega) (by decide)).trans (congrArg oN (by omega)))
    refine go_bipush (15) K H117 d60_175 (by decide) ?_
    refine go_iand K H117 d60_177 fun v120 ev120 => ?_
    obtain rfl : v120 = oN (c / 16 % 16) := ev120.trans ((oN_and15 (by omega)).trans (congrArg oN (by omega)))
    refine go_callS [(.int (oN (c / 16 % 16)))] K H117 d60_178 (hw _ (List.mem_of_getElem? (i := 35) rfl)) (hw _ (List.mem_of_getElem? (i := 36) rfl)) (hw _ (List.mem_of_getElem? (i := 33) rfl)) (hw _ (List.mem_of_getElem? (i := 37) rfl)) (st' := [(.int (oN (P.length + 4))), (.ref e)]) (by decide) (rmHx Z a0 hw _ n0 (at_size K H117) (c / 16 % 16) (by omega)) pd36 rfl rfl rfl (by decide) (W := 2) rfl (by decide) (by decide) (by decide) fun T121 h121 v121 H121 q121 => ?_
    obtain ⟨z121, rfl, rfl, rfl⟩ := q121
    show Go _ _ _ 181 #[.val (.ref e), .val (.int (oN P.length)), .val (.int (oN c))] [(.int (oN (hexd (c / 16 % 16)))), (.int (oN (P.length + 4))), (.ref e)]
    refine go_cS (i := P.length + 4) (b := hexd (c / 16 % 16)) K H121 d60_181 (A4) (by rw [List.length_append, List.length_append, List.length_drop]; simp only [List.length_cons, List.length_nil]; omega) (Nat.lt_trans (hexd_lt (by omega)) (by decide)) (ge) fun T122 h122 H122 W122 B122 => ?_
    have A5 : CA Z h122 e (P ++ [92, 117, hexd (c / 4096), hexd (c / 256 % 16), hexd (c / 16 % 16)] ++ r.drop 5) := by have q := B122; rw [put_at (xs := [92, 117, hexd (c / 4096), hexd (c / 256 % 16)]) (k := 4) rfl (by omega)] at q; exact q
    replace KK : Keep h0 h122 [e] := KK.wr W122 (Or.inl (List.mem_singleton.mpr rfl))
    refine go_aloadN K H122 d60_182 rfl rfl ?_
    refine go_iloadN K H122 d60_183 rfl ?_
    refine go_iconst (5) K H122 d60_184 (by decide) ?_
    refine go_iadd K H122 d60_185 fun v123 ev123 => ?_
    obtain rfl : v123 = oN (P.length + 5) := ev123.trans (oN_add _ 5)
    refine go_iloadN K H122 d60_186 rfl ?_
    refine go_bipush (15) K H122 d60_187 (by decide) ?_
    refine go_iand K H122 d60_189 fun v124 ev124 => ?_
    obtain rfl : v124 = oN (c % 16) := ev124.trans ((oN_and15 (by omega)).trans (congrArg oN (by omega)))
    refine go_callS [(.int (oN (c % 16)))] K H122 d60_190 (hw _ (List.mem_of_getElem? (i := 35) rfl)) (hw _ (List.mem_of_getElem? (i := 36) rfl)) (hw _ (List.mem_of_getElem? (i := 33) rfl)) (hw _ (List.mem_of_getElem? (i := 37) rfl)) (st' := [(.int (oN (P.length + 5))), (.ref e)]) (by decide) (rmHx Z a0 hw _ n0 (at_size K H122) (c % 16) (by omega)) pd36 rfl rfl rfl (by decide) (W := 2) rfl (by decide) (by decide) (by decide) fun T125 h125 v125 H125 q125 => ?_
    obtain ⟨z125, rfl, rfl, rfl⟩ := q125
    show Go _ _ _ 193 #[.val (.ref e), .val (.int (oN P.length)), .val (.int (oN c))] [(.int (oN (hexd (c % 16)))), (.int (oN (P.length + 5))), (.ref e)]
    refine go_cS (i := P.length + 5) (b := hexd (c % 16)) K H125 d60_193 (A5) (by rw [List.length_append, List.length_append, List.length_drop]; simp only [List.length_cons, List.length_nil]; omega) (Nat.lt_trans (hexd_lt (by omega)) (by decide)) (ge) fun T126 h126 H126 W126 B126 => ?_
    have A6 : CA Z h126 e (P ++ [92, 117, hexd (c / 4096), hexd (c / 256 % 16), hexd (c / 16 % 16), hexd (c % 16)] ++ r.drop 6) := by have q := B126; rw [put_at (xs := [92, 117, hexd (c / 4096), hexd (c / 256 % 16), hexd (c / 16 % 16)]) (k := 5) rfl (by omega)] at q; exact q
    replace KK : Keep h0 h126 [e] := KK.wr W126 (Or.inl (List.mem_singleton.mpr rfl))
    refine go_iloadN K H126 d60_194 rfl ?_
    refine go_bipush (6) K H126 d60_195 (by decide) ?_
    refine go_iadd K H126 d60_197 fun v127 ev127 => ?_
    obtain rfl : v127 = oN (P.length + 6) := ev127.trans (oN_add _ 6)
    have he : esc c = [92, 117, hexd (c / 4096), hexd (c / 256 % 16), hexd (c / 16 % 16), hexd (c % 16)] := by unfold esc; rw [if_neg hq1, if_neg hq2, if_neg hq3, if_neg hq4, if_pos hq5]
    exact go_iret K H126 d60_198 rfl (by decide) (by decide) (⟨by rw [he]; rfl, by rw [he]; exact A6, KK⟩)
  refine go_iloadN K H d60_0 rfl ?_
  refine go_bipush (34) K H d60_1 (by decide) ?_
  refine go_icmp_eq K H d60_3 (fun c1 => ?_) (fun c1 => ?_)
  · exact J12 (by (try simp (disch := omega) only [oN_toInt, Int32.lt_iff_toInt_lt, Int32.le_iff_toInt_le, ← Int32.toInt_inj, Int32.reduceToInt, ne_eq] at c1); omega)
  · refine go_iloadN K H d60_6 rfl ?_
    refine go_bipush (92) K H d60_7 (by decide) ?_
    refine go_icmp_ne K H d60_9 (fun c2 => ?_) (fun c2 => ?_)
    · have hq1 : ¬ (c = 34 ∨ c = 92) := by (try simp (disch := omega) only [oN_toInt, Int32.lt_iff_toInt_lt, Int32.le_iff_toInt_le, ← Int32.toInt_inj, Int32.reduceToInt, ne_eq] at c1); (try simp (disch := omega) only [oN_toInt, Int32.lt_iff_toInt_lt, Int32.le_iff_toInt_le, ← Int32.toInt_inj, Int32.reduceToInt, ne_eq] at c2); omega
      refine go_iloadN K H d60_27 rfl ?_
      refine go_bipush (9) K H d60_28 (by decide) ?_
      refine go_icmp_ne K H d60_30 (fun c3 => ?_) (fun c3 => ?_)
      · have hq2 : c ≠ 9 := by (try simp (disch := omega) only [oN_toInt, Int32.lt_iff_toInt_lt, Int32.le_iff_toInt_le, ← Int32.toInt_inj, Int32.reduceToInt, ne_eq] at c3); omega
        refine go_iloadN K H d60_49 rfl ?_
        refine go_bipush (10) K H d60_50 (by decide) ?_
        refine go_icmp_ne K H d60_52 (fun c4 => ?_) (fun c4 => ?_)
        · have hq3 : c ≠ 10 := by (try simp (disch := omega) only [oN_toInt, Int32.lt_iff_toInt_lt, Int32.le_iff_toInt_le, ← Int32.toInt_inj, Int32.reduceToInt, ne_eq] at c4); omega
          refine go_iloadN K H d60_71 rfl ?_
          refine go_bipush (13) K H d60_72 (by decide) ?_
          refine go_icmp_ne K H d60_74 (fun c5 => ?_) (fun c5 => ?_)
          · have hq4 : c ≠ 13 := by (try simp (disch := omega) only [oN_toInt, Int32.lt_iff_toInt_lt, Int32.le_iff_toInt_le, ← Int32.toInt_inj, Int32.reduceToInt, ne_eq] at c5); omega
            refine go_iloadN K H d60_93 rfl ?_
            refine go_bipush (32) K H d60_94 (by decide) ?_
            refine go_icmp_lt K H d60_96 (fun d6 => ?_) (fun d6 => ?_)
            · (try simp (disch := omega) only [oN_toInt, Int32.lt_iff_toInt_lt, Int32.le_iff_toInt_le, ← Int32.toInt_inj, Int32.reduceToInt, ne_eq] at d6)
              exact J126 hq1 hq2 hq3 hq4 (by unfold ctl; omega)
            · (try simp (disch := omega) only [oN_toInt, Int32.lt_iff_toInt_lt, Int32.le_iff_toInt_le, ← Int32.toInt_inj, Int32.reduceToInt, ne_eq] at d6)
              refine go_iloadN K H d60_99 rfl ?_
              refine go_bipush (127) K H d60_100 (by decide) ?_
              refine go_icmp_lt K H d60_102 (fun d7 => ?_) (fun d7 => ?_)
              · (try simp (disch := omega) only [oN_toInt, Int32.lt_iff_toInt_lt, Int32.le_iff_toInt_le, ← Int32.toInt_inj, Int32.reduceToInt, ne_eq] at d7)
                refine go_iloadN K H d60_112 rfl ?_
                refine go_sipush (8232) K H d60_113 (by decide) ?_
                refine go_icmp_eq K H d60_116 (fun d8 => ?_) (fun d8 => ?_)
                · (try simp (disch := omega) only [oN_toInt, Int32.lt_iff_toInt_lt, Int32.le_iff_toInt_le, ← Int32.toInt_inj, Int32.reduceToInt, ne_eq] at d8)
                  exact J126 hq1 hq2 hq3 hq4 (by unfold ctl; omega)
                · (try simp (disch := omega) only [oN_toInt, Int32.lt_iff_toInt_lt, Int32.le_iff_toInt_le, ← Int32.toInt_inj, Int32.reduceToInt, ne_eq] at d8)
                  refine go_iloadN K H d60_119 rfl ?_
                  refine go_sipush (8233) K H d60_120 (by decide) ?_
                  refine go_icmp_ne K H d60_123 (fun d9 => ?_) (fun d9 => ?_)
                  · (try simp (disch := omega) only [oN_toInt, Int32.lt_iff_toInt_lt, Int32.le_iff_toInt_le, ← Int32.toInt_inj, Int32.reduceToInt, ne_eq] at d9)
                    have hq5 : ¬ ctl c := by unfold ctl; omega
                    refine go_aloadN K H d60_199 rfl rfl ?_
                    refine go_iloadN K H d60_200 rfl ?_
                    refine go_iloadN K H d60_201 rfl ?_
                    refine go_cS (i := P.length + 0) (b := c) K H d60_202 (A0) (by rw [List.length_append, List.length_append, List.length_drop]; simp only [List.length_cons, List.length_nil]; omega) (c6) (ge) fun T128 h128 H128 W128 B128 => ?_
                    have A1 : CA Z h128 e (P ++ [c] ++ r.drop 1) := by have q := B128; rw [put_at (xs := []) (k := 0) rfl (by omega)] at q; exact q
                    replace KK : Keep h0 h128 [e] := KK.wr W128 (Or.inl (List.mem_singleton.mpr rfl))
                    refine go_iloadN K H128 d60_203 rfl ?_
                    refine go_iconst (1) K H128 d60_204 (by decide) ?_
                    refine go_iadd K H128 d60_205 fun v129 ev129 => ?_
                    obtain rfl : v129 = oN (P.length + 1) := ev129.trans (oN_add _ 1)
                    have he : esc c = [c] := by unfold esc; rw [if_neg hq1, if_neg hq2, if_neg hq3, if_neg hq4, if_neg hq5]
                    exact go_iret K H128 d60_206 rfl (by decide) (by decide) (⟨by rw [he]; rfl, by rw [he]; exact A1, KK⟩)
                  · (try simp (disch := omega) only [oN_toInt, Int32.lt_iff_toInt_lt, Int32.le_iff_toInt_le, ← Int32.toInt_inj, Int32.reduceToInt, ne_eq] at d9)
                    exact J126 hq1 hq2 hq3 hq4 (by unfold ctl; omega)
              · (try simp (disch := omega) only [oN_toInt, Int32.lt_iff_toInt_lt, Int32.le_iff_toInt_le, ← Int32.toInt_inj, Int32.reduceToInt, ne_eq] at d7)
                refine go_iloadN K H d60_105 rfl ?_
                refine go_sipush (160) K H d60_106 (by decide) ?_
                refine go_icmp_lt K H d60_109 (fun da => ?_) (fun da => ?_)
                · (try simp (disch := omega) only [oN_toInt, Int32.lt_iff_toInt_lt, Int32.le_iff_toInt_le, ← Int32.toInt_inj, Int32.reduceToInt, ne_eq] at da)
                  exact J126 hq1 hq2 hq3 hq4 (by unfold ctl; omega)
                · (try simp (disch := omega) only [oN_toInt, Int32.lt_iff_toInt_lt, Int32.le_iff_toInt_le, ← Int32.toInt_inj, Int32.reduceToInt, ne_eq] at da)
                  refine go_iloadN K H d60_112 rfl ?_
                  refine go_sipush (8232) K H d60_113 (by decide) ?_
                  refine go_icmp_eq K H d60_116 (fun d8 => ?_) (fun d8 => ?_)
                  · (try simp (disch := omega) only [oN_toInt, Int32.lt_iff_toInt_lt, Int32.le_iff_toInt_le, ← Int32.toInt_inj, Int32.reduceToInt, ne_eq] at d8)
                    exact J126 hq1 hq2 hq3 hq4 (by unfold ctl; omega)
                  · (try simp (disch := omega) only [oN_toInt, Int32.lt_iff_toInt_lt, Int32.le_iff_toInt_le, ← Int32.toInt_inj, Int32.reduceToInt, ne_eq] at d8)
                    refine go_iloadN K H d60_119 rfl ?_
                    refine go_sipush (8233) K H d60_120 (by decide) ?_
                    refine go_icmp_ne K H d60_123 (fun d9 => ?_) (fun d9 => ?_)
                    · (try simp (disch := omega) only [oN_toInt, Int32.lt_iff_toInt_lt, Int32.le_iff_toInt_le, ← Int32.toInt_inj, Int32.reduceToInt, ne_eq] at d9)
                      have hq5 : ¬ ctl c := by unfold ctl; omega
                      refine go_aloadN K H d60_199 rfl rfl ?_
                      refine go_iloadN K H d60_200 rfl ?_
                      refine go_iloadN K H d60_201 rfl ?_
                      refine go_cS (i := P.length + 0) (b := c) K H d60_202 (A0) (by rw [List.length_append, List.length_append, List.length_drop]; simp only [List.length_cons, List.length_nil]; omega) (c6) (ge) fun T130 h130 H130 W130 B130 => ?_
                      have A1 : CA Z h130 e (P ++ [c] ++ r.drop 1) := by have q := B130; rw [put_at (xs := []) (k := 0) rfl (by omega)] at q; exact q
                      replace KK : Keep h0 h130 [e] := KK.wr W130 (Or.inl (List.mem_singleton.mpr rfl))
                      refine go_iloadN K H130 d60_203 rfl ?_
                      refine go_iconst (1) K H130 d60_204 (by decide) ?_
                      refine go_iadd K H130 d60_205 fun v131 ev131 => ?_
                      obtain rfl : v131 = oN (P.length + 1) := ev131.trans (oN_add _ 1)
                      have he : esc c = [c] := by unfold esc; rw [if_neg hq1, if_neg hq2, if_neg hq3, if_neg hq4, if_neg hq5]
                      exact go_iret K H130 d60_206 rfl (by decide) (by decide) (⟨by rw [he]; rfl, by rw [he]; exact A1, KK⟩)
                    · (try simp (disch := omega) only [oN_toInt, Int32.lt_iff_toInt_lt, Int32.le_iff_toInt_le, ← Int32.toInt_inj, Int32.reduceToInt, ne_eq] at d9)
                      exact J126 hq1 hq2 hq3 hq4 (by unfold ctl; omega)
          · have hq4 : c = 13 := by (try simp (disch := omega) only [oN_toInt, Int32.lt_iff_toInt_lt, Int32.le_iff_toInt_le, ← Int32.toInt_inj, Int32.reduceToInt, ne_eq] at c5); omega
            refine go_aloadN K H d60_77 rfl rfl ?_
            refine go_iloadN K H d60_78 rfl ?_
            refine go_bipush (92) K H d60_79 (by decide) ?_
            refine go_cS (i := P.length + 0) (b := 92) K H d60_81 (A0) (by rw [List.length_append, List.length_append, List.length_drop]; simp only [List.length_cons, List.length_nil]; omega) (by decide) (ge) fun T132 h132 H132 W132 B132 => ?_
            have A1 : CA Z h132 e (P ++ [92] ++ r.drop 1) := by have q := B132; rw [put_at (xs := []) (k := 0) rfl (by omega)] at q; exact q
            replace KK : Keep h0 h132 [e] := KK.wr W132 (Or.inl (List.mem_singleton.mpr rfl))
            refine go_aloadN K H132 d60_82 rfl rfl ?_
            refine go_iloadN K H132 d60_83 rfl ?_
            refine go_iconst (1) K H132 d60_84 (by decide) ?_
            refine go_iadd K H132 d60_85 fun v133 ev133 => ?_
            obtain rfl : v133 = oN (P.length + 1) := ev133.trans (oN_add _ 1)
            refine go_bipush (114) K H132 d60_86 (by decide) ?_
            refine go_cS (i := P.length + 1) (b := 114) K H132 d60_88 (A1) (by rw [List.length_append, List.length_append, List.length_drop]; simp only [List.length_cons, List.length_nil]; omega) (by decide) (ge) fun T134 h134 H134 W134 B134 => ?_
            have A2 : CA Z h134 e (P ++ [92, 114] ++ r.drop 2) := by have q := B134; rw [put_at (xs := [92]) (k := 1) rfl (by omega)] at q; exact q
            replace KK : Keep h0 h134 [e] := KK.wr W134 (Or.inl (List.mem_singleton.mpr rfl))
            refine go_iloadN K H134 d60_89 rfl ?_
            refine go_iconst (2) K H134 d60_90 (by decide) ?_
            refine go_iadd K H134 d60_91 fun v135 ev135 => ?_
            obtain rfl : v135 = oN (P.length + 2) := ev135.trans (oN_add _ 2)
            have he : esc c = [92, 114] := by unfold esc; rw [if_neg hq1, if_neg hq2, if_neg hq3, if_pos hq4]
            exact go_iret K H134 d60_92 rfl (by decide) (by decide) (⟨by rw [he]; rfl, by rw [he]; exact A2, KK⟩)
        · have hq3 : c = 10 := by (try simp (disch := omega) only [oN_toInt, Int32.lt_iff_toInt_lt, Int32.le_iff_toInt_le, ← Int32.toInt_inj, Int32.reduceToInt, ne_eq] at c4); omega
          refine go_aloadN K H d60_55 rfl rfl ?_
          refine go_iloadN K H d60_56 rfl ?_
          refine go_bipush (92) K H d60_57 (by decide) ?_
          refine go_cS (i := P.length + 0) (b := 92) K H d60_59 (A0) (by rw [List.length_append, List.length_append, List.length_drop]; simp only [List.length_cons, List.length_nil]; omega) (by decide) (ge) fun T136 h136 H136 W136 B136 => ?_
          have A1 : CA Z h136 e (P ++ [92] ++ r.drop 1) := by have q := B136; rw [put_at (xs := []) (k := 0) rfl (by omega)] at q; exact q
          replace KK : Keep h0 h136 [e] := KK.wr W136 (Or.inl (List.mem_singleton.mpr rfl))
          refine go_aloadN K H136 d60_60 rfl rfl ?_
          refine go_iloadN K H136 d60_61 rfl ?_
          refine go_iconst (1) K H136 d60_62 (by decide) ?_
          refine go_iadd K H136 d60_63 fun v137 ev137 => ?_
          obtain rfl : v137 = oN (P.length + 1) := ev137.trans (oN_add _ 1)
          refine go_bipush (110) K H136 d60_64 (by decide) ?_
          refine go_cS (i := P.length + 1) (b := 110) K H136 d60_66 (A1) (by rw [List.length_append, List.length_append, List.length_drop]; simp only [List.length_cons, List.length_nil]; omega) (by decide) (ge) fun T138 h138 H138 W138 B138 => ?_
          have A2 : CA Z h138 e (P ++ [92, 110] ++ r.drop 2) := by have q := B138; rw [put_at (xs := [92]) (k := 1) rfl (by omega)] at q; exact q
          replace KK : Keep h0 h138 [e] := KK.wr W138 (Or.inl (List.mem_singleton.mpr rfl))
          refine go_iloadN K H138 d60_67 rfl ?_
          refine go_iconst (2) K H138 d60_68 (by decide) ?_
          refine go_iadd K H138 d60_69 fun v139 ev139 => ?_
          obtain rfl : v139 = oN (P.length + 2) := ev139.trans (oN_add _ 2)
          have he : esc c = [92, 110] := by unfold esc; rw [if_neg hq1, if_neg hq2, if_pos hq3]
          exact go_iret K H138 d60_70 rfl (by decide) (by decide) (⟨by rw [he]; rfl, by rw [he]; exact A2, KK⟩)
      · have hq2 : c = 9 := by (try simp (disch := omega) only [oN_toInt, Int32.lt_iff_toInt_lt, Int32.le_iff_toInt_le, ← Int32.toInt_inj, Int32.reduceToInt, ne_eq] at c3); omega
        refine go_aloadN K H d60_33 rfl rfl ?_
        refine go_iloadN K H d60_34 rfl ?_
        refine go_bipush (92) K H d60_35 (by decide) ?_
        refine go_cS (i := P.length + 0) (b := 92) K H d60_37 (A0) (by rw [List.length_append, List.length_append, List.length_drop]; simp only [List.length_cons, List.length_nil]; omega) (by decide) (ge) fun T140 h140 H140 W140 B140 => ?_
        have A1 : CA Z h140 e (P ++ [92] ++ r.drop 1) := by have q := B140; rw [put_at (xs := []) (k := 0) rfl (by omega)] at q; exact q
        replace KK : Keep h0 h140 [e] := KK.wr W140 (Or.inl (List.mem_singleton.mpr rfl))
        refine go_aloadN K H140 d60_38 rfl rfl ?_
        refine go_iloadN K H140 d60_39 rfl ?_
        refine go_iconst (1) K H140 d60_40 (by decide) ?_
        refine go_iadd K H140 d60_41 fun v141 ev141 => ?_
        obtain rfl : v141 = oN (P.length + 1) := ev141.trans (oN_add _ 1)
        refine go_bipush (116) K H140 d60_42 (by decide) ?_
        refine go_cS (i := P.length + 1) (b := 116) K H140 d60_44 (A1) (by rw [List.length_append, List.length_append, List.length_drop]; simp only [List.length_cons, List.length_nil]; omega) (by decide) (ge) fun T142 h142 H142 W142 B142 => ?_
        have A2 : CA Z h142 e (P ++ [92, 116] ++ r.drop 2) := by have q := B142; rw [put_at (xs := [92]) (k := 1) rfl (by omega)] at q; exact q
        replace KK : Keep h0 h142 [e] := KK.wr W142 (Or.inl (List.mem_singleton.mpr rfl))
        refine go_iloadN K H142 d60_45 rfl ?_
        refine go_iconst (2) K H142 d60_46 (by decide) ?_
        refine go_iadd K H142 d60_47 fun v143 ev143 => ?_
        obtain rfl : v143 = oN (P.length + 2) := ev143.trans (oN_add _ 2)
        have he : esc c = [92, 116] := by unfold esc; rw [if_neg hq1, if_pos hq2]
        exact go_iret K H142 d60_48 rfl (by decide) (by decide) (⟨by rw [he]; rfl, by rw [he]; exact A2, KK⟩)
    · exact J12 (by (try simp (disch := omega) only [oN_toInt, Int32.lt_iff_toInt_lt, Int32.le_iff_toInt_le, ← Int32.toInt_inj, Int32.reduceToInt, ne_eq] at c2); omega)
set_option maxRecDepth 65536 in
set_option maxHeartbeats 40000000 in
theorem rmSm (Z : State) (a0 : Array Value) (hw : ∀ d ∈ tables_1, d.before a0 Z = true) (s : Addr) (e : Addr) (h0 : Heap) (n0 : Nat) (Z0 : n0 ≤ h0.size) (ss : SSt Z) (X0 : Ext Z.heap h0) (v : Addr) (cd : Nat) (L : List Nat) (S : Sx Z h0 s v cd L) (es : List Nat) (A : CA Z h0 e es) (i : Nat) (i14 : i ≤ 13) (hs : ∀ c, L[i]? = some c → es[i]? = some c ∧ c < 65536) (lau : Launch) :
    Con lau Z (⟨"com/example/bellwether/bellwether/model/LiteralsQuotePinLaw", "same", "(Ljava/lang/String;[CI)Z"⟩ : MethodName) method_3_code 3 (some .boolean) ({ frames := 5, cells := 0, slots := 0, locals := 66 } : Room) #[(.ref s), (.ref e), (.int (oN i))] h0 n0 (RI fun z h => z = 1 ∧ h0 = h) := by
  refine con_intro pn61 (L := #[.val (.ref s), .val (.ref e), .val (.int (oN i))]) (fun m => by first | (simp [entryFrame, mkF, argsToLocals, Value.category, maxLocals]; done) | rfl) Z0 (fun w T K H => ?_)
  have ll := S.len
  refine go_iloadN K H d61_0 rfl ?_
  refine go_aloadN K H d61_1 rfl rfl ?_
  refine go_callV [] K H d61_2 (S.1) (hw _ (List.mem_of_getElem? (i := 217) rfl)) (hw _ (List.mem_of_getElem? (i := 46) rfl)) (nf_sel (hw _ (List.mem_of_getElem? (i := 48) rfl))) (hw _ (List.mem_of_getElem? (i := 48) rfl)) (hw _ (List.mem_of_getElem? (i := 47) rfl)) (hw _ (List.mem_of_getElem? (i := 3) rfl)) (hw _ (List.mem_of_getElem? (i := 49) rfl)) (st' := [(.int (oN i))]) (by decide) (rmLe Z a0 hw _ _ n0 (at_size K H) ss X0 v cd L S) pd23 rfl rfl rfl (by decide) (W := 1) rfl (by decide) (by decide) (by decide) fun T101 h101 v101 H101 q101 => ?_
  obtain ⟨z101, rfl, rfl, rfl⟩ := q101
  show Go _ _ _ 5 #[.val (.ref s), .val (.ref e), .val (.int (oN i))] [(.int (oN L.length)), (.int (oN i))]
  refine go_icmp_ge K H101 d61_5 (fun cc => ?_) (fun cc => ?_)
  · refine go_iconst (1) K H101 d61_19 (by decide) ?_
    refine go_goto K H101 d61_20 ?_
    exact go_zret K H101 d61_24 rfl (by decide) (by decide) (by decide) (⟨rfl, rfl⟩)
  · obtain ⟨c, hc⟩ : ∃ c, L[i]? = some c := ⟨_, List.getElem?_eq_getElem (by (try simp (disch := omega) only [oN_toInt, Int32.lt_iff_toInt_lt, Int32.le_iff_toInt_le, ← Int32.toInt_inj, Int32.reduceToInt, ne_eq] at cc); omega)⟩
    obtain ⟨he, c6⟩ := hs c hc
    refine go_aloadN K H101 d61_8 rfl rfl ?_
    refine go_iloadN K H101 d61_9 rfl ?_
    refine go_callV [(.int (oN i))] K H101 d61_10 (S.1) (hw _ (List.mem_of_getElem? (i := 221) rfl)) (hw _ (List.mem_of_getElem? (i := 97) rfl)) (nf_sel (hw _ (List.mem_of_getElem? (i := 99) rfl))) (hw _ (List.mem_of_getElem? (i := 99) rfl)) (hw _ (List.mem_of_getElem? (i := 98) rfl)) (hw _ (List.mem_of_getElem? (i := 3) rfl)) (hw _ (List.mem_of_getElem? (i := 100) rfl)) (st' := []) (by decide) (rmCA Z a0 hw _ _ n0 (at_size K H101) ss X0 v cd L S i c hc c6) pd36 rfl rfl rfl (by decide) (W := 0) rfl (by decide) (by decide) (by decide) fun T102 h102 v102 H102 q102 => ?_
    obtain ⟨z102, rfl, rfl, rfl⟩ := q102
    show Go _ _ _ 13 #[.val (.ref s), .val (.ref e), .val (.int (oN i))] [(.int (oN c))]
    refine go_aloadN K H102 d61_13 rfl rfl ?_
    refine go_iloadN K H102 d61_14 rfl ?_
    refine go_cL K H102 d61_15 (A) (he) ?_
    refine go_icmp_ne K H102 d61_16 (fun c2 => False.elim (by exact c2 rfl)) (fun c2 => ?_)
    refine go_iconst (1) K H102 d61_19 (by decide) ?_
    refine go_goto K H102 d61_20 ?_
    exact go_zret K H102 d61_24 rfl (by decide) (by decide) (by decide) (⟨rfl, rfl⟩)
set_option maxRecDepth 65536 in
set_option maxHeartbeats 40000000 in
theorem qturn0 (Z : State) (a0 : Array Value) (hw : ∀ d ∈ tables_1, d.before a0 Z = true) (hEL : EW Z a0 consts_1) (ss : SSt Z) (hx : Addr) (HX : Sta Z Z.heap "com/example/bellwether/bellwether/model/Literals" "HEX" "[C" (.ref hx)) (HA : CA Z Z.heap hx ((List.range 16).map hexd)) (n0 : Nat) (hz : Z.heap.size ≤ n0) (s0 : State) (h0 : Heap) (w : Wk) (T : State) (h : Heap) (t tv : Addr) (tcd : Nat) (M : List Nat) (b v : Addr) (cd : Nat) (L js : List Nat) (x3 : Slot) (K : Cx w ({ frames := 10, cells := 32, slots := 1636, locals := 150 } : Room) Z n0 "com/example/bellwether/bellwether/model/Literals" prog_10_method_2_code 4 (some (.object "java/lang/String")) "quote") (q : QS Z n0 w s0 h0 h t tv tcd M b v cd L js) (H : At1 w T h 4 136) (Q : Option Value → State → List Loc → Prop) (i c : Nat) (hc : M[i]? = some c) (c6 : c < 65536) (l8 : L.length + 7 ≤ 14) (hx3 : x3 = .unset ∨ ∃ z : Int32, x3 = .val (.int z))
    (G : ∀ w' T' h' v' cd' js', Cx w' ({ frames := 10, cells := 32, slots := 1636, locals := 150 } : Room) Z n0 "com/example/bellwether/bellwether/model/Literals" prog_10_method_2_code 4 (some (.object "java/lang/String")) "quote" → At1 w' T' h' 16 788 → QS Z n0 w' s0 h0 h' t tv tcd M b v' cd' (L ++ esc c) js' → Go w' Q T' 218 #[.val (.ref t), .val (.ref b), .val (.int (oN i)), .val (.int (oN c))] []) : Go w Q T 21 #[.val (.ref t), .val (.ref b), .val (.int (oN i)), x3] [] := by
  have ml := q.2.1.len; have hi := lt_of_at hc
  have hst : storeLocals #[.val (.ref t), .val (.ref b), .val (.int (oN i)), x3] 3 (.int (oN c)) = some #[.val (.ref t), .val (.ref b), .val (.int (oN i)), .val (.int (oN c))] := by rcases hx3 with rfl | ⟨z, rfl⟩ <;> rfl
  refine go_iloadN K H d62_21 rfl ?_
  refine go_aloadN K H d62_22 rfl rfl ?_
  refine go_callV [] K H d62_23 (q.2.1.1) (hw _ (List.mem_of_getElem? (i := 45) rfl)) (hw _ (List.mem_of_getElem? (i := 46) rfl)) (nf_sel (hw _ (List.mem_of_getElem? (i := 48) rfl))) (hw _ (List.mem_of_getElem? (i := 48) rfl)) (hw _ (List.mem_of_getElem? (i := 47) rfl)) (hw _ (List.mem_of_getElem? (i := 3) rfl)) (hw _ (List.mem_of_getElem? (i := 49) rfl)) (st' := [(.int (oN i))]) (by decide) (rmLe Z a0 hw _ _ n0 (at_size K H) ss q.2.2.2.2.2.2.1 tv tcd M q.2.1) pd23 rfl rfl rfl (by decide) (W := 1) rfl (by decide) (by decide) (by decide) fun T101 h101 v101 H101 q101 => ?_
  obtain ⟨z101, rfl, rfl, rfl⟩ := q101
  show Go _ _ _ 26 #[.val (.ref t), .val (.ref b), .val (.int (oN i)), x3] [(.int (oN M.length)), (.int (oN i))]
  refine go_icmp_ge K H101 d62_26 (fun cc => False.elim (by (try simp (disch := omega) only [oN_toInt, Int32.lt_iff_toInt_lt, Int32.le_iff_toInt_le, ← Int32.toInt_inj, Int32.reduceToInt, ne_eq] at cc); omega)) (fun cc => ?_)
  refine go_aloadN K H101 d62_29 rfl rfl ?_
  refine go_iloadN K H101 d62_30 rfl ?_
  refine go_callV [(.int (oN i))] K H101 d62_31 (q.2.1.1) (hw _ (List.mem_of_getElem? (i := 96) rfl)) (hw _ (List.mem_of_getElem? (i := 97) rfl)) (nf_sel (hw _ (List.mem_of_getElem? (i := 99) rfl))) (hw _ (List.mem_of_getElem? (i := 99) rfl)) (hw _ (List.mem_of_getElem? (i := 98) rfl)) (hw _ (List.mem_of_getElem? (i := 3) rfl)) (hw _ (List.mem_of_getElem? (i := 100) rfl)) (st' := []) (by decide) (rmCA Z a0 hw _ _ n0 (at_size K H101) ss q.2.2.2.2.2.2.1 tv tcd M q.2.1 i c hc c6) pd36 rfl rfl rfl (by decide) (W := 0) rfl (by decide) (by decide) (by decide) fun T102 h102 v102 H102 q102 => ?_
  obtain ⟨z102, rfl, rfl, rfl⟩ := q102
  show Go _ _ _ 34 #[.val (.ref t), .val (.ref b), .val (.int (oN i)), x3] [(.int (oN c))]
  refine go_istoreN K H102 d62_34 (L' := #[.val (.ref t), .val (.ref b), .val (.int (oN i)), .val (.int (oN c))]) hst ?_
  refine go_iloadN K H102 d62_35 rfl ?_
  by_cases hq1 : c = 34 ∨ c = 92
  · rcases hq1 with rfl | rfl
    · refine go_lookupHit K H102 d62_36 (by decide) (b := 34) (off := 52) (by decide) (by decide) (yes := 88) (by decide) ?_
      refine go_aloadN K H102 d62_88 rfl rfl ?_
      refine go_bipush (92) K H102 d62_89 (by decide) ?_
      refine go_callV [(.int 92)] K H102 d62_91 (q.2.2.1.1) (hw _ (List.mem_of_getElem? (i := 70) rfl)) (hw _ (List.mem_of_getElem? (i := 71) rfl)) (nf_sel (hw _ (List.mem_of_getElem? (i := 73) rfl))) (hw _ (List.mem_of_getElem? (i := 73) rfl)) (hw _ (List.mem_of_getElem? (i := 72) rfl)) (hw _ (List.mem_of_getElem? (i := 44) rfl)) (hw _ (List.mem_of_getElem? (i := 74) rfl)) (st' := []) (by decide) (rmAp Z a0 hw _ _ n0 (at_size K H102) ss q.2.2.2.2.2.2.1 hz q.2.2.2.1 _ _ _ _ q.2.2.1 q.2.2.2.2.1 (92) (by decide) (by omega)) pd37 rfl rfl rfl (by decide) (W := 0) rfl (by decide) (by decide) (by decide) fun T103 h103 v103 H103 q103 => ?_
      obtain ⟨z103, rfl, hz103, rfl, v_q1, cd_q1, j_q1, g_q1, f_q1, B_q1, K_q1⟩ := q103
      show Go _ _ _ 94 #[.val (.ref t), .val (.ref b), .val (.int (oN i)), .val (.int (oN 34))] [(.ref b)]
      have q1 := q.app K hz K_q1 f_q1 g_q1 B_q1
      refine go_iloadN K H103 d62_94 rfl ?_
      refine go_callV [(.int (oN 34))] K H103 d62_95 (q1.2.2.1.1) (hw _ (List.mem_of_getElem? (i := 70) rfl)) (hw _ (List.mem_of_getElem? (i := 71) rfl)) (nf_sel (hw _ (List.mem_of_getElem? (i := 73) rfl))) (hw _ (List.mem_of_getElem? (i := 73) rfl)) (hw _ (List.mem_of_getElem? (i := 72) rfl)) (hw _ (List.mem_of_getElem? (i := 44) rfl)) (hw _ (List.mem_of_getElem? (i := 74) rfl)) (st' := []) (by decide) (rmAp Z a0 hw _ _ n0 (at_size K H103) ss q1.2.2.2.2.2.2.1 hz q1.2.2.2.1 _ _ _ _ q1.2.2.1 q1.2.2.2.2.1 (34) (by decide) (by simp only [List.length_append, List.length_cons, List.length_nil]; omega)) pd37 rfl rfl rfl (by decide) (W := 0) rfl (by decide) (by decide) (by decide) fun T104 h104 v104 H104 q104 => ?_
      obtain ⟨z104, rfl, hz104, rfl, v_q2, cd_q2, j_q2, g_q2, f_q2, B_q2, K_q2⟩ := q104
      show Go _ _ _ 98 #[.val (.ref t), .val (.ref b), .val (.int (oN i)), .val (.int (oN 34))] [(.ref b)]
      have q2 := q1.app K hz K_q2 f_q2 g_q2 B_q2
      refine go_pop K H104 d62_98 rfl ?_
      refine go_goto K H104 d62_99 ?_
      have he : esc 34 = [92, 34] := by decide
      exact G _ _ _ _ _ _ K (H104.mono (by decide) (by decide)) (q2.cong (by rw [he]; try simp only [List.append_assoc, List.cons_append, List.nil_append]))
    · refine go_lookupHit K H102 d62_36 (by decide) (b := 92) (off := 52) (by decide) (by decide) (yes := 88) (by decide) ?_
      refine go_aloadN K H102 d62_88 rfl rfl ?_
      refine go_bipush (92) K H102 d62_89 (by decide) ?_
      refine go_callV [(.int 92)] K H102 d62_91 (q.2.2.1.1) (hw _ (List.mem_of_getElem? (i := 70) rfl)) (hw _ (List.mem_of_getElem? (i := 71) rfl)) (nf_sel (hw _ (List.mem_of_getElem? (i := 73) rfl))) (hw _ (List.mem_of_getElem? (i := 73) rfl)) (hw _ (List.mem_of_getElem? (i := 72) rfl)) (hw _ (List.mem_of_getElem? (i := 44) rfl)) (hw _ (List.mem_of_getElem? (i := 74) rfl)) (st' := []) (by decide) (rmAp Z a0 hw _ _ n0 (at_size K H102) ss q.2.2.2.2.2.2.1 hz q.2.2.2.1 _ _ _ _ q.2.2.1 q.2.2.2.2.1 (92) (by decide) (by omega)) pd37 rfl rfl rfl (by decide) (W := 0) rfl (by decide) (by decide) (by decide) fun T105 h105 v105 H105 q105 => ?_
      obtain ⟨z105, rfl, hz105, rfl, v_q1, cd_q1, j_q1, g_q1, f_q1, B_q1, K_q1⟩ := q105
      show Go _ _ _ 94 #[.val (.ref t), .val (.ref b), .val (.int (oN i)), .val (.int (oN 92))] [(.ref b)]
      have q1 := q.app K hz K_q1 f_q1 g_q1 B_q1
      refine go_iloadN K H105 d62_94 rfl ?_
      refine go_callV [(.int (oN 92))] K H105 d62_95 (q1.2.2.1.1) (hw _ (List.mem_of_getElem? (i := 70) rfl)) (hw _ (List.mem_of_getElem? (i := 71) rfl)) (nf_sel (hw _ (List.mem_of_getElem? (i := 73) rfl))) (hw _ (List.mem_of_getElem? (i := 73) rfl)) (hw _ (List.mem_of_getElem? (i := 72) rfl)) (hw _ (List.mem_of_getElem? (i := 44) rfl)) (hw _ (List.mem_of_getElem? (i := 74) rfl)) (st' := []) (by decide) (rmAp Z a0 hw _ _ n0 (at_size K H105) ss q1.2.2.2.2.2.2.1 hz q1.2.2.2.1 _ _ _ _ q1.2.2.1 q1.2.2.2.2.1 (92) (by decide) (by simp only [List.length_append, List.length_cons, List.length_nil]; omega)) pd37 rfl rfl rfl (by decide) (W := 0) rfl (by decide) (by decide) (by decide) fun T106 h106 v106 H106 q106 => ?_
      obtain ⟨z106, rfl, hz106, rfl, v_q2, cd_q2, j_q2, g_q2, f_q2, B_q2, K_q2⟩ := q106
      show Go _ _ _ 98 #[.val (.ref t), .val (.ref b), .val (.int (oN i)), .val (.int (oN 92))] [(.ref b)]
      have q2 := q1.app K hz K_q2 f_q2 g_q2 B_q2
      refine go_pop K H106 d62_98 rfl ?_
      refine go_goto K H106 d62_99 ?_
      have he : esc 92 = [92, 92] := by decide
      exact G _ _ _ _ _ _ K (H106.mono (by decide) (by decide)) (q2.cong (by rw [he]; try simp only [List.append_assoc, List.cons_append, List.nil_append]))
  · by_cases h9 : c = 9
    · obtain rfl := h9
      refine go_lookupHit K H102 d62_36 (by decide) (b := 9) (off := 66) (by decide) (by decide) (yes := 102) (by decide) ?_
      refine go_aloadN K H102 d62_102 rfl rfl ?_
      refine go_ldcH (text := "\\t") [92, 116] K H102 q.1 hEL d62_103 (hw _ (List.mem_of_getElem? (i := 303) rfl)) (strA hw) (by simp [consts_1]) (by decide) (by decide) (by decide) (nn := 8) (by decide) (by decide) (by decide) (by decide) fun w107 T107 h107 s107 b107 K107 H107 I107 E107 A107 C107 V107 B107 F107 N107 => ?_
      have ql := q.ldc E107 I107 F107; have nl := ql.lit K107 A107 N107
      refine go_callV [(.ref s107)] K107 H107 d62_105 (ql.2.2.1.1) (hw _ (List.mem_of_getElem? (i := 127) rfl)) (hw _ (List.mem_of_getElem? (i := 128) rfl)) (nf_sel (hw _ (List.mem_of_getElem? (i := 130) rfl))) (hw _ (List.mem_of_getElem? (i := 130) rfl)) (hw _ (List.mem_of_getElem? (i := 129) rfl)) (hw _ (List.mem_of_getElem? (i := 44) rfl)) (hw _ (List.mem_of_getElem? (i := 131) rfl)) (st' := []) (by decide) (rmAt Z a0 hw _ _ _ n0 (at_size K107 H107) ss ql.2.2.2.2.2.2.1 hz ql.2.2.2.1 _ _ _ _ ql.2.2.1 ql.2.2.2.2.1 b107 [92, 116] ⟨A107, V107, C107, B107, Or.inl rfl⟩ nl.1 nl.2.1 nl.2.2.1 nl.2.2.2 (by simp only [List.length_append, List.length_cons, List.length_nil]; omega)) pd38 rfl rfl rfl (by decide) (W := 0) rfl (by decide) (by decide) (by decide) fun T108 h108 v108 H108 q108 => ?_
      obtain ⟨z108, rfl, hz108, rfl, v_q1, cd_q1, j_q1, g_q1, f_q1, B_q1, K_q1⟩ := q108
      show Go _ _ _ 108 #[.val (.ref t), .val (.ref b), .val (.int (oN i)), .val (.int (oN 9))] [(.ref b)]
      have q1 := ql.app K107 hz K_q1 f_q1 g_q1 B_q1
      refine go_pop K107 H108 d62_108 rfl ?_
      refine go_goto K107 H108 d62_109 ?_
      have he : esc 9 = [92, 116] := by decide
      exact G _ _ _ _ _ _ K107 (H108.mono (by decide) (by decide)) (q1.cong (by rw [he]; try simp only [List.append_assoc, List.cons_append, List.nil_append]))
    · by_cases h10 : c = 10
      · obtain rfl := h10
        refine go_lookupHit K H102 d62_36 (by decide) (b := 10) (off := 76) (by decide) (by decide) (yes := 112) (by decide) ?_
        refine go_aloadN K H102 d62_112 rfl rfl ?_
        refine go_ldcH (text := "\\n") [92, 110] K H102 q.1 hEL d62_113 (hw _ (List.mem_of_getElem? (i := 304) rfl)) (strA hw) (by simp [consts_1]) (by decide) (by decide) (by decide) (nn := 8) (by decide) (by decide) (by decide) (by decide) fun w109 T109 h109 s109 b109 K109 H109 I109 E109 A109 C109 V109 B109 F109 N109 => ?_
        have ql := q.ldc E109 I109 F109; have nl := ql.lit K109 A109 N109
        refine go_callV [(.ref s109)] K109 H109 d62_115 (ql.2.2.1.1) (hw _ (List.mem_of_getElem? (i := 127) rfl)) (hw _ (List.mem_of_getElem? (i := 128) rfl)) (nf_sel (hw _ (List.mem_of_getElem? (i := 130) rfl))) (hw _ (List.mem_of_getElem? (i := 130) rfl)) (hw _ (List.mem_of_getElem? (i := 129) rfl)) (hw _ (List.mem_of_getElem? (i := 44) rfl)) (hw _ (List.mem_of_getElem? (i := 131) rfl)) (st' := []) (by decide) (rmAt Z a0 hw _ _ _ n0 (at_size K109 H109) ss ql.2.2.2.2.2.2.1 hz ql.2.2.2.1 _ _ _ _ ql.2.2.1 ql.2.2.2.2.1 b109 [92, 110] ⟨A109, V109, C109, B109, Or.inl rfl⟩ nl.1 nl.2.1 nl.2.2.1 nl.2.2.2 (by simp only [List.length_append, List.length_cons, List.length_nil]; omega)) pd38 rfl rfl rfl (by decide) (W := 0) rfl (by decide) (by decide) (by decide) fun T110 h110 v110 H110 q110 => ?_
        obtain ⟨z110, rfl, hz110, rfl, v_q1, cd_q1, j_q1, g_q1, f_q1, B_q1, K_q1⟩ := q110
        show Go _ _ _ 118 #[.val (.ref t), .val (.ref b), .val (.int (oN i)), .val (.int (oN 10))] [(.ref b)]
        have q1 := ql.app K109 hz K_q1 f_q1 g_q1 B_q1
        refine go_pop K109 H110 d62_118 rfl ?_
        refine go_goto K109 H110 d62_119 ?_
        have he : esc 10 = [92, 110] := by decide
        exact G _ _ _ _ _ _ K109 (H110.mono (by decide) (by decide)) (q1.cong (by rw [he]; try simp only [List.append_assoc, List.cons_append, List.nil_append]))
      · by_cases h13 : c = 13
        · obtain rfl := h13
          refine go_lookupHit K H102 d62_36 (by decide) (b := 13) (off := 86) (by decide) (by decide) (yes := 122) (by decide) ?_
          refine go_aloadN K H102 d62_122 rfl rfl ?_
          refine go_ldcH (text := "\\r") [92, 114] K H102 q.1 hEL d62_123 (hw _ (List.mem_of_getElem? (i := 301) rfl)) (strA hw) (by simp [consts_1]) (by decide) (by decide) (by decide) (nn := 8) (by decide) (by decide) (by decide) (by decide) fun w111 T111 h111 s111 b111 K111 H111 I111 E111 A111 C111 V111 B111 F111 N111 => ?_
          have ql := q.ldc E111 I111 F111; have nl := ql.lit K111 A111 N111
          refine go_callV [(.ref s111)] K111 H111 d62_125 (ql.2.2.1.1) (hw _ (List.mem_of_getElem? (i := 127) rfl)) (hw _ (List.mem_of_getElem? (i := 128) rfl)) (nf_sel (hw _ (List.mem_of_getElem? (i := 130) rfl))) (hw _ (List.mem_of_getElem? (i := 130) rfl)) (hw _ (List.mem_of_getElem? (i := 129) rfl)) (hw _ (List.mem_of_getElem? (i := 44) rfl)) (hw _ (List.mem_of_getElem? (i := 131) rfl)) (st' := []) (by decide) (rmAt Z a0 hw _ _ _ n0 (at_size K111 H111) ss ql.2.2.2.2.2.2.1 hz ql.2.2.2.1 _ _ _ _ ql.2.2.1 ql.2.2.2.2.1 b111 [92, 114] ⟨A111, V111, C111, B111, Or.inl rfl⟩ nl.1 nl.2.1 nl.2.2.1 nl.2.2.2 (by simp only [List.length_append, List.length_cons, List.length_nil]; omega)) pd38 rfl rfl rfl (by decide) (W := 0) rfl (by decide) (by decide) (by decide) fun T112 h112 v112 H112 q112 => ?_
          obtain ⟨z112, rfl, hz112, rfl, v_q1, cd_q1, j_q1, g_q1, f_q1, B_q1, K_q1⟩ := q112
          show Go _ _ _ 128 #[.val (.ref t), .val (.ref b), .val (.int (oN i)), .val (.int (oN 13))] [(.ref b)]
          have q1 := ql.app K111 hz K_q1 f_q1 g_q1 B_q1
          refine go_pop K111 H112 d62_128 rfl ?_
          refine go_goto K111 H112 d62_129 ?_
          have he : esc 13 = [92, 114] := by decide
          exact G _ _ _ _ _ _ K111 (H112.mono (by decide) (by decide)) (q1.cong (by rw [he]; try simp only [List.append_assoc, List.cons_append, List.nil_append]))
        · refine go_lookupMiss K H102 d62_36 (by decide) (fun p (hp : p ∈ [(9, 66), (10, 76), (13, 86), (34, 52), (92, 52)]) => by rw [oN_toInt (by omega)]; simp only [List.mem_cons, List.not_mem_nil, or_false] at hp; rcases hp with rfl | rfl | rfl | rfl | rfl <;> (simp only []; omega)) (by decide) (no := 132) (by decide) ?_
          have J153 : ∀ T5, At1 w T5 h 4 136 → ctl c → Go w Q T5 153 #[.val (.ref t), .val (.ref b), .val (.int (oN i)), .val (.int (oN c))] [] := by
            intro T5 H5 hq5
            refine go_aloadN K H5 d62_153 rfl rfl ?_
            refine go_ldcH (text := "\\u") [92, 117] K H5 q.1 hEL d62_154 (hw _ (List.mem_of_getElem? (i := 124) rfl)) (strA hw) (by simp [consts_1]) (by decide) (by decide) (by decide) (nn := 8) (by decide) (by decide) (by decide) (by decide) fun w113 T113 h113 s113 b113 K113 H113 I113 E113 A113 C113 V113 B113 F113 N113 => ?_
            have ql := q.ldc E113 I113 F113; have nl := ql.lit K113 A113 N113
            refine go_callV [(.ref s113)] K113 H113 d62_156 (ql.2.2.1.1) (hw _ (List.mem_of_getElem? (i := 127) rfl)) (hw _ (List.mem_of_getElem? (i := 128) rfl)) (nf_sel (hw _ (List.mem_of_getElem? (i := 130) rfl))) (hw _ (List.mem_of_getElem? (i := 130) rfl)) (hw _ (List.mem_of_getElem? (i := 129) rfl)) (hw _ (List.mem_of_getElem? (i := 44) rfl)) (hw _ (List.mem_of_getElem? (i := 131) rfl)) (st' := []) (by decide) (rmAt Z a0 hw _ _ _ n0 (at_size K113 H113) ss ql.2.2.2.2.2.2.1 hz ql.2.2.2.1 _ _ _ _ ql.2.2.1 ql.2.2.2.2.1 b113 [92, 117] ⟨A113, V113, C113, B113, Or.inl rfl⟩ nl.1 nl.2.1 nl.2.2.1 nl.2.2.2 (by simp only [List.length_append, List.length_cons, List.length_nil]; omega)) pd38 rfl rfl rfl (by decide) (W := 0) rfl (by decide) (by decide) (by decide) fun T114 h114 v114 H114 q114 => ?_
            obtain ⟨z114, rfl, hz114, rfl, v_q1, cd_q1, j_q1, g_q1, f_q1, B_q1, K_q1⟩ := q114
            show Go _ _ _ 159 #[.val (.ref t), .val (.ref b), .val (.int (oN i)), .val (.int (oN c))] [(.ref b)]
            have q1 := ql.app K113 hz K_q1 f_q1 g_q1 B_q1
            refine go_getstatic K113 H114 d62_159 (host := "") (Or.inl (hw _ (List.mem_of_getElem? (i := 157) rfl))) Via.refl (HX.ext q1.2.2.2.2.2.2.1) fun T115 HT115 => ?_
            refine go_iloadN K113 HT115 d62_162 rfl ?_
            refine go_bipush (12) K113 HT115 d62_163 (by decide) ?_
            refine go_ishr K113 HT115 d62_165 fun v116 ev116 => ?_
            obtain rfl : v116 = oN (c / 4096) := ev116.trans ((oN_shr (k := 12) (by omega) (by decide)).trans (congrArg oN (by omega)))
            refine go_cL K113 HT115 d62_166 (HA.ext q1.2.2.2.2.2.2.1) (hex16 (by omega)) ?_
            refine go_callV [(.int (oN (hexd (c / 4096))))] K113 HT115 d62_167 (q1.2.2.1.1) (hw _ (List.mem_of_getElem? (i := 70) rfl)) (hw _ (List.mem_of_getElem? (i := 71) rfl)) (nf_sel (hw _ (List.mem_of_getElem? (i := 73) rfl))) (hw _ (List.mem_of_getElem? (i := 73) rfl)) (hw _ (List.mem_of_getElem? (i := 72) rfl)) (hw _ (List.mem_of_getElem? (i := 44) rfl)) (hw _ (List.mem_of_getElem? (i := 74) rfl)) (st' := []) (by decide) (rmAp Z a0 hw _ _ n0 (at_size K113 HT115) ss q1.2.2.2.2.2.2.1 hz q1.2.2.2.1 _ _ _ _ q1.2.2.1 q1.2.2.2.2.1 (hexd (c / 4096)) (Nat.lt_trans (hexd_lt (by omega)) (by decide)) (by simp only [List.length_append, List.length_cons, List.length_nil]; omega)) pd37 rfl rfl rfl (by decide) (W := 0) rfl (by decide) (by decide) (by decide) fun T117 h117 v117 H117 q117 => ?_
            obtain ⟨z117, rfl, hz117, rfl, v_q2, cd_q2, j_q2, g_q2, f_q2, B_q2, K_q2⟩ := q117
            show Go _ _ _ 170 #[.val (.ref t), .val (.ref b), .val (.int (oN i)), .val (.int (oN c))] [(.ref b)]
            have q2 := q1.app K113 hz K_q2 f_q2 g_q2 B_q2
            refine go_getstatic K113 H117 d62_170 (host := "") (Or.inl (hw _ (List.mem_of_getElem? (i := 157) rfl))) Via.refl (HX.ext q2.2.2.2.2.2.2.1) fun T118 HT118 => ?_
            refine go_iloadN K113 HT118 d62_173 rfl ?_
            refine go_bipush (8) K113 HT118 d62_174 (by decide) ?_
            refine go_ishr K113 HT118 d62_176 fun v119 ev119 => ?_
            obtain rfl : v119 = oN (c / 256) := ev119.trans ((oN_shr (k := 8) (by omega) (by decide)).trans (congrArg oN (by omega)))
            refine go_bipush (15) K113 HT118 d62_177 (by decide) ?_
            refine go_iand K113 HT118 d62_179 fun v120 ev120 => ?_
            obtain rfl : v120 = oN (c / 256 % 16) := ev120.trans ((oN_and15 (by omega)).trans (congrArg oN (by omega)))
            refine go_cL K113 HT118 d62_180 (HA.ext q2.2.2.2.2.2.2.1) (hex16 (by omega)) ?_
            refine go_callV [(.int (oN (hexd (c / 256 % 16))))] K113 HT118 d62_181 (q2.2.2.1.1) (hw _ (List.mem_of_getElem? (i := 70) rfl)) (hw _ (List.mem_of_getElem? (i := 71) rfl)) (nf_sel (hw _ (List.mem_of_getElem? (i := 73) rfl))) (hw _ (List.mem_of_getElem? (i := 73) rfl)) (hw _ (List.mem_of_getElem? (i := 72) rfl)) (hw _ (List.mem_of_getElem? (i := 44) rfl)) (hw _ (List.mem_of_getElem? (i := 74) rfl)) (st' := []) (by decide) (rmAp Z a0 hw _ _ n0 (at_size K113 HT118) ss q2.2.2.2.2.2.2.1 hz q2.2.2.2.1 _ _ _ _ q2.2.2.1 q2.2.2.2.2.1 (hexd (c / 256 % 16)) (Nat.lt_trans (hexd_lt (by omega)) (by decide)) (by simp only [List.length_append, List.length_cons, List.length_nil]; omega)) pd37 rfl rfl rfl (by decide) (W := 0) rfl (by decide) (by decide) (by decide) fun T121 h121 v121 H121 q121 => ?_
            obtain ⟨z121, rfl, hz121, rfl, v_q3, cd_q3, j_q3, g_q3, f_q3, B_q3, K_q3⟩ := q121
            show Go _ _ _ 184 #[.val (.ref t), .val (.ref b), .val (.int (oN i)), .val (.int (oN c))] [(.ref b)]
            have q3 := q2.app K113 hz K_q3 f_q3 g_q3 B_q3
            refine go_getstatic K113 H121 d62_184 (host := "") (Or.inl (hw _ (List.mem_of_getElem? (i := 157) rfl))) Via.refl (HX.ext q3.2.2.2.2.2.2.1) fun T122 HT122 => ?_
            refine go_iloadN K113 HT122 d62_187 rfl ?_
            refine go_iconst (4) K113 HT122 d62_188 (by decide) ?_
            refine go_ishr K113 HT122 d62_189 fun v123 ev123 => ?_
            obtain rfl : v123 = oN (c / 16) := ev123.trans ((oN_shr (k := 4) (by omega) (by decide)).trans (congrArg oN (by omega)))
            refine go_bipush (15) K113 HT122 d62_190 (by decide) ?_
            refine go_iand K113 HT122 d62_192 fun v124 ev124 => ?_
            obtain rfl : v124 = oN (c / 16 % 16) := ev124.trans ((oN_and15 (by omega)).trans (congrArg oN (by omega)))
            refine go_cL K113 HT122 d62_193 (HA.ext q3.2.2.2.2.2.2.1) (hex16 (by omega)) ?_
            refine go_callV [(.int (oN (hexd (c / 16 % 16))))] K113 HT122 d62_194 (q3.2.2.1.1) (hw _ (List.mem_of_getElem? (i := 70) rfl)) (hw _ (List.mem_of_getElem? (i := 71) rfl)) (nf_sel (hw _ (List.mem_of_getElem? (i := 73) rfl))) (hw _ (List.mem_of_getElem? (i := 73) rfl)) (hw _ (List.mem_of_getElem? (i := 72) rfl)) (hw _ (List.mem_of_getElem? (i := 44) rfl)) (hw _ (List.mem_of_getElem? (i := 74) rfl)) (st' := []) (by decide) (rmAp Z a0 hw _ _ n0 (at_size K113 HT122) ss q3.2.2.2.2.2.2.1 hz q3.2.2.2.1 _ _ _ _ q3.2.2.1 q3.2.2.2.2.1 (hexd (c / 16 % 16)) (Nat.lt_trans (hexd_lt (by omega)) (by decide)) (by simp only [List.length_append, List.length_cons, List.length_nil]; omega)) pd37 rfl rfl rfl (by decide) (W := 0) rfl (by decide) (by decide) (by decide) fun T125 h125 v125 H125 q125 => ?_
            obtain ⟨z125, rfl, hz125, rfl, v_q4, cd_q4, j_q4, g_q4, f_q4, B_q4, K_q4⟩ := q125
            show Go _ _ _ 197 #[.val (.ref t), .val (.ref b), .val (.int (oN i)), .val (.int (oN c))] [(.ref b)]
            have q4 := q3.app K113 hz K_q4 f_q4 g_q4 B_q4
            refine go_getstatic K113 H125 d62_197 (host := "") (Or.inl (hw _ (List.mem_of_getElem? (i := 157) rfl))) Via.refl (HX.ext q4.2.2.2.2.2.2.1) fun T126 HT126 => ?_
            refine go_iloadN K113 HT126 d62_200 rfl ?_
            refine go_bipush (15) K113 HT126 d62_201 (by decide) ?_
            refine go_iand K113 HT126 d62_203 fun v127 ev127 => ?_
            obtain rfl : v127 = oN (c % 16) := ev127.trans ((oN_and15 (by omega)).trans (congrArg oN (by omega)))
            refine go_cL K113 HT126 d62_204 (HA.ext q4.2.2.2.2.2.2.1) (hex16 (by omega)) ?_
            refine go_callV [(.int (oN (hexd (c % 16))))] K113 HT126 d62_205 (q4.2.2.1.1) (hw _ (List.mem_of_getElem? (i := 70) rfl)) (hw _ (List.mem_of_getElem? (i := 71) rfl)) (nf_sel (hw _ (List.mem_of_getElem? (i := 73) rfl))) (hw _ (List.mem_of_getElem? (i := 73) rfl)) (hw _ (List.mem_of_getElem? (i := 72) rfl)) (hw _ (List.mem_of_getElem? (i := 44) rfl)) (hw _ (List.mem_of_getElem? (i := 74) rfl)) (st' := []) (by decide) (rmAp Z a0 hw _ _ n0 (at_size K113 HT126) ss q4.2.2.2.2.2.2.1 hz q4.2.2.2.1 _ _ _ _ q4.2.2.1 q4.2.2.2.2.1 (hexd (c % 16)) (Nat.lt_trans (hexd_lt (by omega)) (by decide)) (by simp only [List.length_append, List.length_cons, List.length_nil]; omega)) pd37 rfl rfl rfl (by decide) (W := 0) rfl (by decide) (by decide) (by decide) fun T128 h128 v128 H128 q128 => ?_
            obtain ⟨z128, rfl, hz128, rfl, v_q5, cd_q5, j_q5, g_q5, f_q5, B_q5, K_q5⟩ := q128
            show Go _ _ _ 208 #[.val (.ref t), .val (.ref b), .val (.int (oN i)), .val (.int (oN c))] [(.ref b)]
            have q5 := q4.app K113 hz K_q5 f_q5 g_q5 B_q5
            refine go_pop K113 H128 d62_208 rfl ?_
            refine go_goto K113 H128 d62_209 ?_
            have he : esc c = [92, 117, hexd (c / 4096), hexd (c / 256 % 16), hexd (c / 16 % 16), hexd (c % 16)] := by unfold esc; rw [if_neg hq1, if_neg h9, if_neg h10, if_neg h13, if_pos hq5]
            exact G _ _ _ _ _ _ K113 (H128.mono (by decide) (by decide)) (q5.cong (by rw [he]; try simp only [List.append_assoc, List.cons_append, List.nil_append]))
          refine go_iloadN K H102 d62_132 rfl ?_
          refine go_callS [(.int (oN c))] K H102 d62_133 (hw _ (List.mem_of_getElem? (i := 117) rfl)) (hw _ (List.mem_of_getElem? (i := 118) rfl)) (hw _ (List.mem_of_getElem? (i := 119) rfl)) (hw _ (List.mem_of_getElem? (i := 120) rfl)) (st' := []) (by decide) (rmIc Z a0 hw _ n0 (at_size K H102) c c6) pd19 rfl rfl rfl (by decide) (W := 0) rfl (by decide) (by decide) (by decide) fun T129 h129 v129 H129 q129 => ?_
          obtain ⟨z129, rfl, rfl, rfl⟩ := q129
          show Go _ _ _ 136 #[.val (.ref t), .val (.ref b), .val (.int (oN i)), .val (.int (oN c))] [(.int (bI (c < 32 ∨ 127 ≤ c ∧ c < 160)))]
          refine go_if_ne K H129 d62_136 (fun e1 => ?_) (fun e1 => ?_)
          · have d1 := bI_ne0.mp e1
            exact J153 _ H129 (by unfold ctl; omega)
          · have d1 : ¬ (c < 32 ∨ 127 ≤ c ∧ c < 160) := by first | exact bI_eq0.mp e1 | exact bI_eq0.mp (Decidable.not_not.mp e1)
            refine go_iloadN K H129 d62_139 rfl ?_
            refine go_sipush (8232) K H129 d62_140 (by decide) ?_
            refine go_icmp_eq K H129 d62_143 (fun e2 => ?_) (fun e2 => ?_)
            · (try simp (disch := omega) only [oN_toInt, Int32.lt_iff_toInt_lt, Int32.le_iff_toInt_le, ← Int32.toInt_inj, Int32.reduceToInt, ne_eq] at e2)
              exact J153 _ H129 (by unfold ctl; omega)
            · (try simp (disch := omega) only [oN_toInt, Int32.lt_iff_toInt_lt, Int32.le_iff_toInt_le, ← Int32.toInt_inj, Int32.reduceToInt, ne_eq] at e2)
              refine go_iloadN K H129 d62_146 rfl ?_
              refine go_sipush (8233) K H129 d62_147 (by decide) ?_
              refine go_icmp_ne K H129 d62_150 (fun e3 => ?_) (fun e3 => ?_)
              · (try simp (disch := omega) only [oN_toInt, Int32.lt_iff_toInt_lt, Int32.le_iff_toInt_le, ← Int32.toInt_inj, Int32.reduceToInt, ne_eq] at e3)
                have hq5 : ¬ ctl c := by unfold ctl; omega
                refine go_aloadN K H129 d62_212 rfl rfl ?_
                refine go_iloadN K H129 d62_213 rfl ?_
                refine go_callV [(.int (oN c))] K H129 d62_214 (q.2.2.1.1) (hw _ (List.mem_of_getElem? (i := 70) rfl)) (hw _ (List.mem_of_getElem? (i := 71) rfl)) (nf_sel (hw _ (List.mem_of_getElem? (i := 73) rfl))) (hw _ (List.mem_of_getElem? (i := 73) rfl)) (hw _ (List.mem_of_getElem? (i := 72) rfl)) (hw _ (List.mem_of_getElem? (i := 44) rfl)) (hw _ (List.mem_of_getElem? (i := 74) rfl)) (st' := []) (by decide) (rmAp Z a0 hw _ _ n0 (at_size K H129) ss q.2.2.2.2.2.2.1 hz q.2.2.2.1 _ _ _ _ q.2.2.1 q.2.2.2.2.1 (c) (c6) (by omega)) pd37 rfl rfl rfl (by decide) (W := 0) rfl (by decide) (by decide) (by decide) fun T130 h130 v130 H130 q130 => ?_
                obtain ⟨z130, rfl, hz130, rfl, v_q1, cd_q1, j_q1, g_q1, f_q1, B_q1, K_q1⟩ := q130
                show Go _ _ _ 217 #[.val (.ref t), .val (.ref b), .val (.int (oN i)), .val (.int (oN c))] [(.ref b)]
                have q1 := q.app K hz K_q1 f_q1 g_q1 B_q1
                refine go_pop K H130 d62_217 rfl ?_
                have he : esc c = [c] := by unfold esc; rw [if_neg hq1, if_neg h9, if_neg h10, if_neg h13, if_neg hq5]
                exact G _ _ _ _ _ _ K (H130.mono (by decide) (by decide)) (q1.cong (by rw [he]; try simp only [List.append_assoc, List.cons_append, List.nil_append]))
              · (try simp (disch := omega) only [oN_toInt, Int32.lt_iff_toInt_lt, Int32.le_iff_toInt_le, ← Int32.toInt_inj, Int32.reduceToInt, ne_eq] at e3)
                exact J153 _ H129 (by unfold ctl; omega)
set_option maxRecDepth 65536 in
set_option maxHeartbeats 40000000 in
theorem qturn1 (Z : State) (a0 : Array Value) (hw : ∀ d ∈ tables_1, d.before a0 Z = true) (hEL : EW Z a0 consts_1) (ss : SSt Z) (hx : Addr) (HX : Sta Z Z.heap "com/example/bellwether/bellwether/model/Literals" "HEX" "[C" (.ref hx)) (HA : CA Z Z.heap hx ((List.range 16).map hexd)) (n0 : Nat) (hz : Z.heap.size ≤ n0) (s0 : State) (h0 : Heap) (w : Wk) (T : State) (h : Heap) (t tv : Addr) (tcd : Nat) (M : List Nat) (b v : Addr) (cd : Nat) (L js : List Nat) (x3 : Slot) (K : Cx w ({ frames := 10, cells := 32, slots := 1636, locals := 150 } : Room) Z n0 "com/example/bellwether/bellwether/model/Literals" prog_10_method_2_code 4 (some (.object "java/lang/String")) "quote") (q : QS Z n0 w s0 h0 h t tv tcd M b v cd L js) (H : At1 w T h 16 788) (Q : Option Value → State → List Loc → Prop) (i c : Nat) (hc : M[i]? = some c) (c6 : c < 65536) (l8 : L.length + 7 ≤ 14) (hx3 : x3 = .unset ∨ ∃ z : Int32, x3 = .val (.int z))
    (G : ∀ w' T' h' v' cd' js', Cx w' ({ frames := 10, cells := 32, slots := 1636, locals := 150 } : Room) Z n0 "com/example/bellwether/bellwether/model/Literals" prog_10_method_2_code 4 (some (.object "java/lang/String")) "quote" → At1 w' T' h' 28 1440 → QS Z n0 w' s0 h0 h' t tv tcd M b v' cd' (L ++ esc c) js' → Go w' Q T' 218 #[.val (.ref t), .val (.ref b), .val (.int (oN i)), .val (.int (oN c))] []) : Go w Q T 21 #[.val (.ref t), .val (.ref b), .val (.int (oN i)), x3] [] := by
  have ml := q.2.1.len; have hi := lt_of_at hc
  have hst : storeLocals #[.val (.ref t), .val (.ref b), .val (.int (oN i)), x3] 3 (.int (oN c)) = some #[.val (.ref t), .val (.ref b), .val (.int (oN i)), .val (.int (oN c))] := by rcases hx3 with rfl | ⟨z, rfl⟩ <;> rfl
  refine go_iloadN K H d62_21 rfl ?_
  refine go_aloadN K H d62_22 rfl rfl ?_
  refine go_callV [] K H d62_23 (q.2.1.1) (hw _ (List.mem_of_getElem? (i := 45) rfl)) (hw _ (List.mem_of_getElem? (i := 46) rfl)) (nf_sel (hw _ (List.mem_of_getElem? (i := 48) rfl))) (hw _ (List.mem_of_getElem? (i := 48) rfl)) (hw _ (List.mem_of_getElem? (i := 47) rfl)) (hw _ (List.mem_of_getElem? (i := 3) rfl)) (hw _ (List.mem_of_getElem? (i := 49) rfl)) (st' := [(.int (oN i))]) (by decide) (rmLe Z a0 hw _ _ n0 (at_size K H) ss q.2.2.2.2.2.2.1 tv tcd M q.2.1) pd23 rfl rfl rfl (by decide) (W := 1) rfl (by decide) (by decide) (by decide) fun T101 h101 v101 H101 q101 => ?_
  obtain ⟨z101, rfl, rfl, rfl⟩ := q101
  show Go _ _ _ 26 #[.val (.ref t), .val (.ref b), .val (.int (oN i)), x3] [(.int (oN M.length)), (.int (oN i))]
  refine go_icmp_ge K H101 d62_26 (fun cc => False.elim (by (try simp (disch := omega) only [oN_toInt, Int32.lt_iff_toInt_lt, Int32.le_iff_toInt_le, ← Int32.toInt_inj, Int32.reduceToInt, ne_eq] at cc); omega)) (fun cc => ?_)
  refine go_aloadN K H101 d62_29 rfl rfl ?_
  refine go_iloadN K H101 d62_30 rfl ?_
  refine go_callV [(.int (oN i))] K H101 d62_31 (q.2.1.1) (hw _ (List.mem_of_getElem? (i := 96) rfl)) (hw _ (List.mem_of_getElem? (i := 97) rfl)) (nf_sel (hw _ (List.mem_of_getElem? (i := 99) rfl))) (hw _ (List.mem_of_getElem? (i := 99) rfl)) (hw _ (List.mem_of_getElem? (i := 98) rfl)) (hw _ (List.mem_of_getElem? (i := 3) rfl)) (hw _ (List.mem_of_getElem? (i := 100) rfl)) (st' := []) (by decide) (rmCA Z a0 hw _ _ n0 (at_size K H101) ss q.2.2.2.2.2.2.1 tv tcd M q.2.1 i c hc c6) pd36 rfl rfl rfl (by decide) (W := 0) rfl (by decide) (by decide) (by decide) fun T102 h102 v102 H102 q102 => ?_
  obtain ⟨z102, rfl, rfl, rfl⟩ := q102
  show Go _ _ _ 34 #[.val (.ref t), .val (.ref b), .val (.int (oN i)), x3] [(.int (oN c))]
  refine go_istoreN K H102 d62_34 (L' := #[.val (.ref t), .val (.ref b), .val (.int (oN i)), .val (.int (oN c))]) hst ?_
  refine go_iloadN K H102 d62_35 rfl ?_
  by_cases hq1 : c = 34 ∨ c = 92
  · rcases hq1 with rfl | rfl
    · refine go_lookupHit K H102 d62_36 (by decide) (b := 34) (off := 52) (by decide) (by decide) (yes := 88) (by decide) ?_
      refine go_aloadN K H102 d62_88 rfl rfl ?_
      refine go_bipush (92) K H102 d62_89 (by decide) ?_
      refine go_callV [(.int 92)] K H102 d62_91 (q.2.2.1.1) (hw _ (List.mem_of_getElem? (i := 70) rfl)) (hw _ (List.mem_of_getElem? (i := 71) rfl)) (nf_sel (hw _ (List.mem_of_getElem? (i := 73) rfl))) (hw _ (List.mem_of_getElem? (i := 73) rfl)) (hw _ (List.mem_of_getElem? (i := 72) rfl)) (hw _ (List.mem_of_getElem? (i := 44) rfl)) (hw _ (List.mem_of_getElem? (i := 74) rfl)) (st' := []) (by decide) (rmAp Z a0 hw _ _ n0 (at_size K H102) ss q.2.2.2.2.2.2.1 hz q.2.2.2.1 _ _ _ _ q.2.2.1 q.2.2.2.2.1 (92) (by decide) (by omega)) pd37 rfl rfl rfl (by decide) (W := 0) rfl (by decide) (by decide) (by decide) fun T103 h103 v103 H103 q103 => ?_
      obtain ⟨z103, rfl, hz103, rfl, v_q1, cd_q1, j_q1, g_q1, f_q1, B_q1, K_q1⟩ := q103
      show Go _ _ _ 94 #[.val (.ref t), .val (.ref b), .val (.int (oN i)), .val (.int (oN 34))] [(.ref b)]
      have q1 := q.app K hz K_q1 f_q1 g_q1 B_q1
      refine go_iloadN K H103 d62_94 rfl ?_
      refine go_callV [(.int (oN 34))] K H103 d62_95 (q1.2.2.1.1) (hw _ (List.mem_of_getElem? (i := 70) rfl)) (hw _ (List.mem_of_getElem? (i := 71) rfl)) (nf_sel (hw _ (List.mem_of_getElem? (i := 73) rfl))) (hw _ (List.mem_of_getElem? (i := 73) rfl)) (hw _ (List.mem_of_getElem? (i := 72) rfl)) (hw _ (List.mem_of_getElem? (i := 44) rfl)) (hw _ (List.mem_of_getElem? (i := 74) rfl)) (st' := []) (by decide) (rmAp Z a0 hw _ _ n0 (at_size K H103) ss q1.2.2.2.2.2.2.1 hz q1.2.2.2.1 _ _ _ _ q1.2.2.1 q1.2.2.2.2.1 (34) (by decide) (by simp only [List.length_append, List.length_cons, List.length_nil]; omega)) pd37 rfl rfl rfl (by decide) (W := 0) rfl (by decide) (by decide) (by decide) fun T104 h104 v104 H104 q104 => ?_
      obtain ⟨z104, rfl, hz104, rfl, v_q2, cd_q2, j_q2, g_q2, f_q2, B_q2, K_q2⟩ := q104
      show Go _ _ _ 98 #[.val (.ref t), .val (.ref b), .val (.int (oN i)), .val (.int (oN 34))] [(.ref b)]
      have q2 := q1.app K hz K_q2 f_q2 g_q2 B_q2
      refine go_pop K H104 d62_98 rfl ?_
      refine go_goto K H104 d62_99 ?_
      have he : esc 34 = [92, 34] := by decide
      exact G _ _ _ _ _ _ K (H104.mono (by decide) (by decide)) (q2.cong (by rw [he]; try simp only [List.append_assoc, List.cons_append, List.nil_append]))
    · refine go_lookupHit K H102 d62_36 (by decide) (b := 92) (off := 52) (by decide) (by decide) (yes := 88) (by decide) ?_
      refine go_aloadN K H102 d62_88 rfl rfl ?_
      refine go_bipush (92) K H102 d62_89 (by decide) ?_
      refine go_callV [(.int 92)] K H102 d62_91 (q.2.2.1.1) (hw _ (List.mem_of_getElem? (i := 70) rfl)) (hw _ (List.mem_of_getElem? (i := 71) rfl)) (nf_sel (hw _ (List.mem_of_getElem? (i := 73) rfl))) (hw _ (List.mem_of_getElem? (i := 73) rfl)) (hw _ (List.mem_of_getElem? (i := 72) rfl)) (hw _ (List.mem_of_getElem? (i := 44) rfl)) (hw _ (List.mem_of_getElem? (i := 74) rfl)) (st' := []) (by decide) (rmAp Z a0 hw _ _ n0 (at_size K H102) ss q.2.2.2.2.2.2.1 hz q.2.2.2.1 _ _ _ _ q.2.2.1 q.2.2.2.2.1 (92) (by decide) (by omega)) pd37 rfl rfl rfl (by decide) (W := 0) rfl (by decide) (by decide) (by decide) fun T105 h105 v105 H105 q105 => ?_
      obtain ⟨z105, rfl, hz105, rfl, v_q1, cd_q1, j_q1, g_q1, f_q1, B_q1, K_q1⟩ := q105
      show Go _ _ _ 94 #[.val (.ref t), .val (.ref b), .val (.int (oN i)), .val (.int (oN 92))] [(.ref b)]
      have q1 := q.app K hz K_q1 f_q1 g_q1 B_q1
      refine go_iloadN K H105 d62_94 rfl ?_
      refine go_callV [(.int (oN 92))] K H105 d62_95 (q1.2.2.1.1) (hw _ (List.mem_of_getElem? (i := 70) rfl)) (hw _ (List.mem_of_getElem? (i := 71) rfl)) (nf_sel (hw _ (List.mem_of_getElem? (i := 73) rfl))) (hw _ (List.mem_of_getElem? (i := 73) rfl)) (hw _ (List.mem_of_getElem? (i := 72) rfl)) (hw _ (List.mem_of_getElem? (i := 44) rfl)) (hw _ (List.mem_of_getElem? (i := 74) rfl)) (st' := []) (by decide) (rmAp Z a0 hw _ _ n0 (at_size K H105) ss q1.2.2.2.2.2.2.1 hz q1.2.2.2.1 _ _ _ _ q1.2.2.1 q1.2.2.2.2.1 (92) (by decide) (by simp only [List.length_append, List.length_cons, List.length_nil]; omega)) pd37 rfl rfl rfl (by decide) (W := 0) rfl (by decide) (by decide) (by decide) fun T106 h106 v106 H106 q106 => ?_
      obtain ⟨z106, rfl, hz106, rfl, v_q2, cd_q2, j_q2, g_q2, f_q2, B_q2, K_q2⟩ := q106
      show Go _ _ _ 98 #[.val (.ref t), .val (.ref b), .val (.int (oN i)), .val (.int (oN 92))] [(.ref b)]
      have q2 := q1.app K hz K_q2 f_q2 g_q2 B_q2
      refine go_pop K H106 d62_98 rfl ?_
      refine go_goto K H106 d62_99 ?_
      have he : esc 92 = [92, 92] := by decide
      exact G _ _ _ _ _ _ K (H106.mono (by decide) (by decide)) (q2.cong (by rw [he]; try simp only [List.append_assoc, List.cons_append, List.nil_append]))
  · by_cases h9 : c = 9
    · obtain rfl := h9
      refine go_lookupHit K H102 d62_36 (by decide) (b := 9) (off := 66) (by decide) (by decide) (yes := 102) (by decide) ?_
      refine go_aloadN K H102 d62_102 rfl rfl ?_
      refine go_ldcH (text := "\\t") [92, 116] K H102 q.1 hEL d62_103 (hw _ (List.mem_of_getElem? (i := 303) rfl)) (strA hw) (by simp [consts_1]) (by decide) (by decide) (by decide) (nn := 8) (by decide) (by decide) (by decide) (by decide) fun w107 T107 h107 s107 b107 K107 H107 I107 E107 A107 C107 V107 B107 F107 N107 => ?_
      have ql := q.ldc E107 I107 F107; have nl := ql.lit K107 A107 N107
      refine go_callV [(.ref s107)] K107 H107 d62_105 (ql.2.2.1.1) (hw _ (List.mem_of_getElem? (i := 127) rfl)) (hw _ (List.mem_of_getElem? (i := 128) rfl)) (nf_sel (hw _ (List.mem_of_getElem? (i := 130) rfl))) (hw _ (List.mem_of_getElem? (i := 130) rfl)) (hw _ (List.mem_of_getElem? (i := 129) rfl)) (hw _ (List.mem_of_getElem? (i := 44) rfl)) (hw _ (List.mem_of_getElem? (i := 131) rfl)) (st' := []) (by decide) (rmAt Z a0 hw _ _ _ n0 (at_size K107 H107) ss ql.2.2.2.2.2.2.1 hz ql.2.2.2.1 _ _ _ _ ql.2.2.1 ql.2.2.2.2.1 b107 [92, 116] ⟨A107, V107, C107, B107, Or.inl rfl⟩ nl.1 nl.2.1 nl.2.2.1 nl.2.2.2 (by simp only [List.length_append, List.length_cons, List.length_nil]; omega)) pd38 rfl rfl rfl (by decide) (W := 0) rfl (by decide) (by decide) (by decide) fun T108 h108 v108 H108 q108 => ?_
      obtain ⟨z108, rfl, hz108, rfl, v_q1, cd_q1, j_q1, g_q1, f_q1, B_q1, K_q1⟩ := q108
      show Go _ _ _ 108 #[.val (.ref t), .val (.ref b), .val (.int (oN i)), .val (.int (oN 9))] [(.ref b)]
      have q1 := ql.app K107 hz K_q1 f_q1 g_q1 B_q1
      refine go_pop K107 H108 d62_108 rfl ?_
      refine go_goto K107 H108 d62_109 ?_
      have he : esc 9 = [92, 116] := by decide
      exact G _ _ _ _ _ _ K107 (H108.mono (by decide) (by decide)) (q1.cong (by rw [he]; try simp only [List.append_assoc, List.cons_append, List.nil_append]))
    · by_cases h10 : c = 10
      · obtain rfl := h10
        refine go_lookupHit K H102 d62_36 (by decide) (b := 10) (off := 76) (by decide) (by decide) (yes := 112) (by decide) ?_
        refine go_aloadN K H102 d62_112 rfl rfl ?_
        refine go_ldcH (text := "\\n") [92, 110] K H102 q.1 hEL d62_113 (hw _ (List.mem_of_getElem? (i := 304) rfl)) (strA hw) (by simp [consts_1]) (by decide) (by decide) (by decide) (nn := 8) (by decide) (by decide) (by decide) (by decide) fun w109 T109 h109 s109 b109 K109 H109 I109 E109 A109 C109 V109 B109 F109 N109 => ?_
        have ql := q.ldc E109 I109 F109; have nl := ql.lit K109 A109 N109
        refine go_callV [(.ref s109)] K109 H109 d62_115 (ql.2.2.1.1) (hw _ (List.mem_of_getElem? (i := 127) rfl)) (hw _ (List.mem_of_getElem? (i := 128) rfl)) (nf_sel (hw _ (List.mem_of_getElem? (i := 130) rfl))) (hw _ (List.mem_of_getElem? (i := 130) rfl)) (hw _ (List.mem_of_getElem? (i := 129) rfl)) (hw _ (List.mem_of_getElem? (i := 44) rfl)) (hw _ (List.mem_of_getElem? (i := 131) rfl)) (st' := []) (by decide) (rmAt Z a0 hw _ _ _ n0 (at_size K109 H109) ss ql.2.2.2.2.2.2.1 hz ql.2.2.2.1 _ _ _ _ ql.2.2.1 ql.2.2.2.2.1 b109 [92, 110] ⟨A109, V109, C109, B109, Or.inl rfl⟩ nl.1 nl.2.1 nl.2.2.1 nl.2.2.2 (by simp only [List.length_append, List.length_cons, List.length_nil]; omega)) pd38 rfl rfl rfl (by decide) (W := 0) rfl (by decide) (by decide) (by decide) fun T110 h110 v110 H110 q110 => ?_
        obtain ⟨z110, rfl, hz110, rfl, v_q1, cd_q1, j_q1, g_q1, f_q1, B_q1, K_q1⟩ := q110
        show Go _ _ _ 118 #[.val (.ref t), .val (.ref b), .val (.int (oN i)), .val (.int (oN 10))] [(.ref b)]
        have q1 := ql.app K109 hz K_q1 f_q1 g_q1 B_q1
        refine go_pop K109 H110 d62_118 rfl ?_
        refine go_goto K109 H110 d62_119 ?_
        have he : esc 10 = [92, 110] := by decide
        exact G _ _ _ _ _ _ K109 (H110.mono (by decide) (by decide)) (q1.cong (by rw [he]; try simp only [List.append_assoc, List.cons_append, List.nil_append]))
      · by_cases h13 : c = 13
        · obtain rfl := h13
          refine go_lookupHit K H102 d62_36 (by decide) (b := 13) (off := 86) (by decide) (by decide) (yes := 122) (by decide) ?_
          refine go_aloadN K H102 d62_122 rfl rfl ?_
          refine go_ldcH (text := "\\r") [92, 114] K H102 q.1 hEL d62_123 (hw _ (List.mem_of_getElem? (i := 301) rfl)) (strA hw) (by simp [consts_1]) (by decide) (by decide) (by decide) (nn := 8) (by decide) (by decide) (by decide) (by decide) fun w111 T111 h111 s111 b111 K111 H111 I111 E111 A111 C111 V111 B111 F111 N111 => ?_
          have ql := q.ldc E111 I111 F111; have nl := ql.lit K111 A111 N111
          refine go_callV [(.ref s111)] K111 H111 d62_125 (ql.2.2.1.1) (hw _ (List.mem_of_getElem? (i := 127) rfl)) (hw _ (List.mem_of_getElem? (i := 128) rfl)) (nf_sel (hw _ (List.mem_of_getElem? (i := 130) rfl))) (hw _ (List.mem_of_getElem? (i := 130) rfl)) (hw _ (List.mem_of_getElem? (i := 129) rfl)) (hw _ (List.mem_of_getElem? (i := 44) rfl)) (hw _ (List.mem_of_getElem? (i := 131) rfl)) (st' := []) (by decide) (rmAt Z a0 hw _ _ _ n0 (at_size K111 H111) ss ql.2.2.2.2.2.2.1 hz ql.2.2.2.1 _ _ _ _ ql.2.2.1 ql.2.2.2.2.1 b111 [92, 114] ⟨A111, V111, C111, B111, Or.inl rfl⟩ nl.1 nl.2.1 nl.2.2.1 nl.2.2.2 (by simp only [List.length_append, List.length_cons, List.length_nil]; omega)) pd38 rfl rfl rfl (by decide) (W := 0) rfl (by decide) (by decide) (by decide) fun T112 h112 v112 H112 q112 => ?_
          obtain ⟨z112, rfl, hz112, rfl, v_q1, cd_q1, j_q1, g_q1, f_q1, B_q1, K_q1⟩ := q112
          show Go _ _ _ 128 #[.val (.ref t), .val (.ref b), .val (.int (oN i)), .val (.int (oN 13))] [(.ref b)]
          have q1 := ql.app K111 hz K_q1 f_q1 g_q1 B_q1
          refine go_pop K111 H112 d62_128 rfl ?_
          refine go_goto K111 H112 d62_129 ?_
          have he : esc 13 = [92, 114] := by decide
          exact G _ _ _ _ _ _ K111 (H112.mono (by decide) (by decide)) (q1.cong (by rw [he]; try simp only [List.append_assoc, List.cons_append, List.nil_append]))
        · refine go_lookupMiss K H102 d62_36 (by decide) (fun p (hp : p ∈ [(9, 66), (10, 76), (13, 86), (34, 52), (92, 52)]) => by rw [oN_toInt (by omega)]; simp only [List.mem_cons, List.not_mem_nil, or_false] at hp; rcases hp with rfl | rfl | rfl | rfl | rfl <;> (simp only []; omega)) (by decide) (no := 132) (by decide) ?_
          have J153 : ∀ T5, At1 w T5 h 16 788 → ctl c → Go w Q T5 153 #[.val (.ref t), .val (.ref b), .val (.int (oN i)), .val (.int (oN c))] [] := by
            intro T5 H5 hq5
            refine go_aloadN K H5 d62_153 rfl rfl ?_
            refine go_ldcH (text := "\\u") [92, 117] K H5 q.1 hEL d62_154 (hw _ (List.mem_of_getElem? (i := 124) rfl)) (strA hw) (by simp [consts_1]) (by decide) (by decide) (by decide) (nn := 8) (by decide) (by decide) (by decide) (by decide) fun w113 T113 h113 s113 b113 K113 H113 I113 E113 A113 C113 V113 B113 F113 N113 => ?_
            have ql := q.ldc E113 I113 F113; have nl := ql.lit K113 A113 N113
            refine go_callV [(.ref s113)] K113 H113 d62_156 (ql.2.2.1.1) (hw _ (List.mem_of_getElem? (i := 127) rfl)) (hw _ (List.mem_of_getElem? (i := 128) rfl)) (nf_sel (hw _ (List.mem_of_getElem? (i := 130) rfl))) (hw _ (List.mem_of_getElem? (i := 130) rfl)) (hw _ (List.mem_of_getElem? (i := 129) rfl)) (hw _ (List.mem_of_getElem? (i := 44) rfl)) (hw _ (List.mem_of_getElem? (i := 131) rfl)) (st' := []) (by decide) (rmAt Z a0 hw _ _ _ n0 (at_size K113 H113) ss ql.2.2.2.2.2.2.1 hz ql.2.2.2.1 _ _ _ _ ql.2.2.1 ql.2.2.2.2.1 b113 [92, 117] ⟨A113, V113, C113, B113, Or.inl rfl⟩ nl.1 nl.2.1 nl.2.2.1 nl.2.2.2 (by simp only [List.length_append, List.length_cons, List.length_nil]; omega)) pd38 rfl rfl rfl (by decide) (W := 0) rfl (by decide) (by decide) (by decide) fun T114 h114 v114 H114 q114 => ?_
            obtain ⟨z114, rfl, hz114, rfl, v_q1, cd_q1, j_q1, g_q1, f_q1, B_q1, K_q1⟩ := q114
            show Go _ _ _ 159 #[.val (.ref t), .val (.ref b), .val (.int (oN i)), .val (.int (oN c))] [(.ref b)]
            have q1 := ql.app K113 hz K_q1 f_q1 g_q1 B_q1
            refine go_getstatic K113 H114 d62_159 (host := "") (Or.inl (hw _ (List.mem_of_getElem? (i := 157) rfl))) Via.refl (HX.ext q1.2.2.2.2.2.2.1) fun T115 HT115 => ?_
            refine go_iloadN K113 HT115 d62_162 rfl ?_
            refine go_bipush (12) K113 HT115 d62_163 (by decide) ?_
            refine go_ishr K113 HT115 d62_165 fun v116 ev116 => ?_
            obtain rfl : v116 = oN (c / 4096) := ev116.trans ((oN_shr (k := 12) (by omega) (by decide)).trans (congrArg oN (by omega)))
            refine go_cL K113 HT115 d62_166 (HA.ext q1.2.2.2.2.2.2.1) (hex16 (by omega)) ?_
            refine go_callV [(.int (oN (hexd (c / 4096))))] K113 HT115 d62_167 (q1.2.2.1.1) (hw _ (List.mem_of_getElem? (i := 70) rfl)) (hw _ (List.mem_of_getElem? (i := 71) rfl)) (nf_sel (hw _ (List.mem_of_getElem? (i := 73) rfl))) (hw _ (List.mem_of_getElem? (i := 73) rfl)) (hw _ (List.mem_of_getElem? (i := 72) rfl)) (hw _ (List.mem_of_getElem? (i := 44) rfl)) (hw _ (List.mem_of_getElem? (i := 74) rfl)) (st' := []) (by decide) (rmAp Z a0 hw _ _ n0 (at_size K113 HT115) ss q1.2.2.2.2.2.2.1 hz q1.2.2.2.1 _ _ _ _ q1.2.2.1 q1.2.2.2.2.1 (hexd (c / 4096)) (Nat.lt_trans (hexd_lt (by omega)) (by decide)) (by simp only [List.length_append, List.length_cons, List.length_nil]; omega)) pd37 rfl rfl rfl (by decide) (W := 0) rfl (by decide) (by decide) (by decide) fun T117 h117 v117 H117 q117 => ?_
            obtain ⟨z117, rfl, hz117, rfl, v_q2, cd_q2, j_q2, g_q2, f_q2, B_q2, K_q2⟩ := q117
            show Go _ _ _ 170 #[.val (.ref t), .val (.ref b), .val (.int (oN i)), .val (.int (oN c))] [(.ref b)]
            have q2 := q1.app K113 hz K_q2 f_q2 g_q2 B_q2
            refine go_getstatic K113 H117 d62_170 (host := "") (Or.inl (hw _ (List.mem_of_getElem? (i := 157) rfl))) Via.refl (HX.ext q2.2.2.2.2.2.2.1) fun T118 HT118 => ?_
            refine go_iloadN K113 HT118 d62_173 rfl ?_
            refine go_bipush (8) K113 HT118 d62_174 (by decide) ?_
            refine go_ishr K113 HT118 d62_176 fun v119 ev119 => ?_
            obtain rfl : v119 = oN (c / 256) := ev119.trans ((oN_shr (k := 8) (by omega) (by decide)).trans (congrArg oN (by omega)))
            refine go_bipush (15) K113 HT118 d62_177 (by decide) ?_
            refine go_iand K113 HT118 d62_179 fun v120 ev120 => ?_
            obtain rfl : v120 = oN (c / 256 % 16) := ev120.trans ((oN_and15 (by omega)).trans (congrArg oN (by omega)))
            refine go_cL K113 HT118 d62_180 (HA.ext q2.2.2.2.2.2.2.1) (hex16 (by omega)) ?_
            refine go_callV [(.int (oN (hexd (c / 256 % 16))))] K113 HT118 d62_181 (q2.2.2.1.1) (hw _ (List.mem_of_getElem? (i := 70) rfl)) (hw _ (List.mem_of_getElem? (i := 71) rfl)) (nf_sel (hw _ (List.mem_of_getElem? (i := 73) rfl))) (hw _ (List.mem_of_getElem? (i := 73) rfl)) (hw _ (List.mem_of_getElem? (i := 72) rfl)) (hw _ (List.mem_of_getElem? (i := 44) rfl)) (hw _ (List.mem_of_getElem? (i := 74) rfl)) (st' := []) (by decide) (rmAp Z a0 hw _ _ n0 (at_size K113 HT118) ss q2.2.2.2.2.2.2.1 hz q2.2.2.2.1 _ _ _ _ q2.2.2.1 q2.2.2.2.2.1 (hexd (c / 256 % 16)) (Nat.lt_trans (hexd_lt (by omega)) (by decide)) (by simp only [List.length_append, List.length_cons, List.length_nil]; omega)) pd37 rfl rfl rfl (by decide) (W := 0) rfl (by decide) (by decide) (by decide) fun T121 h121 v121 H121 q121 => ?_
            obtain ⟨z121, rfl, hz121, rfl, v_q3, cd_q3, j_q3, g_q3, f_q3, B_q3, K_q3⟩ := q121
            show Go _ _ _ 184 #[.val (.ref t), .val (.ref b), .val (.int (oN i)), .val (.int (oN c))] [(.ref b)]
            have q3 := q2.app K113 hz K_q3 f_q3 g_q3 B_q3
            refine go_getstatic K113 H121 d62_184 (host := "") (Or.inl (hw _ (List.mem_of_getElem? (i := 157) rfl))) Via.refl (HX.ext q3.2.2.2.2.2.2.1) fun T122 HT122 => ?_
            refine go_iloadN K113 HT122 d62_187 rfl ?_
            refine go_iconst (4) K113 HT122 d62_188 (by decide) ?_
            refine go_ishr K113 HT122 d62_189 fun v123 ev123 => ?_
            obtain rfl : v123 = oN (c / 16) := ev123.trans ((oN_shr (k := 4) (by omega) (by decide)).trans (congrArg oN (by omega)))
            refine go_bipush (15) K113 HT122 d62_190 (by decide) ?_
            refine go_iand K113 HT122 d62_192 fun v124 ev124 => ?_
            obtain rfl : v124 = oN (c / 16 % 16) := ev124.trans ((oN_and15 (by omega)).trans (congrArg oN (by omega)))
            refine go_cL K113 HT122 d62_193 (HA.ext q3.2.2.2.2.2.2.1) (hex16 (by omega)) ?_
            refine go_callV [(.int (oN (hexd (c / 16 % 16))))] K113 HT122 d62_194 (q3.2.2.1.1) (hw _ (List.mem_of_getElem? (i := 70) rfl)) (hw _ (List.mem_of_getElem? (i := 71) rfl)) (nf_sel (hw _ (List.mem_of_getElem? (i := 73) rfl))) (hw _ (List.mem_of_getElem? (i := 73) rfl)) (hw _ (List.mem_of_getElem? (i := 72) rfl)) (hw _ (List.mem_of_getElem? (i := 44) rfl)) (hw _ (List.mem_of_getElem? (i := 74) rfl)) (st' := []) (by decide) (rmAp Z a0 hw _ _ n0 (at_size K113 HT122) ss q3.2.2.2.2.2.2.1 hz q3.2.2.2.1 _ _ _ _ q3.2.2.1 q3.2.2.2.2.1 (hexd (c / 16 % 16)) (Nat.lt_trans (hexd_lt (by omega)) (by decide)) (by simp only [List.length_append, List.length_cons, List.length_nil]; omega)) pd37 rfl rfl rfl (by decide) (W := 0) rfl (by decide) (by decide) (by decide) fun T125 h125 v125 H125 q125 => ?_
            obtain ⟨z125, rfl, hz125, rfl, v_q4, cd_q4, j_q4, g_q4, f_q4, B_q4, K_q4⟩ := q125
            show Go _ _ _ 197 #[.val (.ref t), .val (.ref b), .val (.int (oN i)), .val (.int (oN c))] [(.ref b)]
            have q4 := q3.app K113 hz K_q4 f_q4 g_q4 B_q4
            refine go_getstatic K113 H125 d62_197 (host := "") (Or.inl (hw _ (List.mem_of_getElem? (i := 157) rfl))) Via.refl (HX.ext q4.2.2.2.2.2.2.1) fun T126 HT126 => ?_
            refine go_iloadN K113 HT126 d62_200 rfl ?_
            refine go_bipush (15) K113 HT126 d62_201 (by decide) ?_
            refine go_iand K113 HT126 d62_203 fun v127 ev127 => ?_
            obtain rfl : v127 = oN (c % 16) := ev127.trans ((oN_and15 (by omega)).trans (congrArg oN (by omega)))
            refine go_cL K113 HT126 d62_204 (HA.ext q4.2.2.2.2.2.2.1) (hex16 (by omega)) ?_
            refine go_callV [(.int (oN (hexd (c % 16))))] K113 HT126 d62_205 (q4.2.2.1.1) (hw _ (List.mem_of_getElem? (i := 70) rfl)) (hw _ (List.mem_of_getElem? (i := 71) rfl)) (nf_sel (hw _ (List.mem_of_getElem? (i := 73) rfl))) (hw _ (List.mem_of_getElem? (i := 73) rfl)) (hw _ (List.mem_of_getElem? (i := 72) rfl)) (hw _ (List.mem_of_getElem? (i := 44) rfl)) (hw _ (List.mem_of_getElem? (i := 74) rfl)) (st' := []) (by decide) (rmAp Z a0 hw _ _ n0 (at_size K113 HT126) ss q4.2.2.2.2.2.2.1 hz q4.2.2.2.1 _ _ _ _ q4.2.2.1 q4.2.2.2.2.1 (hexd (c % 16)) (Nat.lt_trans (hexd_lt (by omega)) (by decide)) (by simp only [List.length_append, List.length_cons, List.length_nil]; omega)) pd37 rfl rfl rfl (by decide) (W := 0) rfl (by decide) (by decide) (by decide) fun T128 h128 v128 H128 q128 => ?_
            obtain ⟨z128, rfl, hz128, rfl, v_q5, cd_q5, j_q5, g_q5, f_q5, B_q5, K_q5⟩ := q128
            show Go _ _ _ 208 #[.val (.ref t), .val (.ref b), .val (.int (oN i)), .val (.int (oN c))] [(.ref b)]
            have q5 := q4.app K113 hz K_q5 f_q5 g_q5 B_q5
            refine go_pop K113 H128 d62_208 rfl ?_
            refine go_goto K113 H128 d62_209 ?_
            have he : esc c = [92, 117, hexd (c / 4096), hexd (c / 256 % 16), hexd (c / 16 % 16), hexd (c % 16)] := by unfold esc; rw [if_neg hq1, if_neg h9, if_neg h10, if_neg h13, if_pos hq5]
            exact G _ _ _ _ _ _ K113 (H128.mono (by decide) (by decide)) (q5.cong (by rw [he]; try simp only [List.append_assoc, List.cons_append, List.nil_append]))
          refine go_iloadN K H102 d62_132 rfl ?_
          refine go_callS [(.int (oN c))] K H102 d62_133 (hw _ (List.mem_of_getElem? (i := 117) rfl)) (hw _ (List.mem_of_getElem? (i := 118) rfl)) (hw _ (List.mem_of_getElem? (i := 119) rfl)) (hw _ (List.mem_of_getElem? (i := 120) rfl)) (st' := []) (by decide) (rmIc Z a0 hw _ n0 (at_size K H102) c c6) pd19 rfl rfl rfl (by decide) (W := 0) rfl (by decide) (by decide) (by decide) fun T129 h129 v129 H129 q129 => ?_
          obtain ⟨z129, rfl, rfl, rfl⟩ := q129
          show Go _ _ _ 136 #[.val (.ref t), .val (.ref b), .val (.int (oN i)), .val (.int (oN c))] [(.int (bI (c < 32 ∨ 127 ≤ c ∧ c < 160)))]
          refine go_if_ne K H129 d62_136 (fun e1 => ?_) (fun e1 => ?_)
          · have d1 := bI_ne0.mp e1
            exact J153 _ H129 (by unfold ctl; omega)
          · have d1 : ¬ (c < 32 ∨ 127 ≤ c ∧ c < 160) := by first | exact bI_eq0.mp e1 | exact bI_eq0.mp (Decidable.not_not.mp e1)
            refine go_iloadN K H129 d62_139 rfl ?_
            refine go_sipush (8232) K H129 d62_140 (by decide) ?_
            refine go_icmp_eq K H129 d62_143 (fun e2 => ?_) (fun e2 => ?_)
            · (try simp (disch := omega) only [oN_toInt, Int32.lt_iff_toInt_lt, Int32.le_iff_toInt_le, ← Int32.toInt_inj, Int32.reduceToInt, ne_eq] at e2)
              exact J153 _ H129 (by unfold ctl; omega)
            · (try simp (disch := omega) only [oN_toInt, Int32.lt_iff_toInt_lt, Int32.le_iff_toInt_le, ← Int32.toInt_inj, Int32.reduceToInt, ne_eq] at e2)
              refine go_iloadN K H129 d62_146 rfl ?_
              refine go_sipush (8233) K H129 d62_147 (by decide) ?_
              refine go_icmp_ne K H129 d62_150 (fun e3 => ?_) (fun e3 => ?_)
              · (try simp (disch := omega) only [oN_toInt, Int32.lt_iff_toInt_lt, Int32.le_iff_toInt_le, ← Int32.toInt_inj, Int32.reduceToInt, ne_eq] at e3)
                have hq5 : ¬ ctl c := by unfold ctl; omega
                refine go_aloadN K H129 d62_212 rfl rfl ?_
                refine go_iloadN K H129 d62_213 rfl ?_
                refine go_callV [(.int (oN c))] K H129 d62_214 (q.2.2.1.1) (hw _ (List.mem_of_getElem? (i := 70) rfl)) (hw _ (List.mem_of_getElem? (i := 71) rfl)) (nf_sel (hw _ (List.mem_of_getElem? (i := 73) rfl))) (hw _ (List.mem_of_getElem? (i := 73) rfl)) (hw _ (List.mem_of_getElem? (i := 72) rfl)) (hw _ (List.mem_of_getElem? (i := 44) rfl)) (hw _ (List.mem_of_getElem? (i := 74) rfl)) (st' := []) (by decide) (rmAp Z a0 hw _ _ n0 (at_size K H129) ss q.2.2.2.2.2.2.1 hz q.2.2.2.1 _ _ _ _ q.2.2.1 q.2.2.2.2.1 (c) (c6) (by omega)) pd37 rfl rfl rfl (by decide) (W := 0) rfl (by decide) (by decide) (by decide) fun T130 h130 v130 H130 q130 => ?_
                obtain ⟨z130, rfl, hz130, rfl, v_q1, cd_q1, j_q1, g_q1, f_q1, B_q1, K_q1⟩ := q130
                show Go _ _ _ 217 #[.val (.ref t), .val (.ref b), .val (.int (oN i)), .val (.int (oN c))] [(.ref b)]
                have q1 := q.app K hz K_q1 f_q1 g_q1 B_q1
                refine go_pop K H130 d62_217 rfl ?_
                have he : esc c = [c] := by unfold esc; rw [if_neg hq1, if_neg h9, if_neg h10, if_neg h13, if_neg hq5]
                exact G _ _ _ _ _ _ K (H130.mono (by decide) (by decide)) (q1.cong (by rw [he]; try simp only [List.append_assoc, List.cons_append, List.nil_append]))
              · (try simp (disch := omega) only [oN_toInt, Int32.lt_iff_toInt_lt, Int32.le_iff_toInt_le, ← Int32.toInt_inj, Int32.reduceToInt, ne_eq] at e3)
                exact J153 _ H129 (by unfold ctl; omega)
set_option maxRecDepth 65536 in
set_option maxHeartbeats 40000000 in
theorem qend (Z : State) (a0 : Array Value) (hw : ∀ d ∈ tables_1, d.before a0 Z = true) (hEL : EW Z a0 consts_1) (ss : SSt Z) (hx : Addr) (HX : Sta Z Z.heap "com/example/bellwether/bellwether/model/Literals" "HEX" "[C" (.ref hx)) (HA : CA Z Z.heap hx ((List.range 16).map hexd)) (n0 : Nat) (hz : Z.heap.size ≤ n0) (s0 : State) (h0 : Heap) (w : Wk) (T : State) (h : Heap) (t tv : Addr) (tcd : Nat) (M : List Nat) (b v : Addr) (cd : Nat) (L js : List Nat) (x3 : Slot) (K : Cx w ({ frames := 10, cells := 32, slots := 1636, locals := 150 } : Room) Z n0 "com/example/bellwether/bellwether/model/Literals" prog_10_method_2_code 4 (some (.object "java/lang/String")) "quote") (q : QS Z n0 w s0 h0 h t tv tcd M b v cd L js) (H : At1 w T h 28 1440) (hL : L = [34] ++ M.flatMap esc) (l14 : L.length + 1 ≤ 14) : Go w (FnH Z consts_1 ({ frames := 10, cells := 32, slots := 1636, locals := 150 } : Room) n0 s0 (RR fun z h => ∃ s v2 cd, z = .ref s ∧ Sx Z h s v2 cd ([34] ++ M.flatMap esc ++ [34]) ∧ Ext h0 h)) T 21 #[.val (.ref t), .val (.ref b), .val (.int (oN M.length)), x3] [] := by
  have ml := q.2.1.len
  refine go_iloadN K H d62_21 rfl ?_
  refine go_aloadN K H d62_22 rfl rfl ?_
  refine go_callV [] K H d62_23 (q.2.1.1) (hw _ (List.mem_of_getElem? (i := 45) rfl)) (hw _ (List.mem_of_getElem? (i := 46) rfl)) (nf_sel (hw _ (List.mem_of_getElem? (i := 48) rfl))) (hw _ (List.mem_of_getElem? (i := 48) rfl)) (hw _ (List.mem_of_getElem? (i := 47) rfl)) (hw _ (List.mem_of_getElem? (i := 3) rfl)) (hw _ (List.mem_of_getElem? (i := 49) rfl)) (st' := [(.int (oN M.length))]) (by decide) (rmLe Z a0 hw _ _ n0 (at_size K H) ss q.2.2.2.2.2.2.1 tv tcd M q.2.1) pd23 rfl rfl rfl (by decide) (W := 1) rfl (by decide) (by decide) (by decide) fun T101 h101 v101 H101 q101 => ?_
  obtain ⟨z101, rfl, rfl, rfl⟩ := q101
  show Go _ _ _ 26 #[.val (.ref t), .val (.ref b), .val (.int (oN M.length)), x3] [(.int (oN M.length)), (.int (oN M.length))]
  refine go_icmp_ge K H101 d62_26 (fun cc => ?_) (fun cc => False.elim (by (try simp (disch := omega) only [oN_toInt, Int32.lt_iff_toInt_lt, Int32.le_iff_toInt_le, ← Int32.toInt_inj, Int32.reduceToInt, ne_eq] at cc); omega))
  refine go_aloadN K H101 d62_224 rfl rfl ?_
  refine go_bipush (34) K H101 d62_225 (by decide) ?_
  refine go_callV [(.int 34)] K H101 d62_227 (q.2.2.1.1) (hw _ (List.mem_of_getElem? (i := 70) rfl)) (hw _ (List.mem_of_getElem? (i := 71) rfl)) (nf_sel (hw _ (List.mem_of_getElem? (i := 73) rfl))) (hw _ (List.mem_of_getElem? (i := 73) rfl)) (hw _ (List.mem_of_getElem? (i := 72) rfl)) (hw _ (List.mem_of_getElem? (i := 44) rfl)) (hw _ (List.mem_of_getElem? (i := 74) rfl)) (st' := []) (by decide) (rmAp Z a0 hw _ _ n0 (at_size K H101) ss q.2.2.2.2.2.2.1 hz q.2.2.2.1 _ _ _ _ q.2.2.1 q.2.2.2.2.1 34 (by decide) l14) pd37 rfl rfl rfl (by decide) (W := 0) rfl (by decide) (by decide) (by decide) fun T102 h102 v102 H102 q102 => ?_
  obtain ⟨z102, rfl, hz102, rfl, v_q1, cd_q1, j_q1, g_q1, f_q1, B_q1, K_q1⟩ := q102
  show Go _ _ _ 230 #[.val (.ref t), .val (.ref b), .val (.int (oN M.length)), x3] [(.ref b)]
  have q1 := q.app K hz K_q1 f_q1 g_q1 B_q1
  refine go_callV [] K H102 d62_230 (q1.2.2.1.1) (hw _ (List.mem_of_getElem? (i := 182) rfl)) (hw _ (List.mem_of_getElem? (i := 183) rfl)) (nf_sel (hw _ (List.mem_of_getElem? (i := 185) rfl))) (hw _ (List.mem_of_getElem? (i := 185) rfl)) (hw _ (List.mem_of_getElem? (i := 184) rfl)) (hw _ (List.mem_of_getElem? (i := 44) rfl)) (hw _ (List.mem_of_getElem? (i := 186) rfl)) (st' := []) (by decide) (rmTS Z a0 hw _ _ n0 (at_size K H102) ss q1.2.2.2.2.2.2.1 _ _ _ _ q1.2.2.1) pd39 rfl rfl rfl (by decide) (W := 0) rfl (by decide) (by decide) (by decide) fun T103 h103 v103 H103 q103 => ?_
  obtain ⟨z103, rfl, hz103, s, v2, cd2, rfl, ls, lv, hs, hv, S2, E2⟩ := q103
  show Go _ _ _ 233 #[.val (.ref t), .val (.ref b), .val (.int (oN M.length)), x3] [(.ref s)]
  have I2 := q1.1.ext E2
  exact go_aretH K H103 I2 hEL d62_233 rfl rfl rfl (by decide) (by decide) (⟨s, v2, cd2, rfl, hL ▸ S2, ext_trans q1.2.2.2.2.2.2.2.1 E2⟩)
set_option maxRecDepth 65536 in
set_option maxHeartbeats 40000000 in
theorem rmQ (Z : State) (a0 : Array Value) (hw : ∀ d ∈ tables_1, d.before a0 Z = true) (t : Addr) (h0 : Heap) (n0 : Nat) (Z0 : n0 ≤ h0.size) (hEL : EW Z a0 consts_1) (ss : SSt Z) (X0 : Ext Z.heap h0) (hz : Z.heap.size ≤ n0) (hx : Addr) (HX : Sta Z Z.heap "com/example/bellwether/bellwether/model/Literals" "HEX" "[C" (.ref hx)) (HA : CA Z Z.heap hx ((List.range 16).map hexd)) (tv : Addr) (tcd : Nat) (M : List Nat) (S : Sx Z h0 t tv tcd M) (m2 : M.length ≤ 2) (mc : ∀ c ∈ M, c < 65536) (lau : Launch) :
    ConH lau Z consts_1 (⟨"com/example/bellwether/bellwether/model/Literals", "quote", "(Ljava/lang/String;)Ljava/lang/String;"⟩ : MethodName) prog_10_method_2_code 4 (some (.object "java/lang/String")) ({ frames := 10, cells := 32, slots := 1636, locals := 150 } : Room) #[(.ref t)] h0 n0 [] (RR fun z h => ∃ s v2 cd, z = .ref s ∧ Sx Z h s v2 cd ([34] ++ M.flatMap esc ++ [34]) ∧ Ext h0 h) := by
  refine con_introH pn62 (L := #[.val (.ref t), .unset, .unset, .unset]) (fun m => by first | (simp [entryFrame, mkF, argsToLocals, Value.category, maxLocals]; done) | rfl) Z0 (fun w T s0 K H I SF0 => ?_)
  have I0 := I
  refine go_new K H d62_0 (hw _ (List.mem_of_getElem? (i := 42) rfl)) (hw _ (List.mem_of_getElem? (i := 43) rfl)) (hw _ (List.mem_of_getElem? (i := 44) rfl)) (by decide) (by decide) fun T101 h101 b H101 g101 l101 E101 A101 D101 => ?_
  have hb0 : h0.size ≤ b := Nat.le_of_eq g101.symm; have X1 := ext_trans X0 E101; have I1 := I.ext E101; have S1 := S.ext E101; have ntb : t ≠ b := Nat.ne_of_lt (g101 ▸ S.1.lt); have nvb : tv ≠ b := Nat.ne_of_lt (g101 ▸ S.2.2.2.1.lt)
  refine go_dup K H101 d62_3 rfl ?_
  refine go_aloadN K H101 d62_4 rfl rfl ?_
  refine go_callV [] K H101 d62_5 (S1.1) (hw _ (List.mem_of_getElem? (i := 45) rfl)) (hw _ (List.mem_of_getElem? (i := 46) rfl)) (nf_sel (hw _ (List.mem_of_getElem? (i := 48) rfl))) (hw _ (List.mem_of_getElem? (i := 48) rfl)) (hw _ (List.mem_of_getElem? (i := 47) rfl)) (hw _ (List.mem_of_getElem? (i := 3) rfl)) (hw _ (List.mem_of_getElem? (i := 49) rfl)) (st' := [(.ref b), (.ref b)]) (by decide) (rmLe Z a0 hw _ _ n0 (at_size K H101) ss X1 tv tcd M S1) pd23 rfl rfl rfl (by decide) (W := 2) rfl (by decide) (by decide) (by decide) fun T102 h102 v102 H102 q102 => ?_
  obtain ⟨z102, rfl, rfl, rfl⟩ := q102
  show Go _ _ _ 8 #[.val (.ref t), .unset, .unset, .unset] [(.int (oN M.length)), (.ref b), (.ref b)]
  refine go_iconst (2) K H102 d62_8 (by decide) ?_
  refine go_iadd K H102 d62_9 fun v103 ev103 => ?_
  obtain rfl : v103 = oN (M.length + 2) := ev103.trans (oN_add _ 2)
  refine go_callI [(.int (oN (M.length + 2)))] K H102 d62_10 rfl (hw _ (List.mem_of_getElem? (i := 55) rfl)) (hw _ (List.mem_of_getElem? (i := 56) rfl)) (hw _ (List.mem_of_getElem? (i := 44) rfl)) (hw _ (List.mem_of_getElem? (i := 57) rfl)) (st' := [(.ref b)]) (by decide) (rmBB Z a0 hw _ _ n0 (at_size K H102) ss X1 (M.length + 2) (by omega) _ _ (D101 (Or.inl (hw _ (List.mem_of_getElem? (i := 67) rfl))) (ty := (.array .byte)) (by decide)) (D101 (Or.inl (hw _ (List.mem_of_getElem? (i := 69) rfl))) (ty := .byte) (by decide)) (D101 (Or.inl (hw _ (List.mem_of_getElem? (i := 81) rfl))) (ty := .int) (by decide)) (D101 (Or.inl (hw _ (List.mem_of_getElem? (i := 296) rfl))) (ty := .boolean) (by decide)) A101 l101) pd17 rfl rfl rfl (by decide) (W := 1) rfl (by decide) (by decide) (by decide) fun T104 h104 v104 H104 q104 => ?_
  obtain ⟨rfl, v, lv, sv, B, KB⟩ := q104
  show Go _ _ _ 13 #[.val (.ref t), .unset, .unset, .unset] [(.ref b)]
  have sfb := sfS (EL := consts_1) (Sf.exa K A101 (by decide) (by decide)) sf0
  have q0 : QS Z n0 w s0 h0 h104 t tv tcd M b v 0 [] _ := ⟨I1.keep KB sfb, S1.keep KB (ninS ntb nin0) (ninS nvb nin0), B, l101, lv, (Sf.new sv).keep I1 KB sfb, ext_keep X1 KB (allS (Nat.le_trans hz l101) all0), ext_keep E101 KB (allS hb0 all0), hb0, Nat.le_trans E101.1 sv, ntb, ne_lt S1.1.lt sv, nvb, ne_lt S1.2.2.2.1.lt sv⟩
  refine go_bipush (34) K H104 d62_13 (by decide) ?_
  refine go_callV [(.int 34)] K H104 d62_15 (q0.2.2.1.1) (hw _ (List.mem_of_getElem? (i := 70) rfl)) (hw _ (List.mem_of_getElem? (i := 71) rfl)) (nf_sel (hw _ (List.mem_of_getElem? (i := 73) rfl))) (hw _ (List.mem_of_getElem? (i := 73) rfl)) (hw _ (List.mem_of_getElem? (i := 72) rfl)) (hw _ (List.mem_of_getElem? (i := 44) rfl)) (hw _ (List.mem_of_getElem? (i := 74) rfl)) (st' := []) (by decide) (rmAp Z a0 hw _ _ n0 (at_size K H104) ss q0.2.2.2.2.2.2.1 hz q0.2.2.2.1 _ _ _ _ q0.2.2.1 q0.2.2.2.2.1 34 (by decide) (by decide)) pd37 rfl rfl rfl (by decide) (W := 0) rfl (by decide) (by decide) (by decide) fun T105 h105 v105 H105 q105 => ?_
  obtain ⟨z105, rfl, hz105, rfl, v_q1, cd_q1, j_q1, g_q1, f_q1, B_q1, K_q1⟩ := q105
  show Go _ _ _ 18 #[.val (.ref t), .unset, .unset, .unset] [(.ref b)]
  have q1 := q0.app K hz K_q1 f_q1 g_q1 B_q1
  refine go_astoreN K H105 d62_18 rfl (L' := #[.val (.ref t), .val (.ref b), .unset, .unset]) rfl ?_
  refine go_iconst (0) K H105 d62_19 (by decide) ?_
  refine go_istoreN K H105 d62_20 (L' := #[.val (.ref t), .val (.ref b), .val (.int 0), .unset]) rfl ?_
  match M, m2, mc, q1 with
  | [], _, _, q1 => exact qend Z a0 hw hEL ss hx HX HA n0 hz s0 h0 _ _ _ _ _ _ _ _ _ _ _ _ _ K q1 (H105.mono (by decide) (by decide)) rfl (by decide)
  | [c0], _, mc, q1 =>
    have e0 := esc_len c0
    refine qturn0 Z a0 hw hEL ss hx HX HA n0 hz s0 h0 _ _ _ _ _ _ _ _ _ _ _ _ _ K q1 H105 _ 0 c0 rfl (mc c0 (by simp)) (by decide) (Or.inl rfl) fun w2 T2 h2 v2 cd2 j2 K2 H2 q2 => ?_
    obtain ⟨v106, ev106⟩ : ∃ z : Int32, z = (oN 0) + Int32.ofInt (1) := ⟨_, rfl⟩
    refine go_iinc K2 H2 d62_218 rfl ev106 (L' := #[.val (.ref t), .val (.ref b), .val (.int v106), .val (.int (oN c0))]) rfl ?_
    obtain rfl : v106 = oN (1) := ev106.trans (oN_inc 0)
    refine go_goto K2 H2 d62_221 ?_
    exact qend Z a0 hw hEL ss hx HX HA n0 hz s0 h0 _ _ _ _ _ _ _ _ _ _ _ _ _ K2 q2 (H2.mono (by decide) (by decide)) (by simp) (by simp; omega)
  | [c0, c1], _, mc, q1 =>
    have e0 := esc_len c0; have e1 := esc_len c1
    refine qturn0 Z a0 hw hEL ss hx HX HA n0 hz s0 h0 _ _ _ _ _ _ _ _ _ _ _ _ _ K q1 H105 _ 0 c0 rfl (mc c0 (by simp)) (by decide) (Or.inl rfl) fun w2 T2 h2 v2 cd2 j2 K2 H2 q2 => ?_
    obtain ⟨v107, ev107⟩ : ∃ z : Int32, z = (oN 0) + Int32.ofInt (1) := ⟨_, rfl⟩
    refine go_iinc K2 H2 d62_218 rfl ev107 (L' := #[.val (.ref t), .val (.ref b), .val (.int v107), .val (.int (oN c0))]) rfl ?_
    obtain rfl : v107 = oN (1) := ev107.trans (oN_inc 0)
    refine go_goto K2 H2 d62_221 ?_
    refine qturn1 Z a0 hw hEL ss hx HX HA n0 hz s0 h0 _ _ _ _ _ _ _ _ _ _ _ _ _ K2 q2 H2 _ 1 c1 rfl (mc c1 (by simp)) (by simp; omega) (Or.inr ⟨_, rfl⟩) fun w3 T3 h3 v3 cd3 j3 K3 H3 q3 => ?_
    obtain ⟨v108, ev108⟩ : ∃ z : Int32, z = (oN 1) + Int32.ofInt (1) := ⟨_, rfl⟩
    refine go_iinc K3 H3 d62_218 rfl ev108 (L' := #[.val (.ref t), .val (.ref b), .val (.int v108), .val (.int (oN c1))]) rfl ?_
    obtain rfl : v108 = oN (2) := ev108.trans (oN_inc 1)
    refine go_goto K3 H3 d62_221 ?_
    exact qend Z a0 hw hEL ss hx HX HA n0 hz s0 h0 _ _ _ _ _ _ _ _ _ _ _ _ _ K3 q3 H3 (by simp) (by simp; omega)
  | _ :: _ :: _ :: _, m2, _, _ => exact absurd m2 (by simp)
set_option maxRecDepth 65536 in
set_option maxHeartbeats 40000000 in
theorem lend (Z : State) (a0 : Array Value) (hw : ∀ d ∈ tables_1, d.before a0 Z = true) (hEL : EW Z a0 consts_1) (ss : SSt Z) (hx : Addr) (HX : Sta Z Z.heap "com/example/bellwether/bellwether/model/Literals" "HEX" "[C" (.ref hx)) (HA : CA Z Z.heap hx ((List.range 16).map hexd)) (n0 : Nat) (hz : Z.heap.size ≤ n0) (s0 : State) (w : Wk) (T : State) (h : Heap) (K : Cx w room_1 Z n0 "com/example/bellwether/bellwether/model/LiteralsQuotePinLaw" code maxLocals ret "law") (I : Iv w s0 consts_1 h) (X : Ext Z.heap h) (u0 u1 u2 : Int32) (nn c0 c1 : Nat) (k0 : c0 < 65536) (k1 : c1 < 65536) (t tv : Addr) (tcd : Nat) (M : List Nat) (S : Sx Z h t tv tcd M) (mc : ∀ c ∈ M, c < 65536) (m2 : M.length ≤ 2) (H : At1 w T h 7 94) (e : Addr) (P r : List Nat) (A : CA Z h e (P ++ r)) (ge : n0 ≤ e) (hr : 1 ≤ r.length) (hP : P = [34] ++ M.flatMap esc) (p13 : P.length ≤ 13) (nte : t ≠ e) (nve : tv ≠ e) : Go w (FnH Z consts_1 room_1 n0 s0 (RI fun z _ => z = 1)) T 125 #[.val (.int u0), .val (.int u1), .val (.int u2), .val (.int (oN nn)), .val (.int (oN c0)), .val (.int (oN c1)), .val (.ref t), .val (.ref e), .val (.int (oN P.length)), .unset] [] := by
  have al := A.len; rw [List.length_append] at al
  refine go_aload K H d63_125 rfl rfl ?_
  refine go_iload K H d63_127 rfl ?_
  refine go_bipush (34) K H d63_129 (by decide) ?_
  refine go_cS (i := P.length) (b := 34) K H d63_131 (A) (by rw [List.length_append]; omega) (by decide) (ge) fun T101 h101 H101 W101 B101 => ?_
  have A1 := B101; rw [set3 hr] at A1; have I1 := I.keep (Keep.of_wr W101) (sfS (Sf.ca K A) sf0); have X1 := ext_wr X W101 (Nat.le_trans hz ge); have S1 := S.keep (Keep.of_wr W101) (ninS nte nin0) (ninS nve nin0)
  refine go_iload K H101 d63_132 rfl ?_
  refine go_iconst (1) K H101 d63_134 (by decide) ?_
  refine go_iadd K H101 d63_135 fun v102 ev102 => ?_
  obtain rfl : v102 = oN (P.length + 1) := ev102.trans (oN_add _ 1)
  refine go_istore K H101 d63_136 (L' := #[.val (.int u0), .val (.int u1), .val (.int u2), .val (.int (oN nn)), .val (.int (oN c0)), .val (.int (oN c1)), .val (.ref t), .val (.ref e), .val (.int (oN (P.length + 1))), .unset]) rfl ?_
  refine go_aload K H101 d63_138 rfl rfl ?_
  refine go_callSH [(.ref t)] K H101 I1 hEL (by intro x q; exact absurd q (by simp)) d63_140 (hw _ (List.mem_of_getElem? (i := 38) rfl)) (hw _ (List.mem_of_getElem? (i := 39) rfl)) (hw _ (List.mem_of_getElem? (i := 40) rfl)) (hw _ (List.mem_of_getElem? (i := 41) rfl)) (st' := []) (by decide) (rmQ Z a0 hw _ _ n0 (at_size K H101) hEL ss X1 hz hx HX HA tv tcd M S1 m2 mc) pd40 rfl rfl rfl (by decide) (W := 0) rfl (by decide) (by decide) (by decide) fun w103 T103 h103 v103 K103 H103 I103 F103 q103 => ?_
  obtain ⟨z103, rfl, hz103, s, sv, scd, rfl, SS, EQ⟩ := q103
  show Go _ _ _ 143 #[.val (.int u0), .val (.int u1), .val (.int u2), .val (.int (oN nn)), .val (.int (oN c0)), .val (.int (oN c1)), .val (.ref t), .val (.ref e), .val (.int (oN (P.length + 1))), .unset] [(.ref s)]
  rw [← hP] at SS; replace A1 := A1.ext EQ; replace X1 := ext_trans X1 EQ; have sl := SS.len
  have hs : ∀ (i : Nat) (c : Nat), (P ++ [34])[i]? = some c → (P ++ [34] ++ r.drop 1)[i]? = some c ∧ c < 65536 := fun i c q => by have q2 : (P ++ [34] ++ r.drop 1)[i]? = some c := same_at rfl q; exact ⟨q2, A1.2 c (List.mem_of_getElem? q2)⟩
  refine go_astore K103 H103 d63_143 rfl (L' := #[.val (.int u0), .val (.int u1), .val (.int u2), .val (.int (oN nn)), .val (.int (oN c0)), .val (.int (oN c1)), .val (.ref t), .val (.ref e), .val (.int (oN (P.length + 1))), .val (.ref s)]) rfl ?_
  refine go_aload K103 H103 d63_145 rfl rfl ?_
  refine go_callV [] K103 H103 d63_147 (SS.1) (hw _ (List.mem_of_getElem? (i := 217) rfl)) (hw _ (List.mem_of_getElem? (i := 46) rfl)) (nf_sel (hw _ (List.mem_of_getElem? (i := 48) rfl))) (hw _ (List.mem_of_getElem? (i := 48) rfl)) (hw _ (List.mem_of_getElem? (i := 47) rfl)) (hw _ (List.mem_of_getElem? (i := 3) rfl)) (hw _ (List.mem_of_getElem? (i := 49) rfl)) (st' := []) (by decide) (rmLe Z a0 hw _ _ n0 (at_size K103 H103) ss X1 sv scd _ SS) pd23 rfl rfl rfl (by decide) (W := 0) rfl (by decide) (by decide) (by decide) fun T104 h104 v104 H104 q104 => ?_
  obtain ⟨z104, rfl, rfl, rfl⟩ := q104
  show Go _ _ _ 150 #[.val (.int u0), .val (.int u1), .val (.int u2), .val (.int (oN nn)), .val (.int (oN c0)), .val (.int (oN c1)), .val (.ref t), .val (.ref e), .val (.int (oN (P.length + 1))), .val (.ref s)] [(.int (oN (P ++ [34]).length))]
  refine go_iload K103 H104 d63_150 rfl ?_
  refine go_icmp_eq K103 H104 d63_152 (fun cc => ?_) (fun cc => False.elim (by exact cc (by rw [List.length_append]; rfl)))
  refine go_aload K103 H104 d63_157 rfl rfl ?_
  refine go_aload K103 H104 d63_159 rfl rfl ?_
  refine go_iconst (0) K103 H104 d63_161 (by decide) ?_
  refine go_callS [(.ref s), (.ref e), (.int 0)] K103 H104 d63_162 (hw _ (List.mem_of_getElem? (i := 218) rfl)) (hw _ (List.mem_of_getElem? (i := 219) rfl)) (hw _ (List.mem_of_getElem? (i := 33) rfl)) (hw _ (List.mem_of_getElem? (i := 220) rfl)) (st' := []) (by decide) (rmSm Z a0 hw _ _ _ n0 (at_size K103 H104) ss X1 sv scd _ SS _ A1 0 (by decide) (hs 0)) pd41 rfl rfl rfl (by decide) (W := 0) rfl (by decide) (by decide) (by decide) fun T105 h105 v105 H105 q105 => ?_
  obtain ⟨z105, rfl, rfl, rfl⟩ := q105
  show Go _ _ _ 165 #[.val (.int u0), .val (.int u1), .val (.int u2), .val (.int (oN nn)), .val (.int (oN c0)), .val (.int (oN c1)), .val (.ref t), .val (.ref e), .val (.int (oN (P.length + 1))), .val (.ref s)] [(.int 1)]
  refine go_if_eq K103 H105 d63_165 (fun cc => False.elim (by first | exact absurd cc (by decide) | exact cc (by decide))) (fun cc => ?_)
  refine go_aload K103 H105 d63_168 rfl rfl ?_
  refine go_aload K103 H105 d63_170 rfl rfl ?_
  refine go_iconst (1) K103 H105 d63_172 (by decide) ?_
  refine go_callS [(.ref s), (.ref e), (.int 1)] K103 H105 d63_173 (hw _ (List.mem_of_getElem? (i := 218) rfl)) (hw _ (List.mem_of_getElem? (i := 219) rfl)) (hw _ (List.mem_of_getElem? (i := 33) rfl)) (hw _ (List.mem_of_getElem? (i := 220) rfl)) (st' := []) (by decide) (rmSm Z a0 hw _ _ _ n0 (at_size K103 H105) ss X1 sv scd _ SS _ A1 1 (by decide) (hs 1)) pd41 rfl rfl rfl (by decide) (W := 0) rfl (by decide) (by decide) (by decide) fun T106 h106 v106 H106 q106 => ?_
  obtain ⟨z106, rfl, rfl, rfl⟩ := q106
  show Go _ _ _ 176 #[.val (.int u0), .val (.int u1), .val (.int u2), .val (.int (oN nn)), .val (.int (oN c0)), .val (.int (oN c1)), .val (.ref t), .val (.ref e), .val (.int (oN (P.length + 1))), .val (.ref s)] [(.int 1)]
  refine go_if_eq K103 H106 d63_176 (fun cc => False.elim (by first | exact absurd cc (by decide) | exact cc (by decide))) (fun cc => ?_)
  refine go_aload K103 H106 d63_179 rfl rfl ?_
  refine go_aload K103 H106 d63_181 rfl rfl ?_
  refine go_iconst (2) K103 H106 d63_183 (by decide) ?_
  refine go_callS [(.ref s), (.ref e), (.int 2)] K103 H106 d63_184 (hw _ (List.mem_of_getElem? (i := 218) rfl)) (hw _ (List.mem_of_getElem? (i := 219) rfl)) (hw _ (List.mem_of_getElem? (i := 33) rfl)) (hw _ (List.mem_of_getElem? (i := 220) rfl)) (st' := []) (by decide) (rmSm Z a0 hw _ _ _ n0 (at_size K103 H106) ss X1 sv scd _ SS _ A1 2 (by decide) (hs 2)) pd41 rfl rfl rfl (by decide) (W := 0) rfl (by decide) (by decide) (by decide) fun T107 h107 v107 H107 q107 => ?_
  obtain ⟨z107, rfl, rfl, rfl⟩ := q107
  show Go _ _ _ 187 #[.val (.int u0), .val (.int u1), .val (.int u2), .val (.int (oN nn)), .val (.int (oN c0)), .val (.int (oN c1)), .val (.ref t), .val (.ref e), .val (.int (oN (P.length + 1))), .val (.ref s)] [(.int 1)]
  refine go_if_eq K103 H107 d63_187 (fun cc => False.elim (by first | exact absurd cc (by decide) | exact cc (by decide))) (fun cc => ?_)
  refine go_aload K103 H107 d63_190 rfl rfl ?_
  refine go_aload K103 H107 d63_192 rfl rfl ?_
  refine go_iconst (3) K103 H107 d63_194 (by decide) ?_
  refine go_callS [(.ref s), (.ref e), (.int 3)] K103 H107 d63_195 (hw _ (List.mem_of_getElem? (i := 218) rfl)) (hw _ (List.mem_of_getElem? (i := 219) rfl)) (hw _ (List.mem_of_getElem? (i := 33) rfl)) (hw _ (List.mem_of_getElem? (i := 220) rfl)) (st' := []) (by decide) (rmSm Z a0 hw _ _ _ n0 (at_size K103 H107) ss X1 sv scd _ SS _ A1 3 (by decide) (hs 3)) pd41 rfl rfl rfl (by decide) (W := 0) rfl (by decide) (by decide) (by decide) fun T108 h108 v108 H108 q108 => ?_
  obtain ⟨z108, rfl, rfl, rfl⟩ := q108
  show Go _ _ _ 198 #[.val (.int u0), .val (.int u1), .val (.int u2), .val (.int (oN nn)), .val (.int (oN c0)), .val (.int (oN c1)), .val (.ref t), .val (.ref e), .val (.int (oN (P.length + 1))), .val (.ref s)] [(.int 1)]
  refine go_if_eq K103 H108 d63_198 (fun cc => False.elim (by first | exact absurd cc (by decide) | exact cc (by decide))) (fun cc => ?_)
  refine go_aload K103 H108 d63_201 rfl rfl ?_
  refine go_aload K103 H108 d63_203 rfl rfl ?_
  refine go_iconst (4) K103 H108 d63_205 (by decide) ?_
  refine go_callS [(.ref s), (.ref e), (.int 4)] K103 H108 d63_206 (hw _ (List.mem_of_getElem? (i := 218) rfl)) (hw _ (List.mem_of_getElem? (i := 219) rfl)) (hw _ (List.mem_of_getElem? (i := 33) rfl)) (hw _ (List.mem_of_getElem? (i := 220) rfl)) (st' := []) (by decide) (rmSm Z a0 hw _ _ _ n0 (at_size K103 H108) ss X1 sv scd _ SS _ A1 4 (by decide) (hs 4)) pd41 rfl rfl rfl (by decide) (W := 0) rfl (by decide) (by decide) (by decide) fun T109 h109 v109 H109 q109 => ?_
  obtain ⟨z109, rfl, rfl, rfl⟩ := q109
  show Go _ _ _ 209 #[.val (.int u0), .val (.int u1), .val (.int u2), .val (.int (oN nn)), .val (.int (oN c0)), .val (.int (oN c1)), .val (.ref t), .val (.ref e), .val (.int (oN (P.length + 1))), .val (.ref s)] [(.int 1)]
  refine go_if_eq K103 H109 d63_209 (fun cc => False.elim (by first | exact absurd cc (by decide) | exact cc (by decide))) (fun cc => ?_)
  refine go_aload K103 H109 d63_212 rfl rfl ?_
  refine go_aload K103 H109 d63_214 rfl rfl ?_
  refine go_iconst (5) K103 H109 d63_216 (by decide) ?_
  refine go_callS [(.ref s), (.ref e), (.int 5)] K103 H109 d63_217 (hw _ (List.mem_of_getElem? (i := 218) rfl)) (hw _ (List.mem_of_getElem? (i := 219) rfl)) (hw _ (List.mem_of_getElem? (i := 33) rfl)) (hw _ (List.mem_of_getElem? (i := 220) rfl)) (st' := []) (by decide) (rmSm Z a0 hw _ _ _ n0 (at_size K103 H109) ss X1 sv scd _ SS _ A1 5 (by decide) (hs 5)) pd41 rfl rfl rfl (by decide) (W := 0) rfl (by decide) (by decide) (by decide) fun T110 h110 v110 H110 q110 => ?_
  obtain ⟨z110, rfl, rfl, rfl⟩ := q110
  show Go _ _ _ 220 #[.val (.int u0), .val (.int u1), .val (.int u2), .val (.int (oN nn)), .val (.int (oN c0)), .val (.int (oN c1)), .val (.ref t), .val (.ref e), .val (.int (oN (P.length + 1))), .val (.ref s)] [(.int 1)]
  refine go_if_eq K103 H110 d63_220 (fun cc => False.elim (by first | exact absurd cc (by decide) | exact cc (by decide))) (fun cc => ?_)
  refine go_aload K103 H110 d63_223 rfl rfl ?_
  refine go_aload K103 H110 d63_225 rfl rfl ?_
  refine go_bipush (6) K103 H110 d63_227 (by decide) ?_
  refine go_callS [(.ref s), (.ref e), (.int 6)] K103 H110 d63_229 (hw _ (List.mem_of_getElem? (i := 218) rfl)) (hw _ (List.mem_of_getElem? (i := 219) rfl)) (hw _ (List.mem_of_getElem? (i := 33) rfl)) (hw _ (List.mem_of_getElem? (i := 220) rfl)) (st' := []) (by decide) (rmSm Z a0 hw _ _ _ n0 (at_size K103 H110) ss X1 sv scd _ SS _ A1 6 (by decide) (hs 6)) pd41 rfl rfl rfl (by decide) (W := 0) rfl (by decide) (by decide) (by decide) fun T111 h111 v111 H111 q111 => ?_
  obtain ⟨z111, rfl, rfl, rfl⟩ := q111
  show Go _ _ _ 232 #[.val (.int u0), .val (.int u1), .val (.int u2), .val (.int (oN nn)), .val (.int (oN c0)), .val (.int (oN c1)), .val (.ref t), .val (.ref e), .val (.int (oN (P.length + 1))), .val (.ref s)] [(.int 1)]
  refine go_if_eq K103 H111 d63_232 (fun cc => False.elim (by first | exact absurd cc (by decide) | exact cc (by decide))) (fun cc => ?_)
  refine go_aload K103 H111 d63_235 rfl rfl ?_
  refine go_aload K103 H111 d63_237 rfl rfl ?_
  refine go_bipush (7) K103 H111 d63_239 (by decide) ?_
  refine go_callS [(.ref s), (.ref e), (.int 7)] K103 H111 d63_241 (hw _ (List.mem_of_getElem? (i := 218) rfl)) (hw _ (List.mem_of_getElem? (i := 219) rfl)) (hw _ (List.mem_of_getElem? (i := 33) rfl)) (hw _ (List.mem_of_getElem? (i := 220) rfl)) (st' := []) (by decide) (rmSm Z a0 hw _ _ _ n0 (at_size K103 H111) ss X1 sv scd _ SS _ A1 7 (by decide) (hs 7)) pd41 rfl rfl rfl (by decide) (W := 0) rfl (by decide) (by decide) (by decide) fun T112 h112 v112 H112 q112 => ?_
  obtain ⟨z112, rfl, rfl, rfl⟩ := q112
  show Go _ _ _ 244 #[.val (.int u0), .val (.int u1), .val (.int u2), .val (.int (oN nn)), .val (.int (oN c0)), .val (.int (oN c1)), .val (.ref t), .val (.ref e), .val (.int (oN (P.length + 1))), .val (.ref s)] [(.int 1)]
  refine go_if_eq K103 H112 d63_244 (fun cc => False.elim (by first | exact absurd cc (by decide) | exact cc (by decide))) (fun cc => ?_)
  refine go_aload K103 H112 d63_247 rfl rfl ?_
  refine go_aload K103 H112 d63_249 rfl rfl ?_
  refine go_bipush (8) K103 H112 d63_251 (by decide) ?_
  refine go_callS [(.ref s), (.ref e), (.int 8)] K103 H112 d63_253 (hw _ (List.mem_of_getElem? (i := 218) rfl)) (hw _ (List.mem_of_getElem? (i := 219) rfl)) (hw _ (List.mem_of_getElem? (i := 33) rfl)) (hw _ (List.mem_of_getElem? (i := 220) rfl)) (st' := []) (by decide) (rmSm Z a0 hw _ _ _ n0 (at_size K103 H112) ss X1 sv scd _ SS _ A1 8 (by decide) (hs 8)) pd41 rfl rfl rfl (by decide) (W := 0) rfl (by decide) (by decide) (by decide) fun T113 h113 v113 H113 q113 => ?_
  obtain ⟨z113, rfl, rfl, rfl⟩ := q113
  show Go _ _ _ 256 #[.val (.int u0), .val (.int u1), .val (.int u2), .val (.int (oN nn)), .val (.int (oN c0)), .val (.int (oN c1)), .val (.ref t), .val (.ref e), .val (.int (oN (P.length + 1))), .val (.ref s)] [(.int 1)]
  refine go_if_eq K103 H113 d63_256 (fun cc => False.elim (by first | exact absurd cc (by decide) | exact cc (by decide))) (fun cc => ?_)
  refine go_aload K103 H113 d63_259 rfl rfl ?_
  refine go_aload K103 H113 d63_261 rfl rfl ?_
  refine go_bipush (9) K103 H113 d63_263 (by decide) ?_
  refine go_callS [(.ref s), (.ref e), (.int 9)] K103 H113 d63_265 (hw _ (List.mem_of_getElem? (i := 218) rfl)) (hw _ (List.mem_of_getElem? (i := 219) rfl)) (hw _ (List.mem_of_getElem? (i := 33) rfl)) (hw _ (List.mem_of_getElem? (i := 220) rfl)) (st' := []) (by decide) (rmSm Z a0 hw _ _ _ n0 (at_size K103 H113) ss X1 sv scd _ SS _ A1 9 (by decide) (hs 9)) pd41 rfl rfl rfl (by decide) (W := 0) rfl (by decide) (by decide) (by decide) fun T114 h114 v114 H114 q114 => ?_
  obtain ⟨z114, rfl, rfl, rfl⟩ := q114
  show Go _ _ _ 268 #[.val (.int u0), .val (.int u1), .val (.int u2), .val (.int (oN nn)), .val (.int (oN c0)), .val (.int (oN c1)), .val (.ref t), .val (.ref e), .val (.int (oN (P.length + 1))), .val (.ref s)] [(.int 1)]
  refine go_if_eq K103 H114 d63_268 (fun cc => False.elim (by first | exact absurd cc (by decide) | exact cc (by decide))) (fun cc => ?_)
  refine go_aload K103 H114 d63_271 rfl rfl ?_
  refine go_aload K103 H114 d63_273 rfl rfl ?_
  refine go_bipush (10) K103 H114 d63_275 (by decide) ?_
  refine go_callS [(.ref s), (.ref e), (.int 10)] K103 H114 d63_277 (hw _ (List.mem_of_getElem? (i := 218) rfl)) (hw _ (List.mem_of_getElem? (i := 219) rfl)) (hw _ (List.mem_of_getElem? (i := 33) rfl)) (hw _ (List.mem_of_getElem? (i := 220) rfl)) (st' := []) (by decide) (rmSm Z a0 hw _ _ _ n0 (at_size K103 H114) ss X1 sv scd _ SS _ A1 10 (by decide) (hs 10)) pd41 rfl rfl rfl (by decide) (W := 0) rfl (by decide) (by decide) (by decide) fun T115 h115 v115 H115 q115 => ?_
  obtain ⟨z115, rfl, rfl, rfl⟩ := q115
  show Go _ _ _ 280 #[.val (.int u0), .val (.int u1), .val (.int u2), .val (.int (oN nn)), .val (.int (oN c0)), .val (.int (oN c1)), .val (.ref t), .val (.ref e), .val (.int (oN (P.length + 1))), .val (.ref s)] [(.int 1)]
  refine go_if_eq K103 H115 d63_280 (fun cc => False.elim (by first | exact absurd cc (by decide) | exact cc (by decide))) (fun cc => ?_)
  refine go_aload K103 H115 d63_283 rfl rfl ?_
  refine go_aload K103 H115 d63_285 rfl rfl ?_
  refine go_bipush (11) K103 H115 d63_287 (by decide) ?_
  refine go_callS [(.ref s), (.ref e), (.int 11)] K103 H115 d63_289 (hw _ (List.mem_of_getElem? (i := 218) rfl)) (hw _ (List.mem_of_getElem? (i := 219) rfl)) (hw _ (List.mem_of_getElem? (i := 33) rfl)) (hw _ (List.mem_of_getElem? (i := 220) rfl)) (st' := []) (by decide) (rmSm Z a0 hw _ _ _ n0 (at_size K103 H115) ss X1 sv scd _ SS _ A1 11 (by decide) (hs 11)) pd41 rfl rfl rfl (by decide) (W := 0) rfl (by decide) (by decide) (by decide) fun T116 h116 v116 H116 q116 => ?_
  obtain ⟨z116, rfl, rfl, rfl⟩ := q116
  show Go _ _ _ 292 #[.val (.int u0), .val (.int u1), .val (.int u2), .val (.int (oN nn)), .val (.int (oN c0)), .val (.int (oN c1)), .val (.ref t), .val (.ref e), .val (.int (oN (P.length + 1))), .val (.ref s)] [(.int 1)]
  refine go_if_eq K103 H116 d63_292 (fun cc => False.elim (by first | exact absurd cc (by decide) | exact cc (by decide))) (fun cc => ?_)
  refine go_aload K103 H116 d63_295 rfl rfl ?_
  refine go_aload K103 H116 d63_297 rfl rfl ?_
  refine go_bipush (12) K103 H116 d63_299 (by decide) ?_
  refine go_callS [(.ref s), (.ref e), (.int 12)] K103 H116 d63_301 (hw _ (List.mem_of_getElem? (i := 218) rfl)) (hw _ (List.mem_of_getElem? (i := 219) rfl)) (hw _ (List.mem_of_getElem? (i := 33) rfl)) (hw _ (List.mem_of_getElem? (i := 220) rfl)) (st' := []) (by decide) (rmSm Z a0 hw _ _ _ n0 (at_size K103 H116) ss X1 sv scd _ SS _ A1 12 (by decide) (hs 12)) pd41 rfl rfl rfl (by decide) (W := 0) rfl (by decide) (by decide) (by decide) fun T117 h117 v117 H117 q117 => ?_
  obtain ⟨z117, rfl, rfl, rfl⟩ := q117
  show Go _ _ _ 304 #[.val (.int u0), .val (.int u1), .val (.int u2), .val (.int (oN nn)), .val (.int (oN c0)), .val (.int (oN c1)), .val (.ref t), .val (.ref e), .val (.int (oN (P.length + 1))), .val (.ref s)] [(.int 1)]
  refine go_if_eq K103 H117 d63_304 (fun cc => False.elim (by first | exact absurd cc (by decide) | exact cc (by decide))) (fun cc => ?_)
  refine go_aload K103 H117 d63_307 rfl rfl ?_
  refine go_aload K103 H117 d63_309 rfl rfl ?_
  refine go_bipush (13) K103 H117 d63_311 (by decide) ?_
  refine go_callS [(.ref s), (.ref e), (.int 13)] K103 H117 d63_313 (hw _ (List.mem_of_getElem? (i := 218) rfl)) (hw _ (List.mem_of_getElem? (i := 219) rfl)) (hw _ (List.mem_of_getElem? (i := 33) rfl)) (hw _ (List.mem_of_getElem? (i := 220) rfl)) (st' := []) (by decide) (rmSm Z a0 hw _ _ _ n0 (at_size K103 H117) ss X1 sv scd _ SS _ A1 13 (by decide) (hs 13)) pd41 rfl rfl rfl (by decide) (W := 0) rfl (by decide) (by decide) (by decide) fun T118 h118 v118 H118 q118 => ?_
  obtain ⟨z118, rfl, rfl, rfl⟩ := q118
  show Go _ _ _ 316 #[.val (.int u0), .val (.int u1), .val (.int u2), .val (.int (oN nn)), .val (.int (oN c0)), .val (.int (oN c1)), .val (.ref t), .val (.ref e), .val (.int (oN (P.length + 1))), .val (.ref s)] [(.int 1)]
  refine go_if_eq K103 H118 d63_316 (fun cc => False.elim (by first | exact absurd cc (by decide) | exact cc (by decide))) (fun cc => ?_)
  refine go_iconst (1) K103 H118 d63_319 (by decide) ?_
  refine go_goto K103 H118 d63_320 ?_
  exact go_zretH K103 H118 I103 hEL d63_324 rfl (by decide) (by decide) (by decide) (rfl)
set_option maxRecDepth 65536 in
set_option maxHeartbeats 40000000 in
theorem ltail (Z : State) (a0 : Array Value) (hw : ∀ d ∈ tables_1, d.before a0 Z = true) (hEL : EW Z a0 consts_1) (ss : SSt Z) (hx : Addr) (HX : Sta Z Z.heap "com/example/bellwether/bellwether/model/Literals" "HEX" "[C" (.ref hx)) (HA : CA Z Z.heap hx ((List.range 16).map hexd)) (n0 : Nat) (hz : Z.heap.size ≤ n0) (s0 : State) (w : Wk) (T : State) (h : Heap) (K : Cx w room_1 Z n0 "com/example/bellwether/bellwether/model/LiteralsQuotePinLaw" code maxLocals ret "law") (I : Iv w s0 consts_1 h) (X : Ext Z.heap h) (u0 u1 u2 : Int32) (nn c0 c1 : Nat) (k0 : c0 < 65536) (k1 : c1 < 65536) (t tv : Addr) (tcd : Nat) (M : List Nat) (S : Sx Z h t tv tcd M) (mc : ∀ c ∈ M, c < 65536) (m2 : M.length ≤ 2) (H : At1 w T h 6 80) (hn : nn ≤ 2) (hM : M = [c0, c1].take nn) : Go w (FnH Z consts_1 room_1 n0 s0 (RI fun z _ => z = 1)) T 71 #[.val (.int u0), .val (.int u1), .val (.int u2), .val (.int (oN nn)), .val (.int (oN c0)), .val (.int (oN c1)), .val (.ref t), .unset, .unset, .unset] [] := by
  refine go_bipush (14) K H d63_71 (by decide) ?_
  refine go_newC (m := 14) 14 K H d63_73 (hw _ (List.mem_of_getElem? (i := 4) rfl)) (by decide) (by decide) (by decide) (by decide) fun T101 h101 e H101 g101 l101 E101 A101 => ?_
  have nte : t ≠ e := Nat.ne_of_lt (g101 ▸ S.1.lt); have nve : tv ≠ e := Nat.ne_of_lt (g101 ▸ S.2.2.2.1.lt); have I1 := I.ext E101; have X1 := ext_trans X E101; have S1 := S.ext E101; have ge := l101
  refine go_astore K H101 d63_75 rfl (L' := #[.val (.int u0), .val (.int u1), .val (.int u2), .val (.int (oN nn)), .val (.int (oN c0)), .val (.int (oN c1)), .val (.ref t), .val (.ref e), .unset, .unset]) rfl ?_
  refine go_iconst (0) K H101 d63_77 (by decide) ?_
  refine go_istore K H101 d63_78 (L' := #[.val (.int u0), .val (.int u1), .val (.int u2), .val (.int (oN nn)), .val (.int (oN c0)), .val (.int (oN c1)), .val (.ref t), .val (.ref e), .val (.int 0), .unset]) rfl ?_
  refine go_aload K H101 d63_80 rfl rfl ?_
  refine go_iload K H101 d63_82 rfl ?_
  refine go_bipush (34) K H101 d63_84 (by decide) ?_
  refine go_cS (i := 0) (b := 34) K H101 d63_86 (A101) (by decide) (by decide) (ge) fun T102 h102 H102 W102 B102 => ?_
  have A1 : CA Z h102 e ([34] ++ List.replicate 13 0) := B102
  replace I1 := I1.keep (Keep.of_wr W102) (sfS (Sf.ca K A101) sf0); replace X1 := ext_keep X1 (Keep.of_wr W102) (allS (Nat.le_trans hz ge) all0); replace S1 := S1.keep (Keep.of_wr W102) (ninS nte nin0) (ninS nve nin0)
  refine go_iload K H102 d63_87 rfl ?_
  refine go_iconst (1) K H102 d63_89 (by decide) ?_
  refine go_iadd K H102 d63_90 fun v103 ev103 => ?_
  obtain rfl : v103 = (1 : Int32) := ev103.trans (by decide)
  refine go_istore K H102 d63_91 (L' := #[.val (.int u0), .val (.int u1), .val (.int u2), .val (.int (oN nn)), .val (.int (oN c0)), .val (.int (oN c1)), .val (.ref t), .val (.ref e), .val (.int 1), .unset]) rfl ?_
  refine go_iloadN K H102 d63_93 rfl ?_
  refine go_iconst (1) K H102 d63_94 (by decide) ?_
  rcases (show nn = 0 ∨ nn = 1 ∨ nn = 2 by omega) with rfl | rfl | rfl
  · obtain rfl := hM
    refine go_icmp_lt K H102 d63_95 (fun cc => ?_) (fun cc => False.elim (by (try simp (disch := omega) only [oN_toInt, Int32.lt_iff_toInt_lt, Int32.le_iff_toInt_le, ← Int32.toInt_inj, Int32.reduceToInt, ne_eq] at cc); omega))
    refine go_iloadN K H102 d63_109 rfl ?_
    refine go_iconst (2) K H102 d63_110 (by decide) ?_
    refine go_icmp_lt K H102 d63_111 (fun cc => ?_) (fun cc => False.elim (by (try simp (disch := omega) only [oN_toInt, Int32.lt_iff_toInt_lt, Int32.le_iff_toInt_le, ← Int32.toInt_inj, Int32.reduceToInt, ne_eq] at cc); omega))
    exact lend Z a0 hw hEL ss hx HX HA n0 hz s0 _ _ _ K I1 X1 _ _ _ _ _ _ k0 k1 _ _ _ _ S1 mc m2 H102 e ([34]) (List.replicate 13 0) A1 ge (by decide) (rfl) (by decide) nte nve
  · obtain rfl := hM
    refine go_icmp_lt K H102 d63_95 (fun cc => False.elim (by (try simp (disch := omega) only [oN_toInt, Int32.lt_iff_toInt_lt, Int32.le_iff_toInt_le, ← Int32.toInt_inj, Int32.reduceToInt, ne_eq] at cc); omega)) (fun cc => ?_)
    refine go_aload K H102 d63_98 rfl rfl ?_
    refine go_iload K H102 d63_100 rfl ?_
    refine go_iload K H102 d63_102 rfl ?_
    refine go_callS [(.ref e), (.int 1), (.int (oN c0))] K H102 d63_104 (hw _ (List.mem_of_getElem? (i := 31) rfl)) (hw _ (List.mem_of_getElem? (i := 32) rfl)) (hw _ (List.mem_of_getElem? (i := 33) rfl)) (hw _ (List.mem_of_getElem? (i := 34) rfl)) (st' := []) (by decide) (rmPt Z a0 hw _ _ n0 (at_size K H102) ([34]) (List.replicate 13 0) A1 (by decide) ge c0 k0) pd42 rfl rfl rfl (by decide) (W := 0) rfl (by decide) (by decide) (by decide) fun T104 h104 v104 H104 q104 => ?_
    obtain ⟨z104, rfl, ez1, A2, K1⟩ := q104
    show Go _ _ _ 107 #[.val (.int u0), .val (.int u1), .val (.int u2), .val (.int (oN 1)), .val (.int (oN c0)), .val (.int (oN c1)), .val (.ref t), .val (.ref e), .val (.int 1), .unset] [(.int z104)]
    replace I1 := I1.keep K1 (sfS (Sf.ca K A1) sf0); replace X1 := ext_keep X1 K1 (allS (Nat.le_trans hz ge) all0); replace S1 := S1.keep K1 (ninS nte nin0) (ninS nve nin0)
    obtain rfl : z104 = oN ([34] ++ esc c0).length := ez1.trans (congrArg oN (by simp only [List.length_append]))
    show Go _ _ _ 107 #[.val (.int u0), .val (.int u1), .val (.int u2), .val (.int (oN 1)), .val (.int (oN c0)), .val (.int (oN c1)), .val (.ref t), .val (.ref e), .val (.int 1), .unset] [(.int (oN ([34] ++ esc c0).length))]
    refine go_istore K H104 d63_107 (L' := #[.val (.int u0), .val (.int u1), .val (.int u2), .val (.int (oN 1)), .val (.int (oN c0)), .val (.int (oN c1)), .val (.ref t), .val (.ref e), .val (.int (oN ([34] ++ esc c0).length)), .unset]) rfl ?_
    refine go_iloadN K H104 d63_109 rfl ?_
    refine go_iconst (2) K H104 d63_110 (by decide) ?_
    refine go_icmp_lt K H104 d63_111 (fun cc => ?_) (fun cc => False.elim (by (try simp (disch := omega) only [oN_toInt, Int32.lt_iff_toInt_lt, Int32.le_iff_toInt_le, ← Int32.toInt_inj, Int32.reduceToInt, ne_eq] at cc); omega))
    exact lend Z a0 hw hEL ss hx HX HA n0 hz s0 _ _ _ K I1 X1 _ _ _ _ _ _ k0 k1 _ _ _ _ S1 mc m2 H104 e ([34] ++ esc c0) ((List.replicate 13 0).drop (esc c0).length) A2 ge (by have := esc_len c0; simp only [List.length_drop, List.length_replicate]; omega) (by simp) (by have := esc_len c0; simp only [List.length_append, List.length_cons, List.length_nil]; omega) nte nve
  · obtain rfl := hM
    refine go_icmp_lt K H102 d63_95 (fun cc => False.elim (by (try simp (disch := omega) only [oN_toInt, Int32.lt_iff_toInt_lt, Int32.le_iff_toInt_le, ← Int32.toInt_inj, Int32.reduceToInt, ne_eq] at cc); omega)) (fun cc => ?_)
    refine go_aload K H102 d63_98 rfl rfl ?_
    refine go_iload K H102 d63_100 rfl ?_
    refine go_iload K H102 d63_102 rfl ?_
    refine go_callS [(.ref e), (.int 1), (.int (oN c0))] K H102 d63_104 (hw _ (List.mem_of_getElem? (i := 31) rfl)) (hw _ (List.mem_of_getElem? (i := 32) rfl)) (hw _ (List.mem_of_getElem? (i := 33) rfl)) (hw _ (List.mem_of_getElem? (i := 34) rfl)) (st' := []) (by decide) (rmPt Z a0 hw _ _ n0 (at_size K H102) ([34]) (List.replicate 13 0) A1 (by decide) ge c0 k0) pd42 rfl rfl rfl (by decide) (W := 0) rfl (by decide) (by decide) (by decide) fun T105 h105 v105 H105 q105 => ?_
    obtain ⟨z105, rfl, ez1, A2, K1⟩ := q105
    show Go _ _ _ 107 #[.val (.int u0), .val (.int u1), .val (.int u2), .val (.int (oN 2)), .val (.int (oN c0)), .val (.int (oN c1)), .val (.ref t), .val (.ref e), .val (.int 1), .unset] [(.int z105)]
    replace I1 := I1.keep K1 (sfS (Sf.ca K A1) sf0); replace X1 := ext_keep X1 K1 (allS (Nat.le_trans hz ge) all0); replace S1 := S1.keep K1 (ninS nte nin0) (ninS nve nin0)
    obtain rfl : z105 = oN ([34] ++ esc c0).length := ez1.trans (congrArg oN (by simp only [List.length_append]))
    show Go _ _ _ 107 #[.val (.int u0), .val (.int u1), .val (.int u2), .val (.int (oN 2)), .val (.int (oN c0)), .val (.int (oN c1)), .val (.ref t), .val (.ref e), .val (.int 1), .unset] [(.int (oN ([34] ++ esc c0).length))]
    refine go_istore K H105 d63_107 (L' := #[.val (.int u0), .val (.int u1), .val (.int u2), .val (.int (oN 2)), .val (.int (oN c0)), .val (.int (oN c1)), .val (.ref t), .val (.ref e), .val (.int (oN ([34] ++ esc c0).length)), .unset]) rfl ?_
    refine go_iloadN K H105 d63_109 rfl ?_
    refine go_iconst (2) K H105 d63_110 (by decide) ?_
    refine go_icmp_lt K H105 d63_111 (fun cc => False.elim (by (try simp (disch := omega) only [oN_toInt, Int32.lt_iff_toInt_lt, Int32.le_iff_toInt_le, ← Int32.toInt_inj, Int32.reduceToInt, ne_eq] at cc); omega)) (fun cc => ?_)
    refine go_aload K H105 d63_114 rfl rfl ?_
    refine go_iload K H105 d63_116 rfl ?_
    refine go_iload K H105 d63_118 rfl ?_
    refine go_callS [(.ref e), (.int (oN ([34] ++ esc c0).length)), (.int (oN c1))] K H105 d63_120 (hw _ (List.mem_of_getElem? (i := 31) rfl)) (hw _ (List.mem_of_getElem? (i := 32) rfl)) (hw _ (List.mem_of_getElem? (i := 33) rfl)) (hw _ (List.mem_of_getElem? (i := 34) rfl)) (st' := []) (by decide) (rmPt Z a0 hw _ _ n0 (at_size K H105) ([34] ++ esc c0) ((List.replicate 13 0).drop (esc c0).length) A2 (by have := esc_len c0; rw [List.length_drop, List.length_replicate]; omega) ge c1 k1) pd42 rfl rfl rfl (by decide) (W := 0) rfl (by decide) (by decide) (by decide) fun T106 h106 v106 H106 q106 => ?_
    obtain ⟨z106, rfl, ez2, A3, K2⟩ := q106
    show Go _ _ _ 123 #[.val (.int u0), .val (.int u1), .val (.int u2), .val (.int (oN 2)), .val (.int (oN c0)), .val (.int (oN c1)), .val (.ref t), .val (.ref e), .val (.int (oN ([34] ++ esc c0).length)), .unset] [(.int z106)]
    replace I1 := I1.keep K2 (sfS (Sf.ca K A2) sf0); replace X1 := ext_keep X1 K2 (allS (Nat.le_trans hz ge) all0); replace S1 := S1.keep K2 (ninS nte nin0) (ninS nve nin0)
    obtain rfl : z106 = oN ([34] ++ esc c0 ++ esc c1).length := ez2.trans (congrArg oN (by simp only [List.length_append]))
    show Go _ _ _ 123 #[.val (.int u0), .val (.int u1), .val (.int u2), .val (.int (oN 2)), .val (.int (oN c0)), .val (.int (oN c1)), .val (.ref t), .val (.ref e), .val (.int (oN ([34] ++ esc c0).length)), .unset] [(.int (oN ([34] ++ esc c0 ++ esc c1).length))]
    refine go_istore K H106 d63_123 (L' := #[.val (.int u0), .val (.int u1), .val (.int u2), .val (.int (oN 2)), .val (.int (oN c0)), .val (.int (oN c1)), .val (.ref t), .val (.ref e), .val (.int (oN ([34] ++ esc c0 ++ esc c1).length)), .unset]) rfl ?_
    exact lend Z a0 hw hEL ss hx HX HA n0 hz s0 _ _ _ K I1 X1 _ _ _ _ _ _ k0 k1 _ _ _ _ S1 mc m2 H106 e ([34] ++ esc c0 ++ esc c1) (((List.replicate 13 0).drop (esc c0).length).drop (esc c1).length) A3 ge (by have := esc_len c0; have := esc_len c1; simp only [List.length_drop, List.length_replicate]; omega) (by simp) (by have := esc_len c0; have := esc_len c1; simp only [List.length_append, List.length_cons, List.length_nil]; omega) nte nve
set_option maxRecDepth 65536 in
set_option maxHeartbeats 40000000 in
theorem rm0 (Z : State) (a0 : Array Value) (hw : ∀ d ∈ tables_1, d.before a0 Z = true) (u0 : Int32) (u1 : Int32) (u2 : Int32) (h0 : Heap) (n0 : Nat) (Z0 : n0 ≤ h0.size) (hEL : EW Z a0 consts_1) (ss : SSt Z) (X00 : Ext Z.heap h0) (hz : Z.heap.size ≤ n0) (hx : Addr) (HX : Sta Z Z.heap "com/example/bellwether/bellwether/model/Literals" "HEX" "[C" (.ref hx)) (HA : CA Z Z.heap hx ((List.range 16).map hexd)) (lau : Launch) :
    ConH lau Z consts_1 x code maxLocals ret room_1 #[(.int u0), (.int u1), (.int u2)] h0 n0 [] (RI fun z _ => z = 1) := by
  refine con_introH pn63 (L := #[.val (.int u0), .val (.int u1), .val (.int u2), .unset, .unset, .unset, .unset, .unset, .unset, .unset]) (fun m => by first | (simp [entryFrame, mkF, argsToLocals, Value.category, maxLocals]; done) | rfl) Z0 (fun w T s0 K H I SF0 => ?_)
  have X0 : Ext Z.heap h0 := X00
  refine go_iloadN K H d63_0 rfl ?_
  refine go_ldcI (2147483647) K H d63_1 (hw _ (List.mem_of_getElem? (i := 0) rfl)) ?_
  refine go_iand K H d63_3 fun v101 ev101 => ?_
  have fv101 := f_mask 2147483648 31 ev101 (by decide) (by decide) (by decide)
  refine go_iconst (3) K H d63_4 (by decide) ?_
  refine go_irem K H d63_5 (by decide) fun v102 ev102 => ?_
  have fv102 := f_irem 3 ev102 (by decide)
  refine go_istoreN K H d63_6 (L' := #[.val (.int u0), .val (.int u1), .val (.int u2), .val (.int v102), .unset, .unset, .unset, .unset, .unset, .unset]) rfl ?_
  refine go_iloadN K H d63_7 rfl ?_
  refine go_i2c K H d63_8 fun v103 ev103 => ?_
  have fv103 := f_i2c ev103
  refine go_istore K H d63_9 (L' := #[.val (.int u0), .val (.int u1), .val (.int u2), .val (.int v102), .val (.int v103), .unset, .unset, .unset, .unset, .unset]) rfl ?_
  refine go_iloadN K H d63_11 rfl ?_
  refine go_i2c K H d63_12 fun v104 ev104 => ?_
  have fv104 := f_i2c ev104
  refine go_istore K H d63_13 (L' := #[.val (.int u0), .val (.int u1), .val (.int u2), .val (.int v102), .val (.int v103), .val (.int v104), .unset, .unset, .unset, .unset]) rfl ?_
  refine go_iloadN K H d63_15 rfl ?_
  obtain ⟨nn, hn, en⟩ := oN_of (v := v102) (N := 3) (by omega) (by omega) (by decide); obtain ⟨c0, k0, ec0⟩ := oN_of (v := v103) (N := 65536) (by omega) (by omega) (by decide); obtain ⟨c1, k1, ec1⟩ := oN_of (v := v104) (N := 65536) (by omega) (by omega) (by decide)
  subst en ec0 ec1
  show Go _ _ _ 16 #[.val (.int u0), .val (.int u1), .val (.int u2), .val (.int (oN nn)), .val (.int (oN c0)), .val (.int (oN c1)), .unset, .unset, .unset, .unset] [(.int (oN nn))]
  rcases (show nn = 0 ∨ nn = 1 ∨ nn = 2 by omega) with rfl | rfl | rfl
  · refine go_if_ne K H d63_16 (fun cc => False.elim (by exact cc rfl)) (fun cc => ?_)
    refine go_new K H d63_19 (hw _ (List.mem_of_getElem? (i := 1) rfl)) (hw _ (List.mem_of_getElem? (i := 2) rfl)) (hw _ (List.mem_of_getElem? (i := 3) rfl)) (by decide) (by decide) fun T105 h105 s H105 g105 l105 E105 A105 D105 => ?_
    have X1 := ext_trans X0 E105; have I1 := I.ext E105; have Ss : Sf w consts_1 h105 s := (Sf.new (Nat.le_of_eq g105.symm)).ext I E105; have gs := l105; have AS := A105; have F1 := (D105 (Or.inr (hw _ (List.mem_of_getElem? (i := 30) rfl))) (ty := (.array .byte)) (by decide)); have F2 := (D105 (Or.inr (hw _ (List.mem_of_getElem? (i := 28) rfl))) (ty := .byte) (by decide))
    refine go_dup K H105 d63_22 rfl ?_
    refine go_iconst (0) K H105 d63_23 (by decide) ?_
    refine go_newC (m := 0) 0 K H105 d63_24 (hw _ (List.mem_of_getElem? (i := 4) rfl)) (by decide) (by decide) (by decide) (by decide) fun T106 h106 e H106 g106 l106 E106 A106 => ?_
    replace X1 := ext_trans X1 E106; replace Ss := Ss.ext I1 E106; replace I1 := I1.ext E106; replace AS := AS.ext E106; replace F1 := F1.ext E106; replace F2 := F2.ext E106
    refine go_callIH [(.ref e)] K H106 I1 hEL (fun x q => by cases List.mem_singleton.mp q; exact ⟨AS.lt, Ss⟩) d63_26 rfl (hw _ (List.mem_of_getElem? (i := 5) rfl)) (hw _ (List.mem_of_getElem? (i := 6) rfl)) (hw _ (List.mem_of_getElem? (i := 3) rfl)) (hw _ (List.mem_of_getElem? (i := 7) rfl)) (st' := [(.ref s)]) (by decide) (rmZ1 Z a0 hw _ _ _ n0 (at_size K H106) hEL _ _ F1 F2 AS gs A106) pd43 rfl rfl rfl (by decide) (W := 1) rfl (by decide) (by decide) (by decide) fun w107 T107 h107 v107 K107 H107 I107 F107 q107 => ?_
    obtain ⟨rfl, tv, tcd, S, KS⟩ := q107
    show Go _ _ _ 29 #[.val (.int u0), .val (.int u1), .val (.int u2), .val (.int (oN 0)), .val (.int (oN c0)), .val (.int (oN c1)), .unset, .unset, .unset, .unset] [(.ref s)]
    replace X1 := ext_keep X1 KS (allS (Nat.le_trans hz gs) all0)
    refine go_astore K107 H107 d63_29 rfl (L' := #[.val (.int u0), .val (.int u1), .val (.int u2), .val (.int (oN 0)), .val (.int (oN c0)), .val (.int (oN c1)), .val (.ref s), .unset, .unset, .unset]) rfl ?_
    refine go_goto K107 H107 d63_31 ?_
    exact ltail Z a0 hw hEL ss hx HX HA n0 hz s0 _ _ _ K107 I107 X1 _ _ _ _ _ _ k0 k1 _ _ _ [] S (by simp) (by simp) (H107.mono (by decide) (by decide)) (by decide) rfl
  · refine go_if_ne K H d63_16 (fun cc => ?_) (fun cc => False.elim (by first | exact absurd cc (by decide) | exact cc (by decide)))
    refine go_iloadN K H d63_34 rfl ?_
    refine go_iconst (1) K H d63_35 (by decide) ?_
    refine go_icmp_ne K H d63_36 (fun cc => False.elim (by first | exact absurd cc (by decide) | exact cc (by decide))) (fun cc => ?_)
    refine go_iload K H d63_39 rfl ?_
    refine go_callS [(.int (oN c0))] K H d63_41 (hw _ (List.mem_of_getElem? (i := 232) rfl)) (hw _ (List.mem_of_getElem? (i := 233) rfl)) (hw _ (List.mem_of_getElem? (i := 3) rfl)) (hw _ (List.mem_of_getElem? (i := 234) rfl)) (st' := []) (by decide) (rmVO Z a0 hw _ n0 (at_size K H) ss X0 hz c0 k0) pd44 rfl rfl rfl (by decide) (W := 0) rfl (by decide) (by decide) (by decide) fun T108 h108 v108 H108 q108 => ?_
    obtain ⟨z108, rfl, hz108, s, tv, tcd, rfl, ls, lv, hs, hv, S, E1⟩ := q108
    show Go _ _ _ 44 #[.val (.int u0), .val (.int u1), .val (.int u2), .val (.int (oN 1)), .val (.int (oN c0)), .val (.int (oN c1)), .unset, .unset, .unset, .unset] [(.ref s)]
    have X1 := ext_trans X0 E1; have I1 := I.ext E1
    refine go_astore K H108 d63_44 rfl (L' := #[.val (.int u0), .val (.int u1), .val (.int u2), .val (.int (oN 1)), .val (.int (oN c0)), .val (.int (oN c1)), .val (.ref s), .unset, .unset, .unset]) rfl ?_
    refine go_goto K H108 d63_46 ?_
    exact ltail Z a0 hw hEL ss hx HX HA n0 hz s0 _ _ _ K I1 X1 _ _ _ _ _ _ k0 k1 _ _ _ [c0] S (by simpa using k0) (by simp) (H108.mono (by decide) (by decide)) (by decide) rfl
  · refine go_if_ne K H d63_16 (fun cc => ?_) (fun cc => False.elim (by first | exact absurd cc (by decide) | exact cc (by decide)))
    refine go_iloadN K H d63_34 rfl ?_
    refine go_iconst (1) K H d63_35 (by decide) ?_
    refine go_icmp_ne K H d63_36 (fun cc => ?_) (fun cc => False.elim (by first | exact absurd cc (by decide) | exact cc (by decide)))
    refine go_new K H d63_49 (hw _ (List.mem_of_getElem? (i := 1) rfl)) (hw _ (List.mem_of_getElem? (i := 2) rfl)) (hw _ (List.mem_of_getElem? (i := 3) rfl)) (by decide) (by decide) fun T109 h109 s H109 g109 l109 E109 A109 D109 => ?_
    have X1 := ext_trans X0 E109; have I1 := I.ext E109; have Ss : Sf w consts_1 h109 s := (Sf.new (Nat.le_of_eq g109.symm)).ext I E109; have gs := l109; have AS := A109; have F1 := (D109 (Or.inr (hw _ (List.mem_of_getElem? (i := 30) rfl))) (ty := (.array .byte)) (by decide)); have F2 := (D109 (Or.inr (hw _ (List.mem_of_getElem? (i := 28) rfl))) (ty := .byte) (by decide))
    refine go_dup K H109 d63_52 rfl ?_
    refine go_iconst (2) K H109 d63_53 (by decide) ?_
    refine go_newC (m := 2) 2 K H109 d63_54 (hw _ (List.mem_of_getElem? (i := 4) rfl)) (by decide) (by decide) (by decide) (by decide) fun T110 h110 e H110 g110 l110 E110 A110 => ?_
    have nse : s ≠ e := Nat.ne_of_lt (g110 ▸ AS.lt); replace X1 := ext_trans X1 E110; replace Ss := Ss.ext I1 E110; replace I1 := I1.ext E110; replace AS := AS.ext E110; replace F1 := F1.ext E110; replace F2 := F2.ext E110
    refine go_dup K H110 d63_56 rfl ?_
    refine go_iconst (0) K H110 d63_57 (by decide) ?_
    refine go_iload K H110 d63_58 rfl ?_
    refine go_cS (i := 0) (b := c0) K H110 d63_60 (A110) (by simp) (k0) (l110) fun T111 h111 H111 W111 B111 => ?_
    have sfa0 := sfS (EL := consts_1) (Sf.ca K A110) sf0; replace Ss := Ss.keep I1 (Keep.of_wr W111) sfa0; replace I1 := I1.keep (Keep.of_wr W111) sfa0; replace X1 := ext_wr X1 W111 (Nat.le_trans hz l110); replace AS := AS.wr W111; replace F1 := F1.other W111 (Or.inl nse); replace F2 := F2.other W111 (Or.inl nse)
    refine go_dup K H111 d63_61 rfl ?_
    refine go_iconst (1) K H111 d63_62 (by decide) ?_
    refine go_iload K H111 d63_63 rfl ?_
    refine go_cS (i := 1) (b := c1) K H111 d63_65 (B111) (by simp) (k1) (l110) fun T112 h112 H112 W112 B112 => ?_
    have sfa1 := sfS (EL := consts_1) (Sf.ca K B111) sf0; replace Ss := Ss.keep I1 (Keep.of_wr W112) sfa1; replace I1 := I1.keep (Keep.of_wr W112) sfa1; replace X1 := ext_wr X1 W112 (Nat.le_trans hz l110); replace AS := AS.wr W112; replace F1 := F1.other W112 (Or.inl nse); replace F2 := F2.other W112 (Or.inl nse)
    refine go_callI [(.ref e)] K H112 d63_66 rfl (hw _ (List.mem_of_getElem? (i := 5) rfl)) (hw _ (List.mem_of_getElem? (i := 6) rfl)) (hw _ (List.mem_of_getElem? (i := 3) rfl)) (hw _ (List.mem_of_getElem? (i := 7) rfl)) (st' := [(.ref s)]) (by decide) (rmS1 Z a0 hw _ _ _ n0 (at_size K H112) ss X1 hz c0 c1 k0 k1 B112 _ _ F1 F2 AS gs) pd43 rfl rfl rfl (by decide) (W := 1) rfl (by decide) (by decide) (by decide) fun T113 h113 v113 H113 q113 => ?_
    obtain ⟨rfl, tv, tcd, S, KS⟩ := q113
    show Go _ _ _ 69 #[.val (.int u0), .val (.int u1), .val (.int u2), .val (.int (oN 2)), .val (.int (oN c0)), .val (.int (oN c1)), .unset, .unset, .unset, .unset] [(.ref s)]
    replace X1 := ext_keep X1 KS (allS (Nat.le_trans hz gs) all0); replace I1 := I1.keep KS (sfS Ss sf0)
    refine go_astore K H113 d63_69 rfl (L' := #[.val (.int u0), .val (.int u1), .val (.int u2), .val (.int (oN 2)), .val (.int (oN c0)), .val (.int (oN c1)), .val (.ref s), .unset, .unset, .unset]) rfl ?_
    exact ltail Z a0 hw hEL ss hx HX HA n0 hz s0 _ _ _ K I1 X1 _ _ _ _ _ _ k0 k1 _ _ _ [c0, c1] S (by simpa using ⟨k0, k1⟩) (by simp) (H113.mono (by decide) (by decide)) (by decide) rfl
set_option maxRecDepth 65536 in
set_option maxHeartbeats 40000000 in
theorem own_law (l : Launch) (s : State) (args : Array Value) (hF : heapFits s = true) (hrest : ∀ d ∈ jdkStatics_1, d.before args s = true) (hh : ∀ p ∈ consts_1, Jvm.Lit.constHeld s p.1 p.2) (hg : (Jvm.Cond.and given_1 narrow_1).value args s none s [] = some true) (hw : ∀ d ∈ tables_1, d.before args s = true) : CHv s consts_1 s.vm s.heap ∧ ConH l s consts_1 x code maxLocals ret room_1 args s.heap s.heap.size [] (RI fun z _ => z = 1) := by
  obtain ⟨hg, hn⟩ := and_e hg
  obtain ⟨g0, hg⟩ := and_e hg
  obtain ⟨w0, w1, w2, rfl⟩ : ∃ w0 w1 w2 : Value, args = #[w0, w1, w2] := by
    have hs : args.size = 3 := by simpa [Cond.value, given_1] using g0
    obtain ⟨L⟩ := args
    match L, hs with
    | [w0, w1, w2], _ => exact ⟨w0, w1, w2, rfl⟩
  obtain ⟨g1, hg⟩ := and_e hg
  obtain ⟨g2, hg⟩ := and_e hg
  obtain ⟨i0, ei0⟩ := is_v g1
  obtain rfl : w0 = (.int i0) := Option.some.inj ei0
  obtain ⟨i1, ei1⟩ := is_v g2
  obtain rfl : w1 = (.int i1) := Option.some.inj ei1
  obtain ⟨i2, ei2⟩ := is_v hg
  obtain rfl : w2 = (.int i2) := Option.some.inj ei2
  have hEL : EW s _ consts_1 := EW.cons (hw _ (List.mem_of_getElem? (i := 303) rfl)) (by decide) (EW.cons (hw _ (List.mem_of_getElem? (i := 304) rfl)) (by decide) (EW.cons (hw _ (List.mem_of_getElem? (i := 301) rfl)) (by decide) (EW.cons (hw _ (List.mem_of_getElem? (i := 124) rfl)) (by decide) (EW.cons (hw _ (List.mem_of_getElem? (i := 222) rfl)) (by decide) EW.nil))))
  obtain ⟨cs, ecs⟩ := is_v (Cond.before_iff.mp (hrest _ (List.mem_of_getElem? (i := 1) rfl)))
  have jn := Cond.before_iff.mp (hrest _ (List.mem_of_getElem? (i := 2) rfl))
  have hcs : cs ≠ 0 := fun q => by have e := Cond.eq_ints ecs (Term.int_eval (0 : Int32)); rw [q] at e; have n : ((Jvm.Cond.eq (Jvm.Term.static "java/lang/String" "COMPACT_STRINGS" "Z") (Jvm.Term.int 0)).value #[.int i0, .int i1, .int i2] s none s []).map (!·) = some true := jn; rw [e] at n; simp at n
  obtain ⟨fv, efv, hfv⟩ := isR_v (Cond.before_iff.mp (hrest _ (List.mem_of_getElem? (i := 8) rfl)))
  have ss : SSt s := ⟨⟨cs, hcs, Sta.start ecs (Or.inl (hrest _ (List.mem_of_getElem? (i := 0) rfl)))⟩, ⟨fv, hfv, Sta.start efv (Or.inl (hrest _ (List.mem_of_getElem? (i := 7) rfl)))⟩, Sta.start (eqI_v (Cond.before_iff.mp (hrest _ (List.mem_of_getElem? (i := 12) rfl)))) (Or.inl (hrest _ (List.mem_of_getElem? (i := 11) rfl))), Sta.start (eqI_v (Cond.before_iff.mp (hrest _ (List.mem_of_getElem? (i := 15) rfl)))) (Or.inl (hrest _ (List.mem_of_getElem? (i := 14) rfl))), Sta.start (eqI_v (Cond.before_iff.mp (hrest _ (List.mem_of_getElem? (i := 18) rfl)))) (Or.inl (hrest _ (List.mem_of_getElem? (i := 17) rfl)))⟩
  obtain ⟨j4, hn⟩ := and_e hn
  obtain ⟨j6, hn⟩ := and_e hn
  obtain ⟨j7, j8⟩ := and_e hn
  obtain ⟨hx, ev⟩ := arr_v j4
  obtain ⟨c, A⟩ := Arr.start ev j4
  have hs := len_size (eqI_v j6) ev A.1
  have hz : c.slots.size = 16 := by have : (16 : Int32).toInt = 16 := rfl; omega
  have HE : ∀ i, i < 16 → c.slots[i]? = some (cV (hexd i)) := by
    intro i hi
    have e10 : (10 : Int32) = oN 10 := rfl
    have ei : (Term.index 0).eval #[.int i0, .int i1, .int i2] s none [i] s = some (.int (oN i)) := Term.index_eval _
    by_cases h10 : i < 10
    · have q := all_at j7 ev A.1 (i := i) (by omega)
      rw [Cond.or_of_right (by rw [Cond.le_ints (Term.int_eval _) ei]; simp only [Option.some.injEq, decide_eq_false_iff_not]; rw [e10, Int32.le_iff_toInt_le, oN_toInt (n := 10) (by decide), oN_toInt (n := i) (by omega)]; omega)] at q
      obtain ⟨x, h1, h2⟩ := hex_el q ev A.1 (by omega)
      rw [h1, hex_v (k := 48) hi (by decide) h2]; unfold hexd cV; rw [if_pos h10, Nat.add_comm]
    · have q := all_at j8 ev A.1 (i := i) (by omega)
      rw [Cond.or_of_right (by rw [Cond.lt_ints ei (Term.int_eval _)]; simp only [Option.some.injEq, decide_eq_false_iff_not]; rw [e10, Int32.lt_iff_toInt_lt, oN_toInt (n := i) (by omega), oN_toInt (n := 10) (by decide)]; omega)] at q
      obtain ⟨x, h1, h2⟩ := hex_el q ev A.1 (by omega)
      rw [h1, hex_v (k := 87) hi (by decide) h2]; unfold hexd cV; rw [if_neg h10, Nat.add_comm]
  have HA : CA s s.heap hx ((List.range 16).map hexd) := by
    refine ⟨VA.of_arr A (by simp [hz]) (by simp) fun i hi => ?_, fun q hq => ?_⟩
    · simp only [List.length_map, List.length_range] at hi; rw [HE i hi, List.getElem?_map, List.getElem?_map, List.getElem?_range hi]; rfl
    · obtain ⟨i, hi, rfl⟩ := List.mem_map.mp hq; exact Nat.lt_trans (hexd_lt (List.mem_range.mp hi)) (by decide)
  exact ⟨CHv.start hEL hh (hrest _ (List.mem_of_getElem? (i := 2) rfl)) (hw _ (List.mem_of_getElem? (i := 20) rfl)) (hw _ (List.mem_of_getElem? (i := 2) rfl)), rm0 s _ hw i0 i1 i2 s.heap s.heap.size (Nat.le_refl _) hEL ss ⟨Nat.le_refl _, fun _ _ q => q⟩ (Nat.le_refl _) hx (Sta.start ev (Or.inr ⟨(hw _ (List.mem_of_getElem? (i := 40) rfl)), (hw _ (List.mem_of_getElem? (i := 158) rfl))⟩)) HA l⟩
theorem rest_all {ws : List Jvm.Cond} {c : Jvm.Cond} {args : Array Value} {s : State} (h : (ws.foldr Jvm.Cond.and c).before args s = true) : ∀ d ∈ ws, d.before args s = true := by
  induction ws with
  | nil => intro d hd; cases hd
  | cons a l ih =>
    intro d hd
    have h' : (Jvm.Cond.and a (l.foldr Jvm.Cond.and c)).before args s = true := h
    rw [Cond.before_and, Bool.and_eq_true] at h'
    rcases List.mem_cons.mp hd with rfl | hd
    · exact h'.1
    · exact ih h'.2 d hd
theorem rest_spec {tb : Tables} {e : Env} {args : Array Value} {s : State} (h : rest_1 tb e args s) : ∀ d ∈ jdkStatics_1, d.before args s = true := rest_all (c := restOwn_1) (by rw [← rest_1_c_eq]; exact h)
theorem main_1_1 : Claimed_1_1 := own_comesH (ck := 40) (sk := 5376) (fun _ _ _ _ _ _ h hF => ⟨h.1, hF⟩) (by decide) (by decide) fun l _ _ s args hF hr hh hg hw => own_law l s args hF (rest_spec hr) hh hg hw
theorem main_1_2 : Claimed_1_2 := own_comesH (ck := 40) (sk := 5376) (fun _ _ _ _ _ _ h hF => ⟨h.2, hF⟩) (by decide) (by decide) fun l _ _ s args hF hr hh hg hw => own_law l s args hF (rest_spec hr) hh hg hw
end Jvm.Pilot.@@N@@
namespace Jvm.Pilot.@@N@@
open Jvm Jvm.ClassFile Sem Op Lib Jvm.Free Jvm.Stand Jvm.Pilot.@@N@@.Jvm.D
/-! MADE BY PROGRAM (witnessworld.py) out of the Statement's table words and the real class files: 27 classes; the members and pool entries that the words name. The judged class is class 1, her method 1. -/
namespace start1
open Jvm.ClassFile
def u (s : String) : CpInfo := .utf8 (stringToUtf16 s)
/-- a pool by its gaps: so many unusable entries, then the entry; so many at the end -/
def gap : Nat → List CpInfo → List CpInfo
  | 0, r => r
  | n + 1, r => .unusable :: gap n r
def poolList (es : List (Nat × CpInfo)) (last : Nat) : List CpInfo := es.foldr (fun e r => gap e.1 (e.2 :: r)) (gap last [])
def pool (es : List (Nat × CpInfo)) (last : Nat) : Array CpInfo := ⟨poolList es last⟩
def fileOf (pool : Array CpInfo) (this : Nat) (attrs : Array Attribute := #[]) (ms : Array MethodInfo := #[]) (fl : Nat := 33) (sup : Nat := 0) (ifs : Array Nat := #[]) (fds : Array FieldInfo := #[]) : ClassFile where
  minorVersion := 0
  majorVersion := 65
  constantPool := pool
  accessFlags := fl
  thisClass := this
  superClass := sup
  interfaces := ifs
  fields := fds
  methods := ms
  attributes := attrs
def plain (name : String) (sup : Option ClassId) : Class where
  name := name
  kind := .ordinary
  loader := none
  accessFlags := 33
  super := sup
  interfaces := #[]
  cf := none
  fields := #[]
  methods := #[]
  instanceTypes := #[]
  staticTypes := #[]
  resolved := #[]
  callSites := []
  init := .initialized
  statics := none
  mirror := none

def pool0 : Array CpInfo := pool [(5, u "<init>"), (0, u "()V"), (1, .class_ 10), (1, u "java/lang/Object"), (85, u "clone"), (0, u "()Ljava/lang/Object;")] 26

def k0c0 : Code := { maxStack := 0, maxLocals := 1, code := object_method_1_code, exceptionTable := #[], attributes := #[] }
def k0m0 : Method := { name := "<init>", desc := "()V", sig := { parameters := [], returnType := none }, accessFlags := 1, code := some k0c0 }
def k0m1 : Method := { name := "clone", desc := "()Ljava/lang/Object;", sig := { parameters := [], returnType := some (.object "java/lang/Object") }, accessFlags := 260, code := none }
/-- java/lang/Object -/
def k0 : Class := { plain "java/lang/Object" none with
  accessFlags := 33
  interfaces := #[]
  cf := some (fileOf pool0 8 #[] #[{ accessFlags := 1, nameIndex := 5, descriptorIndex := 6, attributes := #[] }, { accessFlags := 260, nameIndex := 96, descriptorIndex := 97, attributes := #[] }] 33 0 #[] #[])
  fields := #[]
  methods := #[k0m0, k0m1]
  instanceTypes := #[]
  staticTypes := #[]
  resolved := Array.replicate 124 none
  statics := none }

def pool1 : Array CpInfo := pool [(2, .class_ 4), (1, u "java/lang/Object"), (0, u "<init>"), (0, u "()V"), (0, .integer 2147483647), (0, .class_ 9), (0, u "java/lang/String"), (0, .methodref 8 11), (0, .nameAndType 5 12), (0, u "([C)V"), (0, .methodref 8 14), (0, .nameAndType 15 16), (0, u "valueOf"), (0, u "(C)Ljava/lang/String;"), (0, .methodref 18 19), (0, .class_ 20), (0, .nameAndType 21 22), (0, u "com/example/bellwether/bellwether/model/LiteralsQuotePinLaw"), (0, u "put"), (0, u "([CIC)I"), (0, .methodref 24 25), (0, .class_ 26), (0, .nameAndType 27 28), (0, u "com/example/bellwether/bellwether/model/Literals"), (0, u "quote"), (0, u "(Ljava/lang/String;)Ljava/lang/String;"), (0, .methodref 8 30), (0, .nameAndType 31 32), (0, u "length"), (0, u "()I"), (0, .methodref 18 34), (0, .nameAndType 35 36), (0, u "same"), (0, u "(Ljava/lang/String;[CI)Z"), (0, .methodref 8 38), (0, .nameAndType 39 40), (0, u "charAt"), (0, u "(I)C"), (0, .methodref 18 42), (0, .nameAndType 43 40), (0, u "hex"), (2, u "law"), (0, u "(III)Z")] 5

def k1m0 : Method := { name := "<init>", desc := "()V", sig := { parameters := [], returnType := none }, accessFlags := 1, code := none }
def k1c1 : Code := { maxStack := 6, maxLocals := 10, code := code, exceptionTable := #[], attributes := #[] }
def k1m1 : Method := { name := "law", desc := "(III)Z", sig := { parameters := [.int, .int, .int], returnType := some .boolean }, accessFlags := 9, code := some k1c1 }
def k1c2 : Code := { maxStack := 3, maxLocals := 3, code := method_3_code, exceptionTable := #[], attributes := #[] }
def k1m2 : Method := { name := "same", desc := "(Ljava/lang/String;[CI)Z", sig := { parameters := [(.object "java/lang/String"), (.array .char), .int], returnType := some .boolean }, accessFlags := 10, code := some k1c2 }
def k1c3 : Code := { maxStack := 3, maxLocals := 1, code := method_4_code, exceptionTable := #[], attributes := #[] }
def k1m3 : Method := { name := "hex", desc := "(I)C", sig := { parameters := [.int], returnType := some .char }, accessFlags := 10, code := some k1c3 }
def k1c4 : Code := { maxStack := 4, maxLocals := 3, code := method_5_code, exceptionTable := #[], attributes := #[] }
def k1m4 : Method := { name := "put", desc := "([CIC)I", sig := { parameters := [(.array .char), .int, .char], returnType := some .int }, accessFlags := 10, code := some k1c4 }
/-- com/example/bellwether/bellwether/model/LiteralsQuotePinLaw -/
def k1 : Class := { plain "com/example/bellwether/bellwether/model/LiteralsQuotePinLaw" (some 0) with
  accessFlags := 49
  interfaces := #[]
  cf := some (fileOf pool1 18 #[] #[{ accessFlags := 1, nameIndex := 5, descriptorIndex := 6, attributes := #[] }, { accessFlags := 9, nameIndex := 46, descriptorIndex := 47, attributes := #[] }, { accessFlags := 10, nameIndex := 35, descriptorIndex := 36, attributes := #[] }, { accessFlags := 10, nameIndex := 43, descriptorIndex := 40, attributes := #[] }, { accessFlags := 10, nameIndex := 21, descriptorIndex := 22, attributes := #[] }] 49 2 #[] #[])
  fields := #[]
  methods := #[k1m0, k1m1, k1m2, k1m3, k1m4]
  instanceTypes := #[]
  staticTypes := #[]
  resolved := Array.replicate 53 none
  statics := none }

def pool2 : Array CpInfo := pool [(1, .class_ 2), (0, u "java/io/Serializable"), (0, .class_ 4), (0, u "java/lang/Object")] 2

/-- java/io/Serializable -/
def k2 : Class := { plain "java/io/Serializable" (some 0) with
  accessFlags := 1537
  interfaces := #[]
  cf := some (fileOf pool2 1 #[] #[] 1537 3 #[] #[])
  fields := #[]
  methods := #[]
  instanceTypes := #[]
  staticTypes := #[]
  resolved := Array.replicate 7 none
  statics := none }

def pool3 : Array CpInfo := pool [(1, .class_ 2), (0, u "java/lang/Comparable"), (0, .class_ 4), (0, u "java/lang/Object")] 7

/-- java/lang/Comparable -/
def k3 : Class := { plain "java/lang/Comparable" (some 0) with
  accessFlags := 1537
  interfaces := #[]
  cf := some (fileOf pool3 1 #[] #[] 1537 3 #[] #[])
  fields := #[]
  methods := #[]
  instanceTypes := #[]
  staticTypes := #[]
  resolved := Array.replicate 12 none
  statics := none }

def pool4 : Array CpInfo := pool [(2, .class_ 4), (1, u "java/lang/CharSequence"), (42, .class_ 48), (0, u "java/lang/CharSequence$1CodePointIterator"), (10, .class_ 60), (0, u "java/lang/CharSequence$1CharIterator"), (5, .class_ 67), (0, u "java/lang/Object")] 63

/-- java/lang/CharSequence -/
def k4 : Class := { plain "java/lang/CharSequence" (some 0) with
  accessFlags := 1537
  interfaces := #[]
  cf := some (fileOf pool4 2 #[.nestMembers #[47, 59]] #[] 1537 66 #[] #[])
  fields := #[]
  methods := #[]
  instanceTypes := #[]
  staticTypes := #[]
  resolved := Array.replicate 131 none
  statics := none }

def pool5 : Array CpInfo := pool [(1, .class_ 2), (0, u "java/lang/constant/Constable"), (0, .class_ 4), (0, u "java/lang/Object")] 6

/-- java/lang/constant/Constable -/
def k5 : Class := { plain "java/lang/constant/Constable" (some 0) with
  accessFlags := 1537
  interfaces := #[]
  cf := some (fileOf pool5 1 #[] #[] 1537 3 #[] #[])
  fields := #[]
  methods := #[]
  instanceTypes := #[]
  staticTypes := #[]
  resolved := Array.replicate 11 none
  statics := none }

def pool6 : Array CpInfo := pool [(1, .class_ 2), (0, u "java/lang/constant/ConstantDesc"), (0, .class_ 4), (0, u "java/lang/Object")] 32

/-- java/lang/constant/ConstantDesc -/
def k6 : Class := { plain "java/lang/constant/ConstantDesc" (some 0) with
  accessFlags := 1537
  interfaces := #[]
  cf := some (fileOf pool6 1 #[] #[] 1537 3 #[] #[])
  fields := #[]
  methods := #[]
  instanceTypes := #[]
  staticTypes := #[]
  resolved := Array.replicate 37 none
  statics := none }

def pool7 : Array CpInfo := pool [(1, .methodref 2 3), (0, .class_ 4), (0, .nameAndType 5 6), (0, u "java/lang/Object"), (0, u "<init>"), (0, u "()V"), (0, .string 8), (0, u ""), (0, .fieldref 10 11), (0, .class_ 12), (0, .nameAndType 13 14), (0, u "java/lang/String"), (0, u "value"), (0, u "[B"), (0, .fieldref 10 16), (0, .nameAndType 17 18), (0, u "coder"), (0, u "B"), (2, u "hash"), (0, u "I"), (2, u "hashIsZero"), (0, u "Z"), (0, .methodref 10 28), (0, .nameAndType 5 29), (0, u "([CIILjava/lang/Void;)V"), (6, u "checkBoundsOffCount"), (0, u "(III)I"), (0, .fieldref 10 39), (0, .nameAndType 40 26), (0, u "COMPACT_STRINGS"), (1, .class_ 44), (1, u "java/lang/StringUTF16"), (0, u "compress"), (1, .methodref 42 48), (0, .nameAndType 49 50), (0, u "coderFromArrayLen"), (0, u "([BI)B"), (2, u "toBytes"), (0, .methodref 55 56), (0, .class_ 57), (0, .nameAndType 58 59), (0, u "java/util/Arrays"), (0, u "copyOfRange"), (0, u "([BII)[B"), (46, .methodref 107 108), (0, .class_ 109), (0, .nameAndType 110 111), (0, u "java/lang/StringLatin1"), (0, u "inflate"), (0, u "([BI[BII)V"), (30, u "()Z"), (34, .methodref 42 178), (0, .nameAndType 45 179), (0, u "([CII)[B"), (13, .class_ 195), (1, u "java/lang/System"), (13, .methodref 10 210), (0, .nameAndType 5 211), (0, u "([BB)V"), (0, .methodref 193 213), (0, .nameAndType 214 215), (0, u "arraycopy"), (0, u "(Ljava/lang/Object;ILjava/lang/Object;II)V"), (118, u "()I"), (0, .methodref 10 336), (0, .nameAndType 17 337), (0, u "()B"), (2, u "()[B"), (22, u "([BI)C"), (5, u "(C)Z"), (21, u "(II)V"), (35, u "(I)C"), (61, .methodref 10 490), (0, .nameAndType 5 491), (0, u "(Ljava/lang/AbstractStringBuilder;Ljava/lang/Void;)V"), (0, .methodref 10 493), (0, .nameAndType 494 142), (0, u "isLatin1"), (0, .methodref 107 496), (0, .nameAndType 497 363), (0, u "charAt"), (0, .methodref 42 496), (2, u "checkIndex"), (4, .nameAndType 507 334), (0, u "length"), (24, u "getBytes"), (16, .methodref 550 506), (0, .class_ 551), (0, u "java/lang/AbstractStringBuilder"), (0, .methodref 550 553), (0, .nameAndType 554 340), (0, u "getValue"), (20, .class_ 576), (0, u "java/lang/CharSequence"), (22, u "CASE_INSENSITIVE_ORDER"), (0, u "Ljava/util/Comparator;"), (181, u "valueOf"), (0, u "(C)Ljava/lang/String;"), (37, u "([BIB)V"), (188, u "([C)V"), (4, .methodref 107 1016), (0, .nameAndType 1017 369), (0, u "canEncode"), (0, .methodref 107 1019), (0, .nameAndType 53 1020), (0, u "(C)[B"), (0, .methodref 42 1019), (25, .methodref 550 493), (0, .fieldref 550 1049), (0, .nameAndType 1050 26), (0, u "maybeLatin1"), (2, .fieldref 1054 1055), (0, .class_ 1056), (0, .nameAndType 1057 1058), (0, u "jdk/internal/util/Preconditions"), (0, u "SIOOBE_FORMATTER"), (0, u "Ljava/util/function/BiFunction;"), (0, .methodref 1054 1060), (0, .nameAndType 501 1061), (0, u "(IILjava/util/function/BiFunction;)I"), (2, u "(IIILjava/util/function/BiFunction;)I"), (0, .methodref 1054 1066), (0, .nameAndType 1067 1064), (0, u "checkFromIndexSize"), (33, u "serialPersistentFields"), (0, u "[Ljava/io/ObjectStreamField;"), (0, .class_ 1104), (0, u "java/lang/String$CaseInsensitiveComparator"), (1, .class_ 1107), (0, u "java/io/Serializable"), (0, .class_ 1109), (0, u "java/lang/Comparable"), (0, .class_ 1111), (0, u "java/lang/constant/Constable"), (0, .class_ 1113), (0, u "java/lang/constant/ConstantDesc"), (2, u "serialVersionUID"), (0, u "J"), (3, u "REPL"), (0, u "C"), (2, u "LATIN1"), (1, u "UTF16"), (105, u "(Ljava/lang/StringBuilder;)V")] 217

def k7m0 : Method := { name := "<init>", desc := "()V", sig := { parameters := [], returnType := none }, accessFlags := 1, code := none }
def k7c1 : Code := { maxStack := 5, maxLocals := 2, code := jdk_42_method_3_code, exceptionTable := #[], attributes := #[] }
def k7m1 : Method := { name := "<init>", desc := "([C)V", sig := { parameters := [(.array .char)], returnType := none }, accessFlags := 1, code := some k7c1 }
def k7c2 : Code := { maxStack := 3, maxLocals := 2, code := jdk_42_method_53_code, exceptionTable := #[], attributes := #[] }
def k7m2 : Method := { name := "<init>", desc := "(Ljava/lang/StringBuilder;)V", sig := { parameters := [(.object "java/lang/StringBuilder")], returnType := none }, accessFlags := 1, code := some k7c2 }
def k7c3 : Code := { maxStack := 2, maxLocals := 1, code := jdk_42_method_54_code, exceptionTable := #[], attributes := #[] }
def k7m3 : Method := { name := "length", desc := "()I", sig := { parameters := [], returnType := some .int }, accessFlags := 1, code := some k7c3 }
def k7c4 : Code := { maxStack := 2, maxLocals := 2, code := jdk_42_method_56_code, exceptionTable := #[], attributes := #[] }
def k7m4 : Method := { name := "charAt", desc := "(I)C", sig := { parameters := [.int], returnType := some .char }, accessFlags := 1, code := some k7c4 }
def k7c5 : Code := { maxStack := 4, maxLocals := 1, code := jdk_42_method_139_code, exceptionTable := #[], attributes := #[] }
def k7m5 : Method := { name := "valueOf", desc := "(C)Ljava/lang/String;", sig := { parameters := [.char], returnType := some (.object "java/lang/String") }, accessFlags := 9, code := some k7c5 }
def k7c6 : Code := { maxStack := 5, maxLocals := 4, code := jdk_42_method_147_code, exceptionTable := #[], attributes := #[] }
def k7m6 : Method := { name := "getBytes", desc := "([BIB)V", sig := { parameters := [(.array .byte), .int, .byte], returnType := none }, accessFlags := 0, code := some k7c6 }
def k7c7 : Code := { maxStack := 4, maxLocals := 6, code := jdk_42_method_149_code, exceptionTable := #[], attributes := #[] }
def k7m7 : Method := { name := "<init>", desc := "([CIILjava/lang/Void;)V", sig := { parameters := [(.array .char), .int, .int, (.object "java/lang/Void")], returnType := none }, accessFlags := 2, code := some k7c7 }
def k7c8 : Code := { maxStack := 5, maxLocals := 5, code := jdk_42_method_150_code, exceptionTable := #[], attributes := #[] }
def k7m8 : Method := { name := "<init>", desc := "(Ljava/lang/AbstractStringBuilder;Ljava/lang/Void;)V", sig := { parameters := [(.object "java/lang/AbstractStringBuilder"), (.object "java/lang/Void")], returnType := none }, accessFlags := 0, code := some k7c8 }
def k7c9 : Code := { maxStack := 2, maxLocals := 3, code := jdk_42_method_151_code, exceptionTable := #[], attributes := #[] }
def k7m9 : Method := { name := "<init>", desc := "([BB)V", sig := { parameters := [(.array .byte), .byte], returnType := none }, accessFlags := 0, code := some k7c9 }
def k7c10 : Code := { maxStack := 1, maxLocals := 1, code := jdk_42_method_152_code, exceptionTable := #[], attributes := #[] }
def k7m10 : Method := { name := "coder", desc := "()B", sig := { parameters := [], returnType := some .byte }, accessFlags := 0, code := some k7c10 }
def k7c11 : Code := { maxStack := 1, maxLocals := 1, code := jdk_42_method_154_code, exceptionTable := #[], attributes := #[] }
def k7m11 : Method := { name := "isLatin1", desc := "()Z", sig := { parameters := [], returnType := some .boolean }, accessFlags := 0, code := some k7c11 }
def k7c12 : Code := { maxStack := 3, maxLocals := 2, code := jdk_42_method_155_code, exceptionTable := #[], attributes := #[] }
def k7m12 : Method := { name := "checkIndex", desc := "(II)V", sig := { parameters := [.int, .int], returnType := none }, accessFlags := 8, code := some k7c12 }
def k7c13 : Code := { maxStack := 4, maxLocals := 3, code := jdk_42_method_157_code, exceptionTable := #[], attributes := #[] }
def k7m13 : Method := { name := "checkBoundsOffCount", desc := "(III)I", sig := { parameters := [.int, .int, .int], returnType := some .int }, accessFlags := 8, code := some k7c13 }
/-- java/lang/String -/
def k7 : Class := { plain "java/lang/String" (some 0) with
  accessFlags := 49
  interfaces := #[2, 3, 4, 5, 6]
  cf := some (fileOf pool7 10 #[.nestMembers #[1103]] #[{ accessFlags := 1, nameIndex := 5, descriptorIndex := 6, attributes := #[] }, { accessFlags := 1, nameIndex := 5, descriptorIndex := 1010, attributes := #[] }, { accessFlags := 1, nameIndex := 5, descriptorIndex := 1233, attributes := #[] }, { accessFlags := 1, nameIndex := 507, descriptorIndex := 334, attributes := #[] }, { accessFlags := 1, nameIndex := 497, descriptorIndex := 427, attributes := #[] }, { accessFlags := 9, nameIndex := 782, descriptorIndex := 783, attributes := #[] }, { accessFlags := 0, nameIndex := 532, descriptorIndex := 821, attributes := #[] }, { accessFlags := 2, nameIndex := 5, descriptorIndex := 29, attributes := #[] }, { accessFlags := 0, nameIndex := 5, descriptorIndex := 491, attributes := #[] }, { accessFlags := 0, nameIndex := 5, descriptorIndex := 211, attributes := #[] }, { accessFlags := 0, nameIndex := 17, descriptorIndex := 337, attributes := #[] }, { accessFlags := 0, nameIndex := 494, descriptorIndex := 142, attributes := #[] }, { accessFlags := 8, nameIndex := 501, descriptorIndex := 391, attributes := #[] }, { accessFlags := 8, nameIndex := 36, descriptorIndex := 37, attributes := #[] }] 49 2 #[1106, 1108, 575, 1110, 1112] #[{ accessFlags := 18, nameIndex := 13, descriptorIndex := 14, attributes := #[] }, { accessFlags := 18, nameIndex := 17, descriptorIndex := 18, attributes := #[] }, { accessFlags := 2, nameIndex := 21, descriptorIndex := 22, attributes := #[] }, { accessFlags := 2, nameIndex := 25, descriptorIndex := 26, attributes := #[] }, { accessFlags := 26, nameIndex := 1116, descriptorIndex := 1117, attributes := #[] }, { accessFlags := 24, nameIndex := 40, descriptorIndex := 26, attributes := #[] }, { accessFlags := 26, nameIndex := 1101, descriptorIndex := 1102, attributes := #[] }, { accessFlags := 26, nameIndex := 1121, descriptorIndex := 1122, attributes := #[] }, { accessFlags := 25, nameIndex := 599, descriptorIndex := 600, attributes := #[] }, { accessFlags := 24, nameIndex := 1125, descriptorIndex := 18, attributes := #[] }, { accessFlags := 24, nameIndex := 1127, descriptorIndex := 18, attributes := #[] }])
  fields := #[{ name := "value", type := (.array .byte), accessFlags := 18, slot := 0, constantValue := 0 }, { name := "coder", type := .byte, accessFlags := 18, slot := 1, constantValue := 0 }, { name := "hash", type := .int, accessFlags := 2, slot := 2, constantValue := 0 }, { name := "hashIsZero", type := .boolean, accessFlags := 2, slot := 3, constantValue := 0 }, { name := "serialVersionUID", type := .long, accessFlags := 26, slot := 0, constantValue := 0 }, { name := "COMPACT_STRINGS", type := .boolean, accessFlags := 24, slot := 1, constantValue := 0 }, { name := "serialPersistentFields", type := (.array (.object "java/io/ObjectStreamField")), accessFlags := 26, slot := 2, constantValue := 0 }, { name := "REPL", type := .char, accessFlags := 26, slot := 3, constantValue := 0 }, { name := "CASE_INSENSITIVE_ORDER", type := (.object "java/util/Comparator"), accessFlags := 25, slot := 4, constantValue := 0 }, { name := "LATIN1", type := .byte, accessFlags := 24, slot := 5, constantValue := 0 }, { name := "UTF16", type := .byte, accessFlags := 24, slot := 6, constantValue := 0 }]
  methods := #[k7m0, k7m1, k7m2, k7m3, k7m4, k7m5, k7m6, k7m7, k7m8, k7m9, k7m10, k7m11, k7m12, k7m13]
  instanceTypes := #[(.array .byte), .byte, .int, .boolean]
  staticTypes := #[.long, .boolean, (.array (.object "java/io/ObjectStreamField")), .char, (.object "java/util/Comparator"), .byte, .byte]
  resolved := Array.replicate 1451 none
  statics := some 0 }

def pool8 : Array CpInfo := pool [(3, .class_ 4), (0, u "java/lang/String"), (1, .class_ 8), (1, u "java/lang/Object"), (0, u "<init>"), (0, u "()V"), (0, .methodref 12 13), (0, .class_ 14), (0, .nameAndType 15 16), (0, u "java/lang/StringUTF16"), (0, u "newBytesLength"), (0, u "(I)I"), (3, .integer 1073741823), (23, .fieldref 12 45), (0, .nameAndType 46 47), (0, u "$assertionsDisabled"), (0, u "Z"), (0, .methodref 12 49), (0, .nameAndType 50 51), (0, u "length"), (0, u "([B)I"), (7, .fieldref 12 60), (0, .nameAndType 61 62), (0, u "HI_BYTE_SHIFT"), (0, u "I"), (0, .fieldref 12 64), (0, .nameAndType 65 62), (0, u "LO_BYTE_SHIFT"), (1, .methodref 12 68), (0, .nameAndType 69 70), (0, u "checkIndex"), (0, u "(I[B)V"), (0, .methodref 12 72), (0, .nameAndType 73 74), (0, u "getChar"), (0, u "([BI)C"), (24, u "(II[B)V"), (7, .methodref 12 108), (0, .nameAndType 109 110), (0, u "newBytesFor"), (0, u "(I)[B"), (0, .methodref 12 112), (0, .nameAndType 113 114), (0, u "putChar"), (0, u "([BII)V"), (0, .methodref 12 116), (0, .nameAndType 117 118), (0, u "compress"), (0, u "([CI[BII)I"), (0, .methodref 12 120), (0, .nameAndType 121 122), (0, u "toBytes"), (0, u "([CII)[B"), (17, u "inflate"), (0, u "([BI[BII)V"), (31, .methodref 12 174), (0, .nameAndType 175 99), (0, u "checkBoundsOffCount"), (85, u "coderFromArrayLen"), (0, u "([BI)B"), (18, u "(III)I"), (87, .class_ 371), (1, u "java/lang/StringUTF16$LinesSpliterator"), (20, u "charAt"), (21, .methodref 3 415), (0, .nameAndType 69 416), (0, u "(II)V"), (2, .methodref 3 420), (0, .nameAndType 175 281), (9, u "MAX_LENGTH"), (44, u "(C)[B"), (110, u "putCharSB"), (40, .class_ 628), (0, u "java/lang/StringUTF16$CodePointsSpliterator"), (0, .class_ 630), (0, u "java/lang/StringUTF16$CharsSpliterator")] 4

def k8m0 : Method := { name := "<init>", desc := "()V", sig := { parameters := [], returnType := none }, accessFlags := 0, code := none }
def k8c1 : Code := { maxStack := 1, maxLocals := 1, code := jdk_52_method_2_code, exceptionTable := #[], attributes := #[] }
def k8m1 : Method := { name := "newBytesFor", desc := "(I)[B", sig := { parameters := [.int], returnType := some (.array .byte) }, accessFlags := 9, code := some k8c1 }
def k8c2 : Code := { maxStack := 4, maxLocals := 1, code := jdk_52_method_3_code, exceptionTable := #[], attributes := #[] }
def k8m2 : Method := { name := "newBytesLength", desc := "(I)I", sig := { parameters := [.int], returnType := some .int }, accessFlags := 9, code := some k8c2 }
def k8c3 : Code := { maxStack := 4, maxLocals := 3, code := jdk_52_method_4_code, exceptionTable := #[], attributes := #[] }
def k8m3 : Method := { name := "putChar", desc := "([BII)V", sig := { parameters := [(.array .byte), .int, .int], returnType := none }, accessFlags := 8, code := some k8c3 }
def k8c4 : Code := { maxStack := 3, maxLocals := 2, code := jdk_52_method_5_code, exceptionTable := #[], attributes := #[] }
def k8m4 : Method := { name := "getChar", desc := "([BI)C", sig := { parameters := [(.array .byte), .int], returnType := some .char }, accessFlags := 8, code := some k8c4 }
def k8c5 : Code := { maxStack := 2, maxLocals := 1, code := jdk_52_method_6_code, exceptionTable := #[], attributes := #[] }
def k8m5 : Method := { name := "length", desc := "([B)I", sig := { parameters := [(.array .byte)], returnType := some .int }, accessFlags := 9, code := some k8c5 }
def k8c6 : Code := { maxStack := 4, maxLocals := 5, code := jdk_52_method_14_code, exceptionTable := #[], attributes := #[] }
def k8m6 : Method := { name := "toBytes", desc := "([CII)[B", sig := { parameters := [(.array .char), .int, .int], returnType := some (.array .byte) }, accessFlags := 9, code := some k8c6 }
def k8c7 : Code := { maxStack := 2, maxLocals := 2, code := jdk_52_method_15_code, exceptionTable := #[], attributes := #[] }
def k8m7 : Method := { name := "coderFromArrayLen", desc := "([BI)B", sig := { parameters := [(.array .byte), .int], returnType := some .byte }, accessFlags := 8, code := some k8c7 }
def k8c8 : Code := { maxStack := 5, maxLocals := 6, code := jdk_52_method_16_code, exceptionTable := #[], attributes := #[] }
def k8m8 : Method := { name := "compress", desc := "([CII)[B", sig := { parameters := [(.array .char), .int, .int], returnType := some (.array .byte) }, accessFlags := 9, code := some k8c8 }
def k8c9 : Code := { maxStack := 3, maxLocals := 7, code := jdk_52_method_21_code, exceptionTable := #[], attributes := #[] }
def k8m9 : Method := { name := "compress", desc := "([CI[BII)I", sig := { parameters := [(.array .char), .int, (.array .byte), .int, .int], returnType := some .int }, accessFlags := 9, code := some k8c9 }
def k8c10 : Code := { maxStack := 3, maxLocals := 2, code := jdk_52_method_24_code, exceptionTable := #[], attributes := #[] }
def k8m10 : Method := { name := "toBytes", desc := "(C)[B", sig := { parameters := [.char], returnType := some (.array .byte) }, accessFlags := 9, code := some k8c10 }
def k8c11 : Code := { maxStack := 3, maxLocals := 3, code := jdk_52_method_71_code, exceptionTable := #[], attributes := #[] }
def k8m11 : Method := { name := "putCharSB", desc := "([BII)V", sig := { parameters := [(.array .byte), .int, .int], returnType := none }, accessFlags := 9, code := some k8c11 }
def k8c12 : Code := { maxStack := 2, maxLocals := 2, code := jdk_52_method_83_code, exceptionTable := #[], attributes := #[] }
def k8m12 : Method := { name := "charAt", desc := "([BI)C", sig := { parameters := [(.array .byte), .int], returnType := some .char }, accessFlags := 9, code := some k8c12 }
def k8c13 : Code := { maxStack := 4, maxLocals := 6, code := jdk_52_method_86_code, exceptionTable := #[], attributes := #[] }
def k8m13 : Method := { name := "inflate", desc := "([BI[BII)V", sig := { parameters := [(.array .byte), .int, (.array .byte), .int, .int], returnType := none }, accessFlags := 9, code := some k8c13 }
def k8c14 : Code := { maxStack := 2, maxLocals := 2, code := jdk_52_method_91_code, exceptionTable := #[], attributes := #[] }
def k8m14 : Method := { name := "checkIndex", desc := "(I[B)V", sig := { parameters := [.int, (.array .byte)], returnType := none }, accessFlags := 9, code := some k8c14 }
def k8c15 : Code := { maxStack := 3, maxLocals := 3, code := jdk_52_method_94_code, exceptionTable := #[], attributes := #[] }
def k8m15 : Method := { name := "checkBoundsOffCount", desc := "(II[B)V", sig := { parameters := [.int, .int, (.array .byte)], returnType := none }, accessFlags := 9, code := some k8c15 }
/-- java/lang/StringUTF16 -/
def k8 : Class := { plain "java/lang/StringUTF16" (some 0) with
  accessFlags := 48
  interfaces := #[]
  cf := some (fileOf pool8 12 #[.nestMembers #[627, 629, 369]] #[{ accessFlags := 0, nameIndex := 9, descriptorIndex := 10, attributes := #[] }, { accessFlags := 9, nameIndex := 109, descriptorIndex := 110, attributes := #[] }, { accessFlags := 9, nameIndex := 15, descriptorIndex := 16, attributes := #[] }, { accessFlags := 8, nameIndex := 113, descriptorIndex := 114, attributes := #[] }, { accessFlags := 8, nameIndex := 73, descriptorIndex := 74, attributes := #[] }, { accessFlags := 9, nameIndex := 50, descriptorIndex := 51, attributes := #[] }, { accessFlags := 9, nameIndex := 121, descriptorIndex := 122, attributes := #[] }, { accessFlags := 8, nameIndex := 261, descriptorIndex := 262, attributes := #[] }, { accessFlags := 9, nameIndex := 117, descriptorIndex := 122, attributes := #[] }, { accessFlags := 9, nameIndex := 117, descriptorIndex := 118, attributes := #[] }, { accessFlags := 9, nameIndex := 121, descriptorIndex := 475, attributes := #[] }, { accessFlags := 9, nameIndex := 586, descriptorIndex := 114, attributes := #[] }, { accessFlags := 9, nameIndex := 392, descriptorIndex := 74, attributes := #[] }, { accessFlags := 9, nameIndex := 140, descriptorIndex := 141, attributes := #[] }, { accessFlags := 9, nameIndex := 69, descriptorIndex := 70, attributes := #[] }, { accessFlags := 9, nameIndex := 175, descriptorIndex := 99, attributes := #[] }] 48 6 #[] #[{ accessFlags := 26, nameIndex := 61, descriptorIndex := 62, attributes := #[] }, { accessFlags := 26, nameIndex := 65, descriptorIndex := 62, attributes := #[] }, { accessFlags := 24, nameIndex := 430, descriptorIndex := 62, attributes := #[] }, { accessFlags := 4120, nameIndex := 46, descriptorIndex := 47, attributes := #[] }])
  fields := #[{ name := "HI_BYTE_SHIFT", type := .int, accessFlags := 26, slot := 0, constantValue := 0 }, { name := "LO_BYTE_SHIFT", type := .int, accessFlags := 26, slot := 1, constantValue := 0 }, { name := "MAX_LENGTH", type := .int, accessFlags := 24, slot := 2, constantValue := 0 }, { name := "$assertionsDisabled", type := .boolean, accessFlags := 4120, slot := 3, constantValue := 0 }]
  methods := #[k8m0, k8m1, k8m2, k8m3, k8m4, k8m5, k8m6, k8m7, k8m8, k8m9, k8m10, k8m11, k8m12, k8m13, k8m14, k8m15]
  instanceTypes := #[]
  staticTypes := #[.int, .int, .int, .boolean]
  resolved := Array.replicate 635 none
  statics := some 1 }

def pool9 : Array CpInfo := pool [(2, .class_ 4), (1, u "java/lang/Object"), (0, u "<init>"), (0, u "()V"), (0, .class_ 8), (0, u "java/lang/StringBuilder"), (0, .methodref 10 11), (0, .class_ 12), (0, .nameAndType 13 14), (0, u "java/lang/String"), (0, u "length"), (0, u "()I"), (0, .methodref 7 16), (0, .nameAndType 5 17), (0, u "(I)V"), (0, .methodref 7 19), (0, .nameAndType 20 21), (0, u "append"), (0, u "(C)Ljava/lang/StringBuilder;"), (0, .methodref 10 23), (0, .nameAndType 24 25), (0, u "charAt"), (0, u "(I)C"), (0, .string 27), (0, u "\\t"), (0, .methodref 7 29), (0, .nameAndType 20 30), (0, u "(Ljava/lang/String;)Ljava/lang/StringBuilder;"), (0, .string 32), (0, u "\\n"), (0, .string 34), (0, u "\\r"), (0, .methodref 36 37), (0, .class_ 38), (0, .nameAndType 39 40), (0, u "java/lang/Character"), (0, u "isISOControl"), (0, u "(C)Z"), (0, .string 42), (0, u "\\u"), (0, .fieldref 44 45), (0, .class_ 46), (0, .nameAndType 47 48), (0, u "com/example/bellwether/bellwether/model/Literals"), (0, u "HEX"), (0, u "[C"), (0, .methodref 7 50), (0, .nameAndType 51 52), (0, u "toString"), (0, u "()Ljava/lang/String;"), (24, u "quote"), (0, u "(Ljava/lang/String;)Ljava/lang/String;")] 6

def k9m0 : Method := { name := "<init>", desc := "()V", sig := { parameters := [], returnType := none }, accessFlags := 2, code := none }
def k9c1 : Code := { maxStack := 4, maxLocals := 4, code := prog_10_method_2_code, exceptionTable := #[], attributes := #[] }
def k9m1 : Method := { name := "quote", desc := "(Ljava/lang/String;)Ljava/lang/String;", sig := { parameters := [(.object "java/lang/String")], returnType := some (.object "java/lang/String") }, accessFlags := 9, code := some k9c1 }
/-- com/example/bellwether/bellwether/model/Literals -/
def k9 : Class := { plain "com/example/bellwether/bellwether/model/Literals" (some 0) with
  accessFlags := 33
  interfaces := #[]
  cf := some (fileOf pool9 44 #[] #[{ accessFlags := 2, nameIndex := 5, descriptorIndex := 6, attributes := #[] }, { accessFlags := 9, nameIndex := 77, descriptorIndex := 78, attributes := #[] }] 33 2 #[] #[{ accessFlags := 26, nameIndex := 47, descriptorIndex := 48, attributes := #[] }])
  fields := #[{ name := "HEX", type := (.array .char), accessFlags := 26, slot := 0, constantValue := 0 }]
  methods := #[k9m0, k9m1]
  instanceTypes := #[]
  staticTypes := #[(.array .char)]
  resolved := Array.replicate 85 none
  statics := some 2 }

def pool10 : Array CpInfo := pool [(1, .class_ 2), (0, u "java/lang/Appendable"), (0, .class_ 4), (0, u "java/lang/Object")] 9

/-- java/lang/Appendable -/
def k10 : Class := { plain "java/lang/Appendable" (some 0) with
  accessFlags := 1537
  interfaces := #[]
  cf := some (fileOf pool10 1 #[] #[] 1537 3 #[] #[])
  fields := #[]
  methods := #[]
  instanceTypes := #[]
  staticTypes := #[]
  resolved := Array.replicate 14 none
  statics := none }

def pool11 : Array CpInfo := pool [(1, .class_ 2), (0, u "java/lang/String"), (0, .methodref 4 5), (0, .class_ 6), (0, .nameAndType 7 8), (0, u "java/lang/Object"), (0, u "<init>"), (0, u "()V"), (1, .class_ 12), (1, u "java/lang/AbstractStringBuilder"), (0, u "EMPTYVALUE"), (0, u "[B"), (0, .fieldref 10 16), (0, .nameAndType 17 14), (0, u "value"), (0, .fieldref 1 19), (0, .nameAndType 20 21), (0, u "COMPACT_STRINGS"), (0, u "Z"), (0, .fieldref 10 23), (0, .nameAndType 24 25), (0, u "coder"), (0, u "B"), (0, .methodref 27 28), (0, .class_ 29), (0, .nameAndType 30 31), (0, u "java/lang/StringUTF16"), (0, u "newBytesFor"), (0, u "(I)[B"), (0, .methodref 1 33), (0, .nameAndType 34 35), (0, u "length"), (0, u "()I"), (3, .integer 2147483647), (0, .methodref 1 41), (0, .nameAndType 24 42), (0, u "()B"), (2, u "append"), (0, u "(Ljava/lang/String;)Ljava/lang/AbstractStringBuilder;"), (1, .class_ 49), (0, u "java/lang/CharSequence"), (19, u "(Ljava/lang/String;)V"), (5, u "maybeLatin1"), (3, .fieldref 10 80), (0, .nameAndType 81 82), (0, u "count"), (0, u "I"), (0, .methodref 10 84), (0, .nameAndType 85 86), (0, u "isLatin1"), (0, u "()Z"), (1, .class_ 90), (1, u "java/lang/StringLatin1"), (9, .methodref 10 101), (0, .nameAndType 102 103), (0, u "ensureCapacityInternal"), (0, u "(I)V"), (0, .methodref 10 105), (0, .nameAndType 106 107), (0, u "newCapacity"), (0, u "(I)I"), (0, .methodref 109 110), (0, .class_ 111), (0, .nameAndType 112 113), (0, u "java/util/Arrays"), (0, u "copyOf"), (0, u "([BI)[B"), (0, .methodref 115 116), (0, .class_ 117), (0, .nameAndType 118 119), (0, u "jdk/internal/util/ArraysSupport"), (0, u "newLength"), (0, u "(III)I"), (5, .methodref 88 126), (0, .nameAndType 127 128), (0, u "inflate"), (0, u "([BI[BII)V"), (7, u "([BII)V"), (54, .methodref 88 192), (0, .nameAndType 193 194), (0, u "canEncode"), (0, u "(C)Z"), (0, .methodref 10 196), (0, .nameAndType 127 8), (0, .methodref 27 198), (0, .nameAndType 199 136), (0, u "putCharSB"), (8, .methodref 10 209), (0, .nameAndType 210 211), (0, u "putStringAt"), (0, u "(ILjava/lang/String;)V"), (5, u "inflateIfNeededFor"), (2, .nameAndType 221 222), (0, u "getBytes"), (0, u "([BIB)V"), (69, u "(C)Ljava/lang/AbstractStringBuilder;"), (104, .methodref 10 398), (0, .nameAndType 217 69), (0, .methodref 1 220), (3, u "()[B"), (40, .class_ 445), (0, u "java/lang/Appendable"), (106, u "getValue")] 56

def k11m0 : Method := { name := "<init>", desc := "()V", sig := { parameters := [], returnType := none }, accessFlags := 0, code := none }
def k11c1 : Code := { maxStack := 2, maxLocals := 2, code := jdk_68_method_2_code, exceptionTable := #[], attributes := #[] }
def k11m1 : Method := { name := "<init>", desc := "(I)V", sig := { parameters := [.int], returnType := none }, accessFlags := 0, code := some k11c1 }
def k11c2 : Code := { maxStack := 1, maxLocals := 1, code := jdk_68_method_6_code, exceptionTable := #[], attributes := #[] }
def k11m2 : Method := { name := "length", desc := "()I", sig := { parameters := [], returnType := some .int }, accessFlags := 1, code := some k11c2 }
def k11c3 : Code := { maxStack := 4, maxLocals := 3, code := jdk_68_method_9_code, exceptionTable := #[], attributes := #[] }
def k11m3 : Method := { name := "ensureCapacityInternal", desc := "(I)V", sig := { parameters := [.int], returnType := none }, accessFlags := 2, code := some k11c3 }
def k11c4 : Code := { maxStack := 5, maxLocals := 6, code := jdk_68_method_10_code, exceptionTable := #[], attributes := #[] }
def k11m4 : Method := { name := "newCapacity", desc := "(I)I", sig := { parameters := [.int], returnType := some .int }, accessFlags := 2, code := some k11c4 }
def k11c5 : Code := { maxStack := 5, maxLocals := 2, code := jdk_68_method_11_code, exceptionTable := #[], attributes := #[] }
def k11m5 : Method := { name := "inflate", desc := "()V", sig := { parameters := [], returnType := none }, accessFlags := 2, code := some k11c5 }
def k11c6 : Code := { maxStack := 3, maxLocals := 3, code := jdk_68_method_22_code, exceptionTable := #[], attributes := #[] }
def k11m6 : Method := { name := "append", desc := "(Ljava/lang/String;)Ljava/lang/AbstractStringBuilder;", sig := { parameters := [(.object "java/lang/String")], returnType := some (.object "java/lang/AbstractStringBuilder") }, accessFlags := 1, code := some k11c6 }
def k11c7 : Code := { maxStack := 5, maxLocals := 2, code := jdk_68_method_31_code, exceptionTable := #[], attributes := #[] }
def k11m7 : Method := { name := "append", desc := "(C)Ljava/lang/AbstractStringBuilder;", sig := { parameters := [.char], returnType := some (.object "java/lang/AbstractStringBuilder") }, accessFlags := 1, code := some k11c7 }
def k11c8 : Code := { maxStack := 1, maxLocals := 1, code := jdk_68_method_64_code, exceptionTable := #[], attributes := #[] }
def k11m8 : Method := { name := "getValue", desc := "()[B", sig := { parameters := [], returnType := some (.array .byte) }, accessFlags := 16, code := some k11c8 }
def k11c9 : Code := { maxStack := 1, maxLocals := 1, code := jdk_68_method_68_code, exceptionTable := #[], attributes := #[] }
def k11m9 : Method := { name := "isLatin1", desc := "()Z", sig := { parameters := [], returnType := some .boolean }, accessFlags := 16, code := some k11c9 }
def k11c10 : Code := { maxStack := 2, maxLocals := 2, code := jdk_68_method_71_code, exceptionTable := #[], attributes := #[] }
def k11m10 : Method := { name := "inflateIfNeededFor", desc := "(Ljava/lang/String;)V", sig := { parameters := [(.object "java/lang/String")], returnType := none }, accessFlags := 2, code := some k11c10 }
def k11c11 : Code := { maxStack := 4, maxLocals := 3, code := jdk_68_method_73_code, exceptionTable := #[], attributes := #[] }
def k11m11 : Method := { name := "putStringAt", desc := "(ILjava/lang/String;)V", sig := { parameters := [.int, (.object "java/lang/String")], returnType := none }, accessFlags := 2, code := some k11c11 }
/-- java/lang/AbstractStringBuilder -/
def k11 : Class := { plain "java/lang/AbstractStringBuilder" (some 0) with
  accessFlags := 1056
  interfaces := #[10, 4]
  cf := some (fileOf pool11 10 #[] #[{ accessFlags := 0, nameIndex := 7, descriptorIndex := 8, attributes := #[] }, { accessFlags := 0, nameIndex := 7, descriptorIndex := 103, attributes := #[] }, { accessFlags := 1, nameIndex := 34, descriptorIndex := 35, attributes := #[] }, { accessFlags := 2, nameIndex := 102, descriptorIndex := 103, attributes := #[] }, { accessFlags := 2, nameIndex := 106, descriptorIndex := 107, attributes := #[] }, { accessFlags := 2, nameIndex := 127, descriptorIndex := 8, attributes := #[] }, { accessFlags := 1, nameIndex := 45, descriptorIndex := 46, attributes := #[] }, { accessFlags := 1, nameIndex := 45, descriptorIndex := 292, attributes := #[] }, { accessFlags := 16, nameIndex := 552, descriptorIndex := 403, attributes := #[] }, { accessFlags := 16, nameIndex := 85, descriptorIndex := 86, attributes := #[] }, { accessFlags := 2, nameIndex := 217, descriptorIndex := 69, attributes := #[] }, { accessFlags := 2, nameIndex := 210, descriptorIndex := 211, attributes := #[] }] 1056 4 #[444, 48] #[{ accessFlags := 0, nameIndex := 17, descriptorIndex := 14, attributes := #[] }, { accessFlags := 0, nameIndex := 24, descriptorIndex := 25, attributes := #[] }, { accessFlags := 0, nameIndex := 75, descriptorIndex := 21, attributes := #[] }, { accessFlags := 0, nameIndex := 81, descriptorIndex := 82, attributes := #[] }, { accessFlags := 26, nameIndex := 13, descriptorIndex := 14, attributes := #[] }])
  fields := #[{ name := "value", type := (.array .byte), accessFlags := 0, slot := 0, constantValue := 0 }, { name := "coder", type := .byte, accessFlags := 0, slot := 1, constantValue := 0 }, { name := "maybeLatin1", type := .boolean, accessFlags := 0, slot := 2, constantValue := 0 }, { name := "count", type := .int, accessFlags := 0, slot := 3, constantValue := 0 }, { name := "EMPTYVALUE", type := (.array .byte), accessFlags := 26, slot := 0, constantValue := 0 }]
  methods := #[k11m0, k11m1, k11m2, k11m3, k11m4, k11m5, k11m6, k11m7, k11m8, k11m9, k11m10, k11m11]
  instanceTypes := #[(.array .byte), .byte, .boolean, .int]
  staticTypes := #[(.array .byte)]
  resolved := Array.replicate 609 none
  statics := none }

def pool12 : Array CpInfo := pool [(1, .methodref 2 3), (0, .class_ 4), (0, .nameAndType 5 6), (0, u "java/lang/AbstractStringBuilder"), (0, u "<init>"), (0, u "(I)V"), (11, .class_ 20), (1, u "java/lang/String"), (3, .class_ 26), (1, u "java/lang/StringBuilder"), (0, u "append"), (0, u "(Ljava/lang/String;)Ljava/lang/StringBuilder;"), (0, .methodref 2 30), (0, .nameAndType 27 31), (0, u "(Ljava/lang/String;)Ljava/lang/AbstractStringBuilder;"), (18, .methodref 2 51), (0, .nameAndType 27 52), (0, u "(C)Ljava/lang/AbstractStringBuilder;"), (84, .methodref 18 138), (0, .nameAndType 5 139), (0, u "(Ljava/lang/StringBuilder;)V"), (5, u "()V"), (10, u "()I"), (129, u "(C)Ljava/lang/StringBuilder;"), (56, .methodref 2 344), (0, .nameAndType 345 156), (0, u "length"), (3, .class_ 350), (0, u "java/lang/Appendable"), (0, .class_ 352), (0, u "java/io/Serializable"), (0, .class_ 354), (0, u "java/lang/Comparable"), (0, .class_ 356), (0, u "java/lang/CharSequence"), (0, u "serialVersionUID"), (0, u "J"), (40, u "toString"), (0, u "()Ljava/lang/String;")] 21

def k12m0 : Method := { name := "<init>", desc := "()V", sig := { parameters := [], returnType := none }, accessFlags := 1, code := none }
def k12c1 : Code := { maxStack := 2, maxLocals := 2, code := jdk_67_method_2_code, exceptionTable := #[], attributes := #[] }
def k12m1 : Method := { name := "<init>", desc := "(I)V", sig := { parameters := [.int], returnType := none }, accessFlags := 1, code := some k12c1 }
def k12c2 : Code := { maxStack := 2, maxLocals := 2, code := jdk_67_method_7_code, exceptionTable := #[], attributes := #[] }
def k12m2 : Method := { name := "append", desc := "(Ljava/lang/String;)Ljava/lang/StringBuilder;", sig := { parameters := [(.object "java/lang/String")], returnType := some (.object "java/lang/StringBuilder") }, accessFlags := 1, code := some k12c2 }
def k12c3 : Code := { maxStack := 2, maxLocals := 2, code := jdk_67_method_14_code, exceptionTable := #[], attributes := #[] }
def k12m3 : Method := { name := "append", desc := "(C)Ljava/lang/StringBuilder;", sig := { parameters := [.char], returnType := some (.object "java/lang/StringBuilder") }, accessFlags := 1, code := some k12c3 }
def k12c4 : Code := { maxStack := 3, maxLocals := 1, code := jdk_67_method_42_code, exceptionTable := #[], attributes := #[] }
def k12m4 : Method := { name := "toString", desc := "()Ljava/lang/String;", sig := { parameters := [], returnType := some (.object "java/lang/String") }, accessFlags := 1, code := some k12c4 }
def k12c5 : Code := { maxStack := 1, maxLocals := 1, code := jdk_67_method_93_code, exceptionTable := #[], attributes := #[] }
def k12m5 : Method := { name := "length", desc := "()I", sig := { parameters := [], returnType := some .int }, accessFlags := 4161, code := some k12c5 }
/-- java/lang/StringBuilder -/
def k12 : Class := { plain "java/lang/StringBuilder" (some 11) with
  accessFlags := 49
  interfaces := #[10, 2, 3, 4]
  cf := some (fileOf pool12 24 #[] #[{ accessFlags := 1, nameIndex := 5, descriptorIndex := 145, attributes := #[] }, { accessFlags := 1, nameIndex := 5, descriptorIndex := 6, attributes := #[] }, { accessFlags := 1, nameIndex := 27, descriptorIndex := 28, attributes := #[] }, { accessFlags := 1, nameIndex := 27, descriptorIndex := 286, attributes := #[] }, { accessFlags := 1, nameIndex := 399, descriptorIndex := 400, attributes := #[] }, { accessFlags := 4161, nameIndex := 345, descriptorIndex := 156, attributes := #[] }] 49 2 #[349, 351, 353, 355] #[{ accessFlags := 24, nameIndex := 357, descriptorIndex := 358, attributes := #[] }])
  fields := #[{ name := "serialVersionUID", type := .long, accessFlags := 24, slot := 0, constantValue := 0 }]
  methods := #[k12m0, k12m1, k12m2, k12m3, k12m4, k12m5]
  instanceTypes := #[(.array .byte), .byte, .boolean, .int]
  staticTypes := #[.long]
  resolved := Array.replicate 422 none
  statics := none }

def pool13 : Array CpInfo := pool [(1, .class_ 2), (0, u "java/lang/String"), (1, .class_ 6), (1, u "java/lang/Object"), (0, u "<init>"), (0, u "()V"), (0, .methodref 1 10), (0, .nameAndType 11 12), (0, u "checkIndex"), (0, u "(II)V"), (1, .class_ 16), (1, u "java/lang/StringLatin1"), (0, u "inflate"), (2, .class_ 22), (1, u "java/lang/StringUTF16"), (3, .nameAndType 17 27), (0, u "([BI[BII)V"), (25, u "([BI)C"), (36, u "canEncode"), (14, u "(C)Z"), (15, u "$assertionsDisabled"), (0, u "Z"), (98, .class_ 223), (1, u "java/lang/StringLatin1$LinesSpliterator"), (16, .methodref 20 26), (11, u "charAt"), (127, u "toBytes"), (1, u "(C)[B"), (7, .class_ 391), (0, u "java/lang/StringLatin1$CharsSpliterator")] 3

def k13m0 : Method := { name := "<init>", desc := "()V", sig := { parameters := [], returnType := none }, accessFlags := 0, code := none }
def k13c1 : Code := { maxStack := 2, maxLocals := 2, code := jdk_43_method_2_code, exceptionTable := #[], attributes := #[] }
def k13m1 : Method := { name := "charAt", desc := "([BI)C", sig := { parameters := [(.array .byte), .int], returnType := some .char }, accessFlags := 9, code := some k13c1 }
def k13c2 : Code := { maxStack := 2, maxLocals := 1, code := jdk_43_method_3_code, exceptionTable := #[], attributes := #[] }
def k13m2 : Method := { name := "canEncode", desc := "(C)Z", sig := { parameters := [.char], returnType := some .boolean }, accessFlags := 9, code := some k13c2 }
def k13c3 : Code := { maxStack := 4, maxLocals := 1, code := jdk_43_method_46_code, exceptionTable := #[], attributes := #[] }
def k13m3 : Method := { name := "toBytes", desc := "(C)[B", sig := { parameters := [.char], returnType := some (.array .byte) }, accessFlags := 9, code := some k13c3 }
def k13c4 : Code := { maxStack := 5, maxLocals := 5, code := jdk_43_method_50_code, exceptionTable := #[], attributes := #[] }
def k13m4 : Method := { name := "inflate", desc := "([BI[BII)V", sig := { parameters := [(.array .byte), .int, (.array .byte), .int, .int], returnType := none }, accessFlags := 9, code := some k13c4 }
/-- java/lang/StringLatin1 -/
def k13 : Class := { plain "java/lang/StringLatin1" (some 0) with
  accessFlags := 48
  interfaces := #[]
  cf := some (fileOf pool13 14 #[.nestMembers #[390, 221]] #[{ accessFlags := 0, nameIndex := 7, descriptorIndex := 8, attributes := #[] }, { accessFlags := 9, nameIndex := 252, descriptorIndex := 53, attributes := #[] }, { accessFlags := 9, nameIndex := 90, descriptorIndex := 105, attributes := #[] }, { accessFlags := 9, nameIndex := 380, descriptorIndex := 382, attributes := #[] }, { accessFlags := 9, nameIndex := 17, descriptorIndex := 27, attributes := #[] }] 48 4 #[] #[{ accessFlags := 4120, nameIndex := 121, descriptorIndex := 122, attributes := #[] }])
  fields := #[{ name := "$assertionsDisabled", type := .boolean, accessFlags := 4120, slot := 0, constantValue := 0 }]
  methods := #[k13m0, k13m1, k13m2, k13m3, k13m4]
  instanceTypes := #[]
  staticTypes := #[.boolean]
  resolved := Array.replicate 395 none
  statics := none }

def pool14 : Array CpInfo := pool [(2, .class_ 4), (1, u "java/lang/Object"), (0, u "<init>"), (0, u "()V"), (17, .class_ 26), (1, u "jdk/internal/util/Preconditions"), (6, u "checkIndex"), (15, u "checkFromIndexSize"), (5, .class_ 56), (0, u "jdk/internal/util/Preconditions$4"), (57, .class_ 115), (0, u "jdk/internal/util/Preconditions$1"), (7, u "SIOOBE_FORMATTER"), (0, u "Ljava/util/function/BiFunction;"), (0, .class_ 126), (0, u "jdk/internal/util/Preconditions$2"), (3, u "AIOOBE_FORMATTER"), (0, .class_ 132), (0, u "jdk/internal/util/Preconditions$3"), (3, u "IOOBE_FORMATTER"), (41, u "(IILjava/util/function/BiFunction;)I"), (4, u "(IIILjava/util/function/BiFunction;)I")] 10

def k14m0 : Method := { name := "<init>", desc := "()V", sig := { parameters := [], returnType := none }, accessFlags := 1, code := none }
def k14c1 : Code := { maxStack := 3, maxLocals := 3, code := jdk_41_method_11_code, exceptionTable := #[], attributes := #[] }
def k14m1 : Method := { name := "checkIndex", desc := "(IILjava/util/function/BiFunction;)I", sig := { parameters := [.int, .int, (.object "java/util/function/BiFunction")], returnType := some .int }, accessFlags := 9, code := some k14c1 }
def k14c2 : Code := { maxStack := 4, maxLocals := 4, code := jdk_41_method_13_code, exceptionTable := #[], attributes := #[] }
def k14m2 : Method := { name := "checkFromIndexSize", desc := "(IIILjava/util/function/BiFunction;)I", sig := { parameters := [.int, .int, .int, (.object "java/util/function/BiFunction")], returnType := some .int }, accessFlags := 9, code := some k14c2 }
/-- jdk/internal/util/Preconditions -/
def k14 : Class := { plain "jdk/internal/util/Preconditions" (some 0) with
  accessFlags := 33
  interfaces := #[]
  cf := some (fileOf pool14 24 #[.nestMembers #[55, 131, 125, 114]] #[{ accessFlags := 1, nameIndex := 5, descriptorIndex := 6, attributes := #[] }, { accessFlags := 9, nameIndex := 33, descriptorIndex := 178, attributes := #[] }, { accessFlags := 9, nameIndex := 49, descriptorIndex := 183, attributes := #[] }] 33 2 #[] #[{ accessFlags := 25, nameIndex := 123, descriptorIndex := 124, attributes := #[] }, { accessFlags := 25, nameIndex := 130, descriptorIndex := 124, attributes := #[] }, { accessFlags := 25, nameIndex := 136, descriptorIndex := 124, attributes := #[] }])
  fields := #[{ name := "SIOOBE_FORMATTER", type := (.object "java/util/function/BiFunction"), accessFlags := 25, slot := 0, constantValue := 0 }, { name := "AIOOBE_FORMATTER", type := (.object "java/util/function/BiFunction"), accessFlags := 25, slot := 1, constantValue := 0 }, { name := "IOOBE_FORMATTER", type := (.object "java/util/function/BiFunction"), accessFlags := 25, slot := 2, constantValue := 0 }]
  methods := #[k14m0, k14m1, k14m2]
  instanceTypes := #[]
  staticTypes := #[(.object "java/util/function/BiFunction"), (.object "java/util/function/BiFunction"), (.object "java/util/function/BiFunction")]
  resolved := Array.replicate 194 none
  statics := some 3 }

def pool15 : Array CpInfo := pool [(1, .class_ 2), (0, u "java/lang/Character"), (18, u "value"), (0, u "C"), (19, .class_ 44), (1, u "java/lang/Object"), (3, .class_ 50), (1, u "java/lang/Character$CharacterCache"), (30, u "(C)Z"), (32, u "(I)Z"), (151, .methodref 1 267), (0, .nameAndType 268 114), (0, u "isISOControl"), (15, u "$assertionsDisabled"), (0, u "Z"), (21, .class_ 309), (1, u "java/lang/Character$UnicodeBlock"), (73, u "TYPE"), (0, u "Ljava/lang/Class;"), (0, .class_ 386), (0, u "java/io/Serializable"), (0, .class_ 388), (0, u "java/lang/Comparable"), (0, .class_ 390), (0, u "java/lang/constant/Constable"), (0, u "MIN_RADIX"), (0, u "I"), (2, u "MAX_RADIX"), (1, u "MIN_VALUE"), (1, u "MAX_VALUE"), (3, u "UNASSIGNED"), (0, u "B"), (0, u "UPPERCASE_LETTER"), (1, u "LOWERCASE_LETTER"), (0, u "TITLECASE_LETTER"), (1, u "MODIFIER_LETTER"), (1, u "OTHER_LETTER"), (1, u "NON_SPACING_MARK"), (1, u "ENCLOSING_MARK"), (1, u "COMBINING_SPACING_MARK"), (1, u "DECIMAL_DIGIT_NUMBER"), (1, u "LETTER_NUMBER"), (1, u "OTHER_NUMBER"), (1, u "SPACE_SEPARATOR"), (1, u "LINE_SEPARATOR"), (1, u "PARAGRAPH_SEPARATOR"), (1, u "CONTROL"), (1, u "FORMAT"), (1, u "PRIVATE_USE"), (1, u "SURROGATE"), (1, u "DASH_PUNCTUATION"), (1, u "START_PUNCTUATION"), (1, u "END_PUNCTUATION"), (1, u "CONNECTOR_PUNCTUATION"), (1, u "OTHER_PUNCTUATION"), (1, u "MATH_SYMBOL"), (1, u "CURRENCY_SYMBOL"), (1, u "MODIFIER_SYMBOL"), (1, u "OTHER_SYMBOL"), (1, u "INITIAL_QUOTE_PUNCTUATION"), (1, u "FINAL_QUOTE_PUNCTUATION"), (1, u "ERROR"), (1, u "DIRECTIONALITY_UNDEFINED"), (0, u "DIRECTIONALITY_LEFT_TO_RIGHT"), (0, u "DIRECTIONALITY_RIGHT_TO_LEFT"), (0, u "DIRECTIONALITY_RIGHT_TO_LEFT_ARABIC"), (0, u "DIRECTIONALITY_EUROPEAN_NUMBER"), (0, u "DIRECTIONALITY_EUROPEAN_NUMBER_SEPARATOR"), (0, u "DIRECTIONALITY_EUROPEAN_NUMBER_TERMINATOR"), (0, u "DIRECTIONALITY_ARABIC_NUMBER"), (0, u "DIRECTIONALITY_COMMON_NUMBER_SEPARATOR"), (0, u "DIRECTIONALITY_NONSPACING_MARK"), (0, u "DIRECTIONALITY_BOUNDARY_NEUTRAL"), (0, u "DIRECTIONALITY_PARAGRAPH_SEPARATOR"), (0, u "DIRECTIONALITY_SEGMENT_SEPARATOR"), (0, u "DIRECTIONALITY_WHITESPACE"), (0, u "DIRECTIONALITY_OTHER_NEUTRALS"), (0, u "DIRECTIONALITY_LEFT_TO_RIGHT_EMBEDDING"), (0, u "DIRECTIONALITY_LEFT_TO_RIGHT_OVERRIDE"), (0, u "DIRECTIONALITY_RIGHT_TO_LEFT_EMBEDDING"), (0, u "DIRECTIONALITY_RIGHT_TO_LEFT_OVERRIDE"), (1, u "DIRECTIONALITY_POP_DIRECTIONAL_FORMAT"), (0, u "DIRECTIONALITY_LEFT_TO_RIGHT_ISOLATE"), (0, u "DIRECTIONALITY_RIGHT_TO_LEFT_ISOLATE"), (0, u "DIRECTIONALITY_FIRST_STRONG_ISOLATE"), (0, u "DIRECTIONALITY_POP_DIRECTIONAL_ISOLATE"), (0, u "MIN_HIGH_SURROGATE"), (0, u "MAX_HIGH_SURROGATE"), (1, u "MIN_LOW_SURROGATE"), (0, u "MAX_LOW_SURROGATE"), (1, u "MIN_SURROGATE"), (0, u "MAX_SURROGATE"), (0, u "MIN_SUPPLEMENTARY_CODE_POINT"), (0, u "MIN_CODE_POINT"), (0, u "MAX_CODE_POINT"), (1, u "serialVersionUID"), (0, u "J"), (2, u "SIZE"), (0, u "BYTES"), (88, .class_ 596), (0, u "java/lang/Character$UnicodeScript"), (0, .class_ 598), (0, u "java/lang/Character$Subset")] 5

def k15c0 : Code := { maxStack := 1, maxLocals := 1, code := jdk_89_method_88_code, exceptionTable := #[], attributes := #[] }
def k15m0 : Method := { name := "isISOControl", desc := "(C)Z", sig := { parameters := [.char], returnType := some .boolean }, accessFlags := 9, code := some k15c0 }
def k15c1 : Code := { maxStack := 2, maxLocals := 1, code := jdk_89_method_89_code, exceptionTable := #[], attributes := #[] }
def k15m1 : Method := { name := "isISOControl", desc := "(I)Z", sig := { parameters := [.int], returnType := some .boolean }, accessFlags := 9, code := some k15c1 }
/-- java/lang/Character -/
def k15 : Class := { plain "java/lang/Character" (some 0) with
  accessFlags := 49
  interfaces := #[2, 3, 5]
  cf := some (fileOf pool15 1 #[.nestMembers #[48, 595, 307, 597]] #[{ accessFlags := 9, nameIndex := 268, descriptorIndex := 81, attributes := #[] }, { accessFlags := 9, nameIndex := 268, descriptorIndex := 114, attributes := #[] }] 49 42 #[385, 387, 389] #[{ accessFlags := 25, nameIndex := 391, descriptorIndex := 392, attributes := #[] }, { accessFlags := 25, nameIndex := 395, descriptorIndex := 392, attributes := #[] }, { accessFlags := 25, nameIndex := 397, descriptorIndex := 22, attributes := #[] }, { accessFlags := 25, nameIndex := 399, descriptorIndex := 22, attributes := #[] }, { accessFlags := 25, nameIndex := 383, descriptorIndex := 384, attributes := #[] }, { accessFlags := 25, nameIndex := 403, descriptorIndex := 404, attributes := #[] }, { accessFlags := 25, nameIndex := 405, descriptorIndex := 404, attributes := #[] }, { accessFlags := 25, nameIndex := 407, descriptorIndex := 404, attributes := #[] }, { accessFlags := 25, nameIndex := 408, descriptorIndex := 404, attributes := #[] }, { accessFlags := 25, nameIndex := 410, descriptorIndex := 404, attributes := #[] }, { accessFlags := 25, nameIndex := 412, descriptorIndex := 404, attributes := #[] }, { accessFlags := 25, nameIndex := 414, descriptorIndex := 404, attributes := #[] }, { accessFlags := 25, nameIndex := 416, descriptorIndex := 404, attributes := #[] }, { accessFlags := 25, nameIndex := 418, descriptorIndex := 404, attributes := #[] }, { accessFlags := 25, nameIndex := 420, descriptorIndex := 404, attributes := #[] }, { accessFlags := 25, nameIndex := 422, descriptorIndex := 404, attributes := #[] }, { accessFlags := 25, nameIndex := 424, descriptorIndex := 404, attributes := #[] }, { accessFlags := 25, nameIndex := 426, descriptorIndex := 404, attributes := #[] }, { accessFlags := 25, nameIndex := 428, descriptorIndex := 404, attributes := #[] }, { accessFlags := 25, nameIndex := 430, descriptorIndex := 404, attributes := #[] }, { accessFlags := 25, nameIndex := 432, descriptorIndex := 404, attributes := #[] }, { accessFlags := 25, nameIndex := 434, descriptorIndex := 404, attributes := #[] }, { accessFlags := 25, nameIndex := 436, descriptorIndex := 404, attributes := #[] }, { accessFlags := 25, nameIndex := 438, descriptorIndex := 404, attributes := #[] }, { accessFlags := 25, nameIndex := 440, descriptorIndex := 404, attributes := #[] }, { accessFlags := 25, nameIndex := 442, descriptorIndex := 404, attributes := #[] }, { accessFlags := 25, nameIndex := 444, descriptorIndex := 404, attributes := #[] }, { accessFlags := 25, nameIndex := 446, descriptorIndex := 404, attributes := #[] }, { accessFlags := 25, nameIndex := 448, descriptorIndex := 404, attributes := #[] }, { accessFlags := 25, nameIndex := 450, descriptorIndex := 404, attributes := #[] }, { accessFlags := 25, nameIndex := 452, descriptorIndex := 404, attributes := #[] }, { accessFlags := 25, nameIndex := 454, descriptorIndex := 404, attributes := #[] }, { accessFlags := 25, nameIndex := 456, descriptorIndex := 404, attributes := #[] }, { accessFlags := 25, nameIndex := 458, descriptorIndex := 404, attributes := #[] }, { accessFlags := 25, nameIndex := 460, descriptorIndex := 404, attributes := #[] }, { accessFlags := 24, nameIndex := 462, descriptorIndex := 392, attributes := #[] }, { accessFlags := 25, nameIndex := 464, descriptorIndex := 404, attributes := #[] }, { accessFlags := 25, nameIndex := 465, descriptorIndex := 404, attributes := #[] }, { accessFlags := 25, nameIndex := 466, descriptorIndex := 404, attributes := #[] }, { accessFlags := 25, nameIndex := 467, descriptorIndex := 404, attributes := #[] }, { accessFlags := 25, nameIndex := 468, descriptorIndex := 404, attributes := #[] }, { accessFlags := 25, nameIndex := 469, descriptorIndex := 404, attributes := #[] }, { accessFlags := 25, nameIndex := 470, descriptorIndex := 404, attributes := #[] }, { accessFlags := 25, nameIndex := 471, descriptorIndex := 404, attributes := #[] }, { accessFlags := 25, nameIndex := 472, descriptorIndex := 404, attributes := #[] }, { accessFlags := 25, nameIndex := 473, descriptorIndex := 404, attributes := #[] }, { accessFlags := 25, nameIndex := 474, descriptorIndex := 404, attributes := #[] }, { accessFlags := 25, nameIndex := 475, descriptorIndex := 404, attributes := #[] }, { accessFlags := 25, nameIndex := 476, descriptorIndex := 404, attributes := #[] }, { accessFlags := 25, nameIndex := 477, descriptorIndex := 404, attributes := #[] }, { accessFlags := 25, nameIndex := 478, descriptorIndex := 404, attributes := #[] }, { accessFlags := 25, nameIndex := 479, descriptorIndex := 404, attributes := #[] }, { accessFlags := 25, nameIndex := 480, descriptorIndex := 404, attributes := #[] }, { accessFlags := 25, nameIndex := 481, descriptorIndex := 404, attributes := #[] }, { accessFlags := 25, nameIndex := 482, descriptorIndex := 404, attributes := #[] }, { accessFlags := 25, nameIndex := 484, descriptorIndex := 404, attributes := #[] }, { accessFlags := 25, nameIndex := 485, descriptorIndex := 404, attributes := #[] }, { accessFlags := 25, nameIndex := 486, descriptorIndex := 404, attributes := #[] }, { accessFlags := 25, nameIndex := 487, descriptorIndex := 404, attributes := #[] }, { accessFlags := 25, nameIndex := 488, descriptorIndex := 404, attributes := #[] }, { accessFlags := 25, nameIndex := 489, descriptorIndex := 22, attributes := #[] }, { accessFlags := 25, nameIndex := 490, descriptorIndex := 22, attributes := #[] }, { accessFlags := 25, nameIndex := 492, descriptorIndex := 22, attributes := #[] }, { accessFlags := 25, nameIndex := 493, descriptorIndex := 22, attributes := #[] }, { accessFlags := 25, nameIndex := 495, descriptorIndex := 22, attributes := #[] }, { accessFlags := 25, nameIndex := 496, descriptorIndex := 22, attributes := #[] }, { accessFlags := 25, nameIndex := 497, descriptorIndex := 392, attributes := #[] }, { accessFlags := 25, nameIndex := 498, descriptorIndex := 392, attributes := #[] }, { accessFlags := 25, nameIndex := 499, descriptorIndex := 392, attributes := #[] }, { accessFlags := 18, nameIndex := 21, descriptorIndex := 22, attributes := #[] }, { accessFlags := 26, nameIndex := 501, descriptorIndex := 502, attributes := #[] }, { accessFlags := 25, nameIndex := 505, descriptorIndex := 392, attributes := #[] }, { accessFlags := 25, nameIndex := 506, descriptorIndex := 392, attributes := #[] }, { accessFlags := 4120, nameIndex := 284, descriptorIndex := 285, attributes := #[] }])
  fields := #[{ name := "MIN_RADIX", type := .int, accessFlags := 25, slot := 0, constantValue := 0 }, { name := "MAX_RADIX", type := .int, accessFlags := 25, slot := 1, constantValue := 0 }, { name := "MIN_VALUE", type := .char, accessFlags := 25, slot := 2, constantValue := 0 }, { name := "MAX_VALUE", type := .char, accessFlags := 25, slot := 3, constantValue := 0 }, { name := "TYPE", type := (.object "java/lang/Class"), accessFlags := 25, slot := 4, constantValue := 0 }, { name := "UNASSIGNED", type := .byte, accessFlags := 25, slot := 5, constantValue := 0 }, { name := "UPPERCASE_LETTER", type := .byte, accessFlags := 25, slot := 6, constantValue := 0 }, { name := "LOWERCASE_LETTER", type := .byte, accessFlags := 25, slot := 7, constantValue := 0 }, { name := "TITLECASE_LETTER", type := .byte, accessFlags := 25, slot := 8, constantValue := 0 }, { name := "MODIFIER_LETTER", type := .byte, accessFlags := 25, slot := 9, constantValue := 0 }, { name := "OTHER_LETTER", type := .byte, accessFlags := 25, slot := 10, constantValue := 0 }, { name := "NON_SPACING_MARK", type := .byte, accessFlags := 25, slot := 11, constantValue := 0 }, { name := "ENCLOSING_MARK", type := .byte, accessFlags := 25, slot := 12, constantValue := 0 }, { name := "COMBINING_SPACING_MARK", type := .byte, accessFlags := 25, slot := 13, constantValue := 0 }, { name := "DECIMAL_DIGIT_NUMBER", type := .byte, accessFlags := 25, slot := 14, constantValue := 0 }, { name := "LETTER_NUMBER", type := .byte, accessFlags := 25, slot := 15, constantValue := 0 }, { name := "OTHER_NUMBER", type := .byte, accessFlags := 25, slot := 16, constantValue := 0 }, { name := "SPACE_SEPARATOR", type := .byte, accessFlags := 25, slot := 17, constantValue := 0 }, { name := "LINE_SEPARATOR", type := .byte, accessFlags := 25, slot := 18, constantValue := 0 }, { name := "PARAGRAPH_SEPARATOR", type := .byte, accessFlags := 25, slot := 19, constantValue := 0 }, { name := "CONTROL", type := .byte, accessFlags := 25, slot := 20, constantValue := 0 }, { name := "FORMAT", type := .byte, accessFlags := 25, slot := 21, constantValue := 0 }, { name := "PRIVATE_USE", type := .byte, accessFlags := 25, slot := 22, constantValue := 0 }, { name := "SURROGATE", type := .byte, accessFlags := 25, slot := 23, constantValue := 0 }, { name := "DASH_PUNCTUATION", type := .byte, accessFlags := 25, slot := 24, constantValue := 0 }, { name := "START_PUNCTUATION", type := .byte, accessFlags := 25, slot := 25, constantValue := 0 }, { name := "END_PUNCTUATION", type := .byte, accessFlags := 25, slot := 26, constantValue := 0 }, { name := "CONNECTOR_PUNCTUATION", type := .byte, accessFlags := 25, slot := 27, constantValue := 0 }, { name := "OTHER_PUNCTUATION", type := .byte, accessFlags := 25, slot := 28, constantValue := 0 }, { name := "MATH_SYMBOL", type := .byte, accessFlags := 25, slot := 29, constantValue := 0 }, { name := "CURRENCY_SYMBOL", type := .byte, accessFlags := 25, slot := 30, constantValue := 0 }, { name := "MODIFIER_SYMBOL", type := .byte, accessFlags := 25, slot := 31, constantValue := 0 }, { name := "OTHER_SYMBOL", type := .byte, accessFlags := 25, slot := 32, constantValue := 0 }, { name := "INITIAL_QUOTE_PUNCTUATION", type := .byte, accessFlags := 25, slot := 33, constantValue := 0 }, { name := "FINAL_QUOTE_PUNCTUATION", type := .byte, accessFlags := 25, slot := 34, constantValue := 0 }, { name := "ERROR", type := .int, accessFlags := 24, slot := 35, constantValue := 0 }, { name := "DIRECTIONALITY_UNDEFINED", type := .byte, accessFlags := 25, slot := 36, constantValue := 0 }, { name := "DIRECTIONALITY_LEFT_TO_RIGHT", type := .byte, accessFlags := 25, slot := 37, constantValue := 0 }, { name := "DIRECTIONALITY_RIGHT_TO_LEFT", type := .byte, accessFlags := 25, slot := 38, constantValue := 0 }, { name := "DIRECTIONALITY_RIGHT_TO_LEFT_ARABIC", type := .byte, accessFlags := 25, slot := 39, constantValue := 0 }, { name := "DIRECTIONALITY_EUROPEAN_NUMBER", type := .byte, accessFlags := 25, slot := 40, constantValue := 0 }, { name := "DIRECTIONALITY_EUROPEAN_NUMBER_SEPARATOR", type := .byte, accessFlags := 25, slot := 41, constantValue := 0 }, { name := "DIRECTIONALITY_EUROPEAN_NUMBER_TERMINATOR", type := .byte, accessFlags := 25, slot := 42, constantValue := 0 }, { name := "DIRECTIONALITY_ARABIC_NUMBER", type := .byte, accessFlags := 25, slot := 43, constantValue := 0 }, { name := "DIRECTIONALITY_COMMON_NUMBER_SEPARATOR", type := .byte, accessFlags := 25, slot := 44, constantValue := 0 }, { name := "DIRECTIONALITY_NONSPACING_MARK", type := .byte, accessFlags := 25, slot := 45, constantValue := 0 }, { name := "DIRECTIONALITY_BOUNDARY_NEUTRAL", type := .byte, accessFlags := 25, slot := 46, constantValue := 0 }, { name := "DIRECTIONALITY_PARAGRAPH_SEPARATOR", type := .byte, accessFlags := 25, slot := 47, constantValue := 0 }, { name := "DIRECTIONALITY_SEGMENT_SEPARATOR", type := .byte, accessFlags := 25, slot := 48, constantValue := 0 }, { name := "DIRECTIONALITY_WHITESPACE", type := .byte, accessFlags := 25, slot := 49, constantValue := 0 }, { name := "DIRECTIONALITY_OTHER_NEUTRALS", type := .byte, accessFlags := 25, slot := 50, constantValue := 0 }, { name := "DIRECTIONALITY_LEFT_TO_RIGHT_EMBEDDING", type := .byte, accessFlags := 25, slot := 51, constantValue := 0 }, { name := "DIRECTIONALITY_LEFT_TO_RIGHT_OVERRIDE", type := .byte, accessFlags := 25, slot := 52, constantValue := 0 }, { name := "DIRECTIONALITY_RIGHT_TO_LEFT_EMBEDDING", type := .byte, accessFlags := 25, slot := 53, constantValue := 0 }, { name := "DIRECTIONALITY_RIGHT_TO_LEFT_OVERRIDE", type := .byte, accessFlags := 25, slot := 54, constantValue := 0 }, { name := "DIRECTIONALITY_POP_DIRECTIONAL_FORMAT", type := .byte, accessFlags := 25, slot := 55, constantValue := 0 }, { name := "DIRECTIONALITY_LEFT_TO_RIGHT_ISOLATE", type := .byte, accessFlags := 25, slot := 56, constantValue := 0 }, { name := "DIRECTIONALITY_RIGHT_TO_LEFT_ISOLATE", type := .byte, accessFlags := 25, slot := 57, constantValue := 0 }, { name := "DIRECTIONALITY_FIRST_STRONG_ISOLATE", type := .byte, accessFlags := 25, slot := 58, constantValue := 0 }, { name := "DIRECTIONALITY_POP_DIRECTIONAL_ISOLATE", type := .byte, accessFlags := 25, slot := 59, constantValue := 0 }, { name := "MIN_HIGH_SURROGATE", type := .char, accessFlags := 25, slot := 60, constantValue := 0 }, { name := "MAX_HIGH_SURROGATE", type := .char, accessFlags := 25, slot := 61, constantValue := 0 }, { name := "MIN_LOW_SURROGATE", type := .char, accessFlags := 25, slot := 62, constantValue := 0 }, { name := "MAX_LOW_SURROGATE", type := .char, accessFlags := 25, slot := 63, constantValue := 0 }, { name := "MIN_SURROGATE", type := .char, accessFlags := 25, slot := 64, constantValue := 0 }, { name := "MAX_SURROGATE", type := .char, accessFlags := 25, slot := 65, constantValue := 0 }, { name := "MIN_SUPPLEMENTARY_CODE_POINT", type := .int, accessFlags := 25, slot := 66, constantValue := 0 }, { name := "MIN_CODE_POINT", type := .int, accessFlags := 25, slot := 67, constantValue := 0 }, { name := "MAX_CODE_POINT", type := .int, accessFlags := 25, slot := 68, constantValue := 0 }, { name := "value", type := .char, accessFlags := 18, slot := 0, constantValue := 0 }, { name := "serialVersionUID", type := .long, accessFlags := 26, slot := 69, constantValue := 0 }, { name := "SIZE", type := .int, accessFlags := 25, slot := 70, constantValue := 0 }, { name := "BYTES", type := .int, accessFlags := 25, slot := 71, constantValue := 0 }, { name := "$assertionsDisabled", type := .boolean, accessFlags := 4120, slot := 72, constantValue := 0 }]
  methods := #[k15m0, k15m1]
  instanceTypes := #[.char]
  staticTypes := #[.int, .int, .char, .char, (.object "java/lang/Class"), .byte, .byte, .byte, .byte, .byte, .byte, .byte, .byte, .byte, .byte, .byte, .byte, .byte, .byte, .byte, .byte, .byte, .byte, .byte, .byte, .byte, .byte, .byte, .byte, .byte, .byte, .byte, .byte, .byte, .byte, .int, .byte, .byte, .byte, .byte, .byte, .byte, .byte, .byte, .byte, .byte, .byte, .byte, .byte, .byte, .byte, .byte, .byte, .byte, .byte, .byte, .byte, .byte, .byte, .byte, .char, .char, .char, .char, .char, .char, .int, .int, .int, .long, .int, .int, .boolean]
  resolved := Array.replicate 604 none
  statics := none }

def pool16 : Array CpInfo := pool [(2, .class_ 4), (1, u "java/lang/Object"), (0, u "<init>"), (0, u "()V"), (1, .class_ 10), (1, u "java/lang/System"), (0, u "allowSecurityManager"), (0, u "I"), (16, u "cons"), (0, u "Ljava/io/Console;"), (77, .class_ 110), (1, u "java/lang/System$CallersHolder"), (43, u "initialErrStream"), (0, u "Ljava/io/PrintStream;"), (19, u "security"), (0, u "Ljava/lang/SecurityManager;"), (31, .class_ 209), (0, u "java/lang/System$1"), (7, u "props"), (0, u "Ljava/util/Properties;"), (2, u "lineSeparator"), (0, u "Ljava/lang/String;"), (96, .class_ 321), (1, u "java/lang/System$LoggerFinder"), (5, .class_ 328), (0, u "java/lang/System$Logger"), (67, u "err"), (2, u "out"), (91, u "notSupportedJnuEncoding"), (15, u "in"), (17, u "initialIn"), (0, u "Ljava/io/InputStream;"), (35, u "bootLayer"), (0, u "Ljava/lang/ModuleLayer;"), (99, .class_ 664), (0, u "java/lang/System$2"), (9, u "NEVER"), (2, u "MAYBE"), (49, u "arraycopy"), (0, u "(Ljava/lang/Object;ILjava/lang/Object;II)V"), (72, .class_ 802), (0, u "java/lang/System$Logger$Level")] 31

def k16m0 : Method := { name := "<init>", desc := "()V", sig := { parameters := [], returnType := none }, accessFlags := 2, code := none }
def k16m1 : Method := { name := "arraycopy", desc := "(Ljava/lang/Object;ILjava/lang/Object;II)V", sig := { parameters := [(.object "java/lang/Object"), .int, (.object "java/lang/Object"), .int, .int], returnType := none }, accessFlags := 265, code := none }
/-- java/lang/System -/
def k16 : Class := { plain "java/lang/System" (some 0) with
  accessFlags := 49
  interfaces := #[]
  cf := some (fileOf pool16 8 #[.nestMembers #[319, 327, 801, 108, 663, 208]] #[{ accessFlags := 2, nameIndex := 5, descriptorIndex := 6, attributes := #[] }, { accessFlags := 265, nameIndex := 727, descriptorIndex := 728, attributes := #[] }] 49 2 #[] #[{ accessFlags := 25, nameIndex := 507, descriptorIndex := 526, attributes := #[] }, { accessFlags := 25, nameIndex := 399, descriptorIndex := 155, attributes := #[] }, { accessFlags := 25, nameIndex := 396, descriptorIndex := 155, attributes := #[] }, { accessFlags := 10, nameIndex := 525, descriptorIndex := 526, attributes := #[] }, { accessFlags := 26, nameIndex := 674, descriptorIndex := 12, attributes := #[] }, { accessFlags := 26, nameIndex := 677, descriptorIndex := 12, attributes := #[] }, { accessFlags := 10, nameIndex := 11, descriptorIndex := 12, attributes := #[] }, { accessFlags := 74, nameIndex := 175, descriptorIndex := 176, attributes := #[] }, { accessFlags := 10, nameIndex := 491, descriptorIndex := 222, attributes := #[] }, { accessFlags := 74, nameIndex := 29, descriptorIndex := 30, attributes := #[] }, { accessFlags := 74, nameIndex := 154, descriptorIndex := 155, attributes := #[] }, { accessFlags := 10, nameIndex := 217, descriptorIndex := 218, attributes := #[] }, { accessFlags := 10, nameIndex := 221, descriptorIndex := 222, attributes := #[] }, { accessFlags := 8, nameIndex := 562, descriptorIndex := 563, attributes := #[] }])
  fields := #[{ name := "in", type := (.object "java/io/InputStream"), accessFlags := 25, slot := 0, constantValue := 0 }, { name := "out", type := (.object "java/io/PrintStream"), accessFlags := 25, slot := 1, constantValue := 0 }, { name := "err", type := (.object "java/io/PrintStream"), accessFlags := 25, slot := 2, constantValue := 0 }, { name := "initialIn", type := (.object "java/io/InputStream"), accessFlags := 10, slot := 3, constantValue := 0 }, { name := "NEVER", type := .int, accessFlags := 26, slot := 4, constantValue := 0 }, { name := "MAYBE", type := .int, accessFlags := 26, slot := 5, constantValue := 0 }, { name := "allowSecurityManager", type := .int, accessFlags := 10, slot := 6, constantValue := 0 }, { name := "security", type := (.object "java/lang/SecurityManager"), accessFlags := 74, slot := 7, constantValue := 0 }, { name := "notSupportedJnuEncoding", type := (.object "java/lang/String"), accessFlags := 10, slot := 8, constantValue := 0 }, { name := "cons", type := (.object "java/io/Console"), accessFlags := 74, slot := 9, constantValue := 0 }, { name := "initialErrStream", type := (.object "java/io/PrintStream"), accessFlags := 74, slot := 10, constantValue := 0 }, { name := "props", type := (.object "java/util/Properties"), accessFlags := 10, slot := 11, constantValue := 0 }, { name := "lineSeparator", type := (.object "java/lang/String"), accessFlags := 10, slot := 12, constantValue := 0 }, { name := "bootLayer", type := (.object "java/lang/ModuleLayer"), accessFlags := 8, slot := 13, constantValue := 0 }]
  methods := #[k16m0, k16m1]
  instanceTypes := #[]
  staticTypes := #[(.object "java/io/InputStream"), (.object "java/io/PrintStream"), (.object "java/io/PrintStream"), (.object "java/io/InputStream"), .int, .int, .int, (.object "java/lang/SecurityManager"), (.object "java/lang/String"), (.object "java/io/Console"), (.object "java/io/PrintStream"), (.object "java/util/Properties"), (.object "java/lang/String"), (.object "java/lang/ModuleLayer")]
  resolved := Array.replicate 834 none
  statics := none }

def pool17 : Array CpInfo := pool [(9, u "<init>"), (6, .class_ 18), (1, u "java/lang/Object"), (0, u "()V"), (1, .class_ 23), (1, u "jdk/internal/util/ArraysSupport"), (0, u "LOG2_ARRAY_LONG_INDEX_SCALE"), (0, u "I"), (2, u "U"), (0, u "Ljdk/internal/misc/Unsafe;"), (8, u "BIG_ENDIAN"), (0, u "Z"), (8, u "LOG2_BYTE_BIT_SIZE"), (4, u "LOG2_ARRAY_INT_INDEX_SCALE"), (54, u "JLA"), (0, u "Ljdk/internal/access/JavaLangAccess;"), (11, u "LOG2_ARRAY_BOOLEAN_INDEX_SCALE"), (9, u "LOG2_ARRAY_BYTE_INDEX_SCALE"), (5, u "LOG2_ARRAY_CHAR_INDEX_SCALE"), (5, u "LOG2_ARRAY_SHORT_INDEX_SCALE"), (18, u "LOG2_ARRAY_FLOAT_INDEX_SCALE"), (24, u "LOG2_ARRAY_DOUBLE_INDEX_SCALE"), (6, .methodref 195 196), (0, .class_ 197), (0, .nameAndType 198 199), (0, u "java/lang/Math"), (0, u "max"), (0, u "(II)I"), (0, .integer 2147483639), (76, u "T_BOOLEAN"), (2, u "T_CHAR"), (1, u "T_FLOAT"), (1, u "T_DOUBLE"), (1, u "T_BYTE"), (1, u "T_SHORT"), (1, u "T_INT"), (1, u "T_LONG"), (1, u "SOFT_MAX_ARRAY_LENGTH"), (56, u "newLength"), (0, u "(III)I")] 25

def k17m0 : Method := { name := "<init>", desc := "()V", sig := { parameters := [], returnType := none }, accessFlags := 2, code := none }
def k17c1 : Code := { maxStack := 3, maxLocals := 4, code := jdk_48_method_27_code, exceptionTable := #[], attributes := #[] }
def k17m1 : Method := { name := "newLength", desc := "(III)I", sig := { parameters := [.int, .int, .int], returnType := some .int }, accessFlags := 9, code := some k17c1 }
/-- jdk/internal/util/ArraysSupport -/
def k17 : Class := { plain "jdk/internal/util/ArraysSupport" (some 0) with
  accessFlags := 33
  interfaces := #[]
  cf := some (fileOf pool17 21 #[] #[{ accessFlags := 2, nameIndex := 9, descriptorIndex := 19, attributes := #[] }, { accessFlags := 9, nameIndex := 351, descriptorIndex := 352, attributes := #[] }] 33 16 #[] #[{ accessFlags := 24, nameIndex := 28, descriptorIndex := 29, attributes := #[] }, { accessFlags := 26, nameIndex := 38, descriptorIndex := 39, attributes := #[] }, { accessFlags := 25, nameIndex := 121, descriptorIndex := 25, attributes := #[] }, { accessFlags := 25, nameIndex := 131, descriptorIndex := 25, attributes := #[] }, { accessFlags := 25, nameIndex := 137, descriptorIndex := 25, attributes := #[] }, { accessFlags := 25, nameIndex := 143, descriptorIndex := 25, attributes := #[] }, { accessFlags := 25, nameIndex := 53, descriptorIndex := 25, attributes := #[] }, { accessFlags := 25, nameIndex := 24, descriptorIndex := 25, attributes := #[] }, { accessFlags := 25, nameIndex := 162, descriptorIndex := 25, attributes := #[] }, { accessFlags := 25, nameIndex := 187, descriptorIndex := 25, attributes := #[] }, { accessFlags := 26, nameIndex := 48, descriptorIndex := 25, attributes := #[] }, { accessFlags := 25, nameIndex := 277, descriptorIndex := 25, attributes := #[] }, { accessFlags := 25, nameIndex := 280, descriptorIndex := 25, attributes := #[] }, { accessFlags := 25, nameIndex := 282, descriptorIndex := 25, attributes := #[] }, { accessFlags := 25, nameIndex := 284, descriptorIndex := 25, attributes := #[] }, { accessFlags := 25, nameIndex := 286, descriptorIndex := 25, attributes := #[] }, { accessFlags := 25, nameIndex := 288, descriptorIndex := 25, attributes := #[] }, { accessFlags := 25, nameIndex := 290, descriptorIndex := 25, attributes := #[] }, { accessFlags := 25, nameIndex := 292, descriptorIndex := 25, attributes := #[] }, { accessFlags := 26, nameIndex := 108, descriptorIndex := 109, attributes := #[] }, { accessFlags := 25, nameIndex := 294, descriptorIndex := 25, attributes := #[] }])
  fields := #[{ name := "U", type := (.object "jdk/internal/misc/Unsafe"), accessFlags := 24, slot := 0, constantValue := 0 }, { name := "BIG_ENDIAN", type := .boolean, accessFlags := 26, slot := 1, constantValue := 0 }, { name := "LOG2_ARRAY_BOOLEAN_INDEX_SCALE", type := .int, accessFlags := 25, slot := 2, constantValue := 0 }, { name := "LOG2_ARRAY_BYTE_INDEX_SCALE", type := .int, accessFlags := 25, slot := 3, constantValue := 0 }, { name := "LOG2_ARRAY_CHAR_INDEX_SCALE", type := .int, accessFlags := 25, slot := 4, constantValue := 0 }, { name := "LOG2_ARRAY_SHORT_INDEX_SCALE", type := .int, accessFlags := 25, slot := 5, constantValue := 0 }, { name := "LOG2_ARRAY_INT_INDEX_SCALE", type := .int, accessFlags := 25, slot := 6, constantValue := 0 }, { name := "LOG2_ARRAY_LONG_INDEX_SCALE", type := .int, accessFlags := 25, slot := 7, constantValue := 0 }, { name := "LOG2_ARRAY_FLOAT_INDEX_SCALE", type := .int, accessFlags := 25, slot := 8, constantValue := 0 }, { name := "LOG2_ARRAY_DOUBLE_INDEX_SCALE", type := .int, accessFlags := 25, slot := 9, constantValue := 0 }, { name := "LOG2_BYTE_BIT_SIZE", type := .int, accessFlags := 26, slot := 10, constantValue := 0 }, { name := "T_BOOLEAN", type := .int, accessFlags := 25, slot := 11, constantValue := 0 }, { name := "T_CHAR", type := .int, accessFlags := 25, slot := 12, constantValue := 0 }, { name := "T_FLOAT", type := .int, accessFlags := 25, slot := 13, constantValue := 0 }, { name := "T_DOUBLE", type := .int, accessFlags := 25, slot := 14, constantValue := 0 }, { name := "T_BYTE", type := .int, accessFlags := 25, slot := 15, constantValue := 0 }, { name := "T_SHORT", type := .int, accessFlags := 25, slot := 16, constantValue := 0 }, { name := "T_INT", type := .int, accessFlags := 25, slot := 17, constantValue := 0 }, { name := "T_LONG", type := .int, accessFlags := 25, slot := 18, constantValue := 0 }, { name := "JLA", type := (.object "jdk/internal/access/JavaLangAccess"), accessFlags := 26, slot := 19, constantValue := 0 }, { name := "SOFT_MAX_ARRAY_LENGTH", type := .int, accessFlags := 25, slot := 20, constantValue := 0 }]
  methods := #[k17m0, k17m1]
  instanceTypes := #[]
  staticTypes := #[(.object "jdk/internal/misc/Unsafe"), .boolean, .int, .int, .int, .int, .int, .int, .int, .int, .int, .int, .int, .int, .int, .int, .int, .int, .int, (.object "jdk/internal/access/JavaLangAccess"), .int]
  resolved := Array.replicate 378 none
  statics := none }

def pool18 : Array CpInfo := pool [(1, .class_ 2), (0, u "java/lang/Math"), (1, .class_ 6), (1, u "java/lang/Object"), (0, u "<init>"), (0, u "()V"), (89, .class_ 100), (1, u "java/lang/Math$RandomNumberGeneratorHolder"), (71, u "negativeZeroFloatBits"), (0, u "J"), (2, u "negativeZeroDoubleBits"), (21, u "max"), (2, u "min"), (43, u "$assertionsDisabled"), (0, u "Z"), (88, u "(II)I"), (2, u "twoToTheDoubleScaleDown"), (0, u "D"), (4, u "twoToTheDoubleScaleUp"), (9, u "E"), (3, u "PI"), (2, u "TAU"), (2, u "DEGREES_TO_RADIANS"), (0, u "RADIANS_TO_DEGREES")] 94

def k18m0 : Method := { name := "<init>", desc := "()V", sig := { parameters := [], returnType := none }, accessFlags := 2, code := none }
def k18c1 : Code := { maxStack := 2, maxLocals := 2, code := jdk_29_method_65_code, exceptionTable := #[], attributes := #[] }
def k18m1 : Method := { name := "max", desc := "(II)I", sig := { parameters := [.int, .int], returnType := some .int }, accessFlags := 9, code := some k18c1 }
def k18c2 : Code := { maxStack := 2, maxLocals := 2, code := jdk_29_method_69_code, exceptionTable := #[], attributes := #[] }
def k18m2 : Method := { name := "min", desc := "(II)I", sig := { parameters := [.int, .int], returnType := some .int }, accessFlags := 9, code := some k18c2 }
/-- java/lang/Math -/
def k18 : Class := { plain "java/lang/Math" (some 0) with
  accessFlags := 49
  interfaces := #[]
  cf := some (fileOf pool18 1 #[.nestMembers #[98]] #[{ accessFlags := 2, nameIndex := 7, descriptorIndex := 8, attributes := #[] }, { accessFlags := 9, nameIndex := 198, descriptorIndex := 335, attributes := #[] }, { accessFlags := 9, nameIndex := 201, descriptorIndex := 335, attributes := #[] }] 49 4 #[] #[{ accessFlags := 25, nameIndex := 354, descriptorIndex := 339, attributes := #[] }, { accessFlags := 25, nameIndex := 358, descriptorIndex := 339, attributes := #[] }, { accessFlags := 25, nameIndex := 361, descriptorIndex := 339, attributes := #[] }, { accessFlags := 26, nameIndex := 364, descriptorIndex := 339, attributes := #[] }, { accessFlags := 26, nameIndex := 365, descriptorIndex := 339, attributes := #[] }, { accessFlags := 26, nameIndex := 172, descriptorIndex := 173, attributes := #[] }, { accessFlags := 26, nameIndex := 176, descriptorIndex := 173, attributes := #[] }, { accessFlags := 8, nameIndex := 344, descriptorIndex := 339, attributes := #[] }, { accessFlags := 8, nameIndex := 338, descriptorIndex := 339, attributes := #[] }, { accessFlags := 4120, nameIndex := 245, descriptorIndex := 246, attributes := #[] }])
  fields := #[{ name := "E", type := .double, accessFlags := 25, slot := 0, constantValue := 0 }, { name := "PI", type := .double, accessFlags := 25, slot := 1, constantValue := 0 }, { name := "TAU", type := .double, accessFlags := 25, slot := 2, constantValue := 0 }, { name := "DEGREES_TO_RADIANS", type := .double, accessFlags := 26, slot := 3, constantValue := 0 }, { name := "RADIANS_TO_DEGREES", type := .double, accessFlags := 26, slot := 4, constantValue := 0 }, { name := "negativeZeroFloatBits", type := .long, accessFlags := 26, slot := 5, constantValue := 0 }, { name := "negativeZeroDoubleBits", type := .long, accessFlags := 26, slot := 6, constantValue := 0 }, { name := "twoToTheDoubleScaleUp", type := .double, accessFlags := 8, slot := 7, constantValue := 0 }, { name := "twoToTheDoubleScaleDown", type := .double, accessFlags := 8, slot := 8, constantValue := 0 }, { name := "$assertionsDisabled", type := .boolean, accessFlags := 4120, slot := 9, constantValue := 0 }]
  methods := #[k18m0, k18m1, k18m2]
  instanceTypes := #[]
  staticTypes := #[.double, .double, .double, .double, .double, .long, .long, .double, .double, .boolean]
  resolved := Array.replicate 460 none
  statics := none }

def pool19 : Array CpInfo := pool [(2, .class_ 4), (1, u "java/lang/Object"), (0, u "<init>"), (0, u "()V"), (7, .class_ 16), (1, u "java/util/Arrays"), (57, .class_ 76), (1, u "java/util/Arrays$NaturalOrder"), (32, u "()Ljava/lang/Object;"), (3, .class_ 115), (1, u "java/util/Arrays$LegacyMergeSort"), (1, u "Z"), (10, .nameAndType 129 109), (0, u "clone"), (9, u "copyOfRange"), (10, .methodref 151 152), (0, .class_ 153), (0, .nameAndType 154 155), (0, u "java/lang/System"), (0, u "arraycopy"), (0, u "(Ljava/lang/Object;ILjava/lang/Object;II)V"), (146, u "copyOf"), (1, .methodref 305 306), (0, .class_ 307), (0, .nameAndType 308 309), (0, u "java/lang/Math"), (0, u "min"), (0, u "(II)I"), (0, .methodref 311 128), (0, .class_ 312), (0, u "[B"), (26, .methodref 14 340), (0, .nameAndType 341 342), (0, u "copyOfRangeByte"), (0, u "([BII)[B"), (0, .methodref 14 344), (0, .nameAndType 345 346), (0, u "checkLength"), (0, u "(II)V"), (28, .class_ 376), (0, u "java/util/Arrays$ArrayList"), (68, u "$assertionsDisabled"), (269, u "MIN_ARRAY_SORT_GRAN"), (0, u "I"), (2, u "INSERTIONSORT_THRESHOLD"), (149, u "([BI)[B"), (105, .class_ 976), (0, u "java/util/Arrays$ArrayItr")] 52

def k19m0 : Method := { name := "<init>", desc := "()V", sig := { parameters := [], returnType := none }, accessFlags := 2, code := none }
def k19c1 : Code := { maxStack := 6, maxLocals := 3, code := jdk_65_method_121_code, exceptionTable := #[], attributes := #[] }
def k19m1 : Method := { name := "copyOf", desc := "([BI)[B", sig := { parameters := [(.array .byte), .int], returnType := some (.array .byte) }, accessFlags := 9, code := some k19c1 }
def k19c2 : Code := { maxStack := 4, maxLocals := 2, code := jdk_65_method_131_code, exceptionTable := #[], attributes := #[] }
def k19m2 : Method := { name := "checkLength", desc := "(II)V", sig := { parameters := [.int, .int], returnType := none }, accessFlags := 10, code := some k19c2 }
def k19c3 : Code := { maxStack := 3, maxLocals := 3, code := jdk_65_method_132_code, exceptionTable := #[], attributes := #[] }
def k19m3 : Method := { name := "copyOfRange", desc := "([BII)[B", sig := { parameters := [(.array .byte), .int, .int], returnType := some (.array .byte) }, accessFlags := 9, code := some k19c3 }
def k19c4 : Code := { maxStack := 6, maxLocals := 5, code := jdk_65_method_133_code, exceptionTable := #[], attributes := #[] }
def k19m4 : Method := { name := "copyOfRangeByte", desc := "([BII)[B", sig := { parameters := [(.array .byte), .int, .int], returnType := some (.array .byte) }, accessFlags := 10, code := some k19c4 }
/-- java/util/Arrays -/
def k19 : Class := { plain "java/util/Arrays" (some 0) with
  accessFlags := 49
  interfaces := #[]
  cf := some (fileOf pool19 14 #[.nestMembers #[975, 375, 113, 74]] #[{ accessFlags := 2, nameIndex := 5, descriptorIndex := 6, attributes := #[] }, { accessFlags := 9, nameIndex := 302, descriptorIndex := 869, attributes := #[] }, { accessFlags := 10, nameIndex := 345, descriptorIndex := 346, attributes := #[] }, { accessFlags := 9, nameIndex := 139, descriptorIndex := 342, attributes := #[] }, { accessFlags := 10, nameIndex := 341, descriptorIndex := 342, attributes := #[] }] 49 2 #[] #[{ accessFlags := 26, nameIndex := 715, descriptorIndex := 716, attributes := #[] }, { accessFlags := 26, nameIndex := 719, descriptorIndex := 716, attributes := #[] }, { accessFlags := 4120, nameIndex := 445, descriptorIndex := 117, attributes := #[] }])
  fields := #[{ name := "MIN_ARRAY_SORT_GRAN", type := .int, accessFlags := 26, slot := 0, constantValue := 0 }, { name := "INSERTIONSORT_THRESHOLD", type := .int, accessFlags := 26, slot := 1, constantValue := 0 }, { name := "$assertionsDisabled", type := .boolean, accessFlags := 4120, slot := 2, constantValue := 0 }]
  methods := #[k19m0, k19m1, k19m2, k19m3, k19m4]
  instanceTypes := #[]
  staticTypes := #[.int, .int, .boolean]
  resolved := Array.replicate 1029 none
  statics := none }

def pool20 : Array CpInfo := pool [(1, .class_ 2), (0, u "java/lang/Cloneable"), (0, .class_ 4), (0, u "java/lang/Object")] 2

/-- java/lang/Cloneable -/
def k20 : Class := { plain "java/lang/Cloneable" (some 0) with
  accessFlags := 1537
  interfaces := #[]
  cf := some (fileOf pool20 1 #[] #[] 1537 3 #[] #[])
  fields := #[]
  methods := #[]
  instanceTypes := #[]
  staticTypes := #[]
  resolved := Array.replicate 7 none
  statics := none }

/-- the primitive byte -/
def k21 : Class := { plain "byte" none with kind := .primitive 'B', accessFlags := 0x411 }
/-- [B -/
def k22 : Class := { plain "[B" (some 0) with kind := .array 21 .byte, interfaces := #[20, 2], accessFlags := 1041 }

/-- the primitive char -/
def k23 : Class := { plain "char" none with kind := .primitive 'C', accessFlags := 0x411 }
/-- [C -/
def k24 : Class := { plain "[C" (some 0) with kind := .array 23 .char, interfaces := #[20, 2], accessFlags := 1041 }

/-- the primitive int -/
def k25 : Class := { plain "int" none with kind := .primitive 'I', accessFlags := 0x411 }
/-- [I -/
def k26 : Class := { plain "[I" (some 0) with kind := .array 25 .int, interfaces := #[20, 2], accessFlags := 1041 }

def heap : Heap := #[{ cls := 7, slots := #[.long 0, .int 1, .null, .int 0, .null, .int 0, .int 0], vm := .statics 7 },
  { cls := 8, slots := #[.int 0, .int 8, .int 0, .int 1], vm := .statics 8 },
  { cls := 9, slots := #[.ref 4], vm := .statics 9 },
  { cls := 14, slots := #[.null, .null, .null], vm := .statics 14 },
  { cls := 24, slots := #[.int 48, .int 49, .int 50, .int 51, .int 52, .int 53, .int 54, .int 55, .int 56, .int 57, .int 97, .int 98, .int 99, .int 100, .int 101, .int 102], vm := .none }]
def classes : Array Class := #[k0, k1, k2, k3, k4, k5, k6, k7, k8, k9, k10, k11, k12, k13, k14, k15, k16, k17, k18, k19, k20, k21, k22, k23, k24, k25, k26]
def interned : List (Array UInt16 × Addr) := []
def slotsUsed : Nat := 31
def theMethod : MethodId := ⟨1, 1⟩
def args0 : Array Value := #[.int 0, .int 0, .int 0]
def aboutOver (below : List Frame) : State where
  vm := { classes := classes, interned := interned.toArray }
  heap := heap
  slotsUsed := slotsUsed
  threads := #[{ frames := .invoking theMethod args0 :: below }]
def below0 : List Frame := [.native { method := ⟨0, 0⟩, args := #[] }]
def about1 : State := aboutOver below0
def p0 : Program := .bare "" "" ""
def e0 : Env := launch0.env 0 0 0
theorem w_frames : about1.frames = Frame.invoking theMethod args0 :: below0 := rfl
set_option maxRecDepth 65536 in
theorem w_args : argsFit about1.vm theMethod args0 = true := by decide +kernel
set_option maxRecDepth 65536 in
theorem w_heap : heapFits about1 = true := by decide +kernel
set_option maxRecDepth 65536 in
theorem w_runnable : about1.curStatus? = some .runnable := by decide +kernel
set_option maxRecDepth 65536 in
theorem w_alone : about1.alone = true := by decide +kernel
set_option maxRecDepth 65536 in
theorem w_named : about1.methodNamed? x = some theMethod := by decide +kernel
set_option maxRecDepth 65536 in
theorem w_hears : about1.hears theMethod below0 = true := by decide +kernel
set_option maxRecDepth 65536 in
theorem w_ripe : about1.ripe theMethod args0 below0 = true := by decide +kernel
theorem w_running : about1.status = .running := rfl
set_option maxRecDepth 65536 in
theorem w_room : about1.hasRoom e0.platform room_1 = true :=
  launch0.hasRoom_least _ room_1 (by decide +kernel) (by decide +kernel) (by decide +kernel) (by decide +kernel) (by decide +kernel) (by decide +kernel)
theorem allAtoms_all (ts : List Jvm.Cond) (a : Array Jvm.Value) (st : Jvm.State) : (allAtoms ts).before a st = ts.all (fun c => c.before a st) := by
  induction ts with
  | nil => rfl
  | cons c t ih =>
    show (Jvm.Cond.and c (allAtoms t)).before a st = _
    rw [Jvm.Cond.before_and, ih, List.all_cons]
def words1 : List Jvm.Cond := Jvm.Cond.code x code maxLocals ret :: tables_1
/-- a 'code' word, met by the world's own term for the bytes: nothing is compared byte by byte -/
theorem code_word {y : MethodName} {bytes : ByteArray} {mx : Nat} {rt : Option FieldType} {a : Array Value} {s : State} {m : MethodId} {meth : Method} {c : Code} (h1 : s.methodNamed? y = some m) (h2 : s.vm.method? m = some meth) (h3 : meth.code = some c) (h4 : c.code = bytes)
    (h5 : (c.maxLocals == mx && c.exceptionTable.isEmpty && decide (c.maxStack ≤ mostOperands) && decide (meth.sig.returnType = rt) && !meth.locks && decide (parseMethodDescriptor y.desc = some meth.sig)) = true) : (Jvm.Cond.code y bytes mx rt).before a s = true := by
  simp only [Bool.and_eq_true, beq_iff_eq, Bool.not_eq_true', decide_eq_true_eq] at h5
  obtain ⟨⟨⟨⟨⟨g1, g2⟩, g3⟩, g4⟩, g5⟩, g6⟩ := h5
  simp [Cond.before, Cond.holds, Cond.value, h1, h2, h3, h4, g1, g2, g3, g4, g5, g6]
def isCode : Jvm.Cond → Bool
  | .code _ _ _ _ => true
  | _ => false
theorem all_split {L : List Jvm.Cond} {P : Jvm.Cond → Bool} (h1 : L.all (fun c => isCode c || P c) = true) (h2 : ∀ c ∈ L.filter isCode, P c = true) : L.all P = true := by
  refine List.all_eq_true.mpr fun c hc => ?_
  have h := List.all_eq_true.mp h1 c hc
  rcases Bool.eq_false_or_eq_true (isCode c) with hi | hi
  · exact h2 c (List.mem_filter.mpr ⟨hc, hi⟩)
  · simpa [hi] using h
set_option maxRecDepth 65536 in
theorem w_c0 : (Jvm.Cond.code x code maxLocals ret).before args0 about1 = true := code_word (m := ⟨1, 1⟩) (meth := k1m1) (c := k1c1) (by decide +kernel) rfl rfl rfl (by decide +kernel)
set_option maxRecDepth 65536 in
theorem w_c1 : (Jvm.Cond.code ({ cls := "java/lang/String", name := "<init>", desc := "([C)V" } : Jvm.MethodName) jdk_42_method_3_code (2 : Nat) (Option.none : Option Jvm.ClassFile.FieldType)).before args0 about1 = true := code_word (m := ⟨7, 1⟩) (meth := k7m1) (c := k7c1) (by decide +kernel) rfl rfl rfl (by decide +kernel)
set_option maxRecDepth 65536 in
theorem w_c2 : (Jvm.Cond.code ({ cls := "java/lang/String", name := "<init>", desc := "([CIILjava/lang/Void;)V" } : Jvm.MethodName) jdk_42_method_149_code (6 : Nat) (Option.none : Option Jvm.ClassFile.FieldType)).before args0 about1 = true := code_word (m := ⟨7, 7⟩) (meth := k7m7) (c := k7c7) (by decide +kernel) rfl rfl rfl (by decide +kernel)
set_option maxRecDepth 65536 in
theorem w_c3 : (Jvm.Cond.code ({ cls := "java/lang/Object", name := "<init>", desc := "()V" } : Jvm.MethodName) object_method_1_code (1 : Nat) (Option.none : Option Jvm.ClassFile.FieldType)).before args0 about1 = true := code_word (m := ⟨0, 0⟩) (meth := k0m0) (c := k0c0) (by decide +kernel) rfl rfl rfl (by decide +kernel)
set_option maxRecDepth 65536 in
theorem w_c4 : (Jvm.Cond.code ({ cls := "java/lang/StringUTF16", name := "compress", desc := "([CII)[B" } : Jvm.MethodName) jdk_52_method_16_code (6 : Nat) (Option.some (Jvm.ClassFile.FieldType.array Jvm.ClassFile.FieldType.byte))).before args0 about1 = true := code_word (m := ⟨8, 8⟩) (meth := k8m8) (c := k8c8) (by decide +kernel) rfl rfl rfl (by decide +kernel)
set_option maxRecDepth 65536 in
theorem w_c5 : (Jvm.Cond.code ({ cls := "java/lang/StringUTF16", name := "compress", desc := "([CI[BII)I" } : Jvm.MethodName) jdk_52_method_21_code (7 : Nat) (Option.some Jvm.ClassFile.FieldType.int)).before args0 about1 = true := code_word (m := ⟨8, 9⟩) (meth := k8m9) (c := k8c9) (by decide +kernel) rfl rfl rfl (by decide +kernel)
set_option maxRecDepth 65536 in
theorem w_c6 : (Jvm.Cond.code ({ cls := "java/lang/StringUTF16", name := "coderFromArrayLen", desc := "([BI)B" } : Jvm.MethodName) jdk_52_method_15_code (2 : Nat) (Option.some Jvm.ClassFile.FieldType.byte)).before args0 about1 = true := code_word (m := ⟨8, 7⟩) (meth := k8m7) (c := k8c7) (by decide +kernel) rfl rfl rfl (by decide +kernel)
set_option maxRecDepth 65536 in
theorem w_c7 : (Jvm.Cond.code ({ cls := "com/example/bellwether/bellwether/model/LiteralsQuotePinLaw", name := "put", desc := "([CIC)I" } : Jvm.MethodName) method_5_code (3 : Nat) (Option.some Jvm.ClassFile.FieldType.int)).before args0 about1 = true := code_word (m := ⟨1, 4⟩) (meth := k1m4) (c := k1c4) (by decide +kernel) rfl rfl rfl (by decide +kernel)
set_option maxRecDepth 65536 in
theorem w_c8 : (Jvm.Cond.code ({ cls := "com/example/bellwether/bellwether/model/LiteralsQuotePinLaw", name := "hex", desc := "(I)C" } : Jvm.MethodName) method_4_code (1 : Nat) (Option.some Jvm.ClassFile.FieldType.char)).before args0 about1 = true := code_word (m := ⟨1, 3⟩) (meth := k1m3) (c := k1c3) (by decide +kernel) rfl rfl rfl (by decide +kernel)
set_option maxRecDepth 65536 in
theorem w_c9 : (Jvm.Cond.code ({ cls := "com/example/bellwether/bellwether/model/Literals", name := "quote", desc := "(Ljava/lang/String;)Ljava/lang/String;" } : Jvm.MethodName) prog_10_method_2_code (4 : Nat) (Option.some (Jvm.ClassFile.FieldType.object "java/lang/String"))).before args0 about1 = true := code_word (m := ⟨9, 1⟩) (meth := k9m1) (c := k9c1) (by decide +kernel) rfl rfl rfl (by decide +kernel)
set_option maxRecDepth 65536 in
theorem w_c10 : (Jvm.Cond.code ({ cls := "java/lang/String", name := "length", desc := "()I" } : Jvm.MethodName) jdk_42_method_54_code (1 : Nat) (Option.some Jvm.ClassFile.FieldType.int)).before args0 about1 = true := code_word (m := ⟨7, 3⟩) (meth := k7m3) (c := k7c3) (by decide +kernel) rfl rfl rfl (by decide +kernel)
set_option maxRecDepth 65536 in
theorem w_c11 : (Jvm.Cond.code ({ cls := "java/lang/String", name := "coder", desc := "()B" } : Jvm.MethodName) jdk_42_method_152_code (1 : Nat) (Option.some Jvm.ClassFile.FieldType.byte)).before args0 about1 = true := code_word (m := ⟨7, 10⟩) (meth := k7m10) (c := k7c10) (by decide +kernel) rfl rfl rfl (by decide +kernel)
set_option maxRecDepth 65536 in
theorem w_c12 : (Jvm.Cond.code ({ cls := "java/lang/StringBuilder", name := "<init>", desc := "(I)V" } : Jvm.MethodName) jdk_67_method_2_code (2 : Nat) (Option.none : Option Jvm.ClassFile.FieldType)).before args0 about1 = true := code_word (m := ⟨12, 1⟩) (meth := k12m1) (c := k12c1) (by decide +kernel) rfl rfl rfl (by decide +kernel)
set_option maxRecDepth 65536 in
theorem w_c13 : (Jvm.Cond.code ({ cls := "java/lang/AbstractStringBuilder", name := "<init>", desc := "(I)V" } : Jvm.MethodName) jdk_68_method_2_code (2 : Nat) (Option.none : Option Jvm.ClassFile.FieldType)).before args0 about1 = true := code_word (m := ⟨11, 1⟩) (meth := k11m1) (c := k11c1) (by decide +kernel) rfl rfl rfl (by decide +kernel)
set_option maxRecDepth 65536 in
theorem w_c14 : (Jvm.Cond.code ({ cls := "java/lang/StringBuilder", name := "append", desc := "(C)Ljava/lang/StringBuilder;" } : Jvm.MethodName) jdk_67_method_14_code (2 : Nat) (Option.some (Jvm.ClassFile.FieldType.object "java/lang/StringBuilder"))).before args0 about1 = true := code_word (m := ⟨12, 3⟩) (meth := k12m3) (c := k12c3) (by decide +kernel) rfl rfl rfl (by decide +kernel)
set_option maxRecDepth 65536 in
theorem w_c15 : (Jvm.Cond.code ({ cls := "java/lang/AbstractStringBuilder", name := "append", desc := "(C)Ljava/lang/AbstractStringBuilder;" } : Jvm.MethodName) jdk_68_method_31_code (2 : Nat) (Option.some (Jvm.ClassFile.FieldType.object "java/lang/AbstractStringBuilder"))).before args0 about1 = true := code_word (m := ⟨11, 7⟩) (meth := k11m7) (c := k11c7) (by decide +kernel) rfl rfl rfl (by decide +kernel)
set_option maxRecDepth 65536 in
theorem w_c16 : (Jvm.Cond.code ({ cls := "java/lang/AbstractStringBuilder", name := "ensureCapacityInternal", desc := "(I)V" } : Jvm.MethodName) jdk_68_method_9_code (3 : Nat) (Option.none : Option Jvm.ClassFile.FieldType)).before args0 about1 = true := code_word (m := ⟨11, 3⟩) (meth := k11m3) (c := k11c3) (by decide +kernel) rfl rfl rfl (by decide +kernel)
set_option maxRecDepth 65536 in
theorem w_c17 : (Jvm.Cond.code ({ cls := "java/lang/AbstractStringBuilder", name := "isLatin1", desc := "()Z" } : Jvm.MethodName) jdk_68_method_68_code (1 : Nat) (Option.some Jvm.ClassFile.FieldType.boolean)).before args0 about1 = true := code_word (m := ⟨11, 9⟩) (meth := k11m9) (c := k11c9) (by decide +kernel) rfl rfl rfl (by decide +kernel)
set_option maxRecDepth 65536 in
theorem w_c18 : (Jvm.Cond.code ({ cls := "java/lang/StringLatin1", name := "canEncode", desc := "(C)Z" } : Jvm.MethodName) jdk_43_method_3_code (1 : Nat) (Option.some Jvm.ClassFile.FieldType.boolean)).before args0 about1 = true := code_word (m := ⟨13, 2⟩) (meth := k13m2) (c := k13c2) (by decide +kernel) rfl rfl rfl (by decide +kernel)
set_option maxRecDepth 65536 in
theorem w_c19 : (Jvm.Cond.code ({ cls := "java/lang/String", name := "charAt", desc := "(I)C" } : Jvm.MethodName) jdk_42_method_56_code (2 : Nat) (Option.some Jvm.ClassFile.FieldType.char)).before args0 about1 = true := code_word (m := ⟨7, 4⟩) (meth := k7m4) (c := k7c4) (by decide +kernel) rfl rfl rfl (by decide +kernel)
set_option maxRecDepth 65536 in
theorem w_c20 : (Jvm.Cond.code ({ cls := "java/lang/String", name := "isLatin1", desc := "()Z" } : Jvm.MethodName) jdk_42_method_154_code (1 : Nat) (Option.some Jvm.ClassFile.FieldType.boolean)).before args0 about1 = true := code_word (m := ⟨7, 11⟩) (meth := k7m11) (c := k7c11) (by decide +kernel) rfl rfl rfl (by decide +kernel)
set_option maxRecDepth 65536 in
theorem w_c21 : (Jvm.Cond.code ({ cls := "java/lang/StringLatin1", name := "charAt", desc := "([BI)C" } : Jvm.MethodName) jdk_43_method_2_code (2 : Nat) (Option.some Jvm.ClassFile.FieldType.char)).before args0 about1 = true := code_word (m := ⟨13, 1⟩) (meth := k13m1) (c := k13c1) (by decide +kernel) rfl rfl rfl (by decide +kernel)
set_option maxRecDepth 65536 in
theorem w_c22 : (Jvm.Cond.code ({ cls := "java/lang/String", name := "checkIndex", desc := "(II)V" } : Jvm.MethodName) jdk_42_method_155_code (2 : Nat) (Option.none : Option Jvm.ClassFile.FieldType)).before args0 about1 = true := code_word (m := ⟨7, 12⟩) (meth := k7m12) (c := k7c12) (by decide +kernel) rfl rfl rfl (by decide +kernel)
set_option maxRecDepth 65536 in
theorem w_c23 : (Jvm.Cond.code ({ cls := "jdk/internal/util/Preconditions", name := "checkIndex", desc := "(IILjava/util/function/BiFunction;)I" } : Jvm.MethodName) jdk_41_method_11_code (3 : Nat) (Option.some Jvm.ClassFile.FieldType.int)).before args0 about1 = true := code_word (m := ⟨14, 1⟩) (meth := k14m1) (c := k14c1) (by decide +kernel) rfl rfl rfl (by decide +kernel)
set_option maxRecDepth 65536 in
theorem w_c24 : (Jvm.Cond.code ({ cls := "java/lang/Character", name := "isISOControl", desc := "(C)Z" } : Jvm.MethodName) jdk_89_method_88_code (1 : Nat) (Option.some Jvm.ClassFile.FieldType.boolean)).before args0 about1 = true := code_word (m := ⟨15, 0⟩) (meth := k15m0) (c := k15c0) (by decide +kernel) rfl rfl rfl (by decide +kernel)
set_option maxRecDepth 65536 in
theorem w_c25 : (Jvm.Cond.code ({ cls := "java/lang/Character", name := "isISOControl", desc := "(I)Z" } : Jvm.MethodName) jdk_89_method_89_code (1 : Nat) (Option.some Jvm.ClassFile.FieldType.boolean)).before args0 about1 = true := code_word (m := ⟨15, 1⟩) (meth := k15m1) (c := k15c1) (by decide +kernel) rfl rfl rfl (by decide +kernel)
set_option maxRecDepth 65536 in
theorem w_c26 : (Jvm.Cond.code ({ cls := "java/lang/StringBuilder", name := "append", desc := "(Ljava/lang/String;)Ljava/lang/StringBuilder;" } : Jvm.MethodName) jdk_67_method_7_code (2 : Nat) (Option.some (Jvm.ClassFile.FieldType.object "java/lang/StringBuilder"))).before args0 about1 = true := code_word (m := ⟨12, 2⟩) (meth := k12m2) (c := k12c2) (by decide +kernel) rfl rfl rfl (by decide +kernel)
set_option maxRecDepth 65536 in
theorem w_c27 : (Jvm.Cond.code ({ cls := "java/lang/AbstractStringBuilder", name := "append", desc := "(Ljava/lang/String;)Ljava/lang/AbstractStringBuilder;" } : Jvm.MethodName) jdk_68_method_22_code (3 : Nat) (Option.some (Jvm.ClassFile.FieldType.object "java/lang/AbstractStringBuilder"))).before args0 about1 = true := code_word (m := ⟨11, 6⟩) (meth := k11m6) (c := k11c6) (by decide +kernel) rfl rfl rfl (by decide +kernel)
set_option maxRecDepth 65536 in
theorem w_c28 : (Jvm.Cond.code ({ cls := "java/lang/AbstractStringBuilder", name := "putStringAt", desc := "(ILjava/lang/String;)V" } : Jvm.MethodName) jdk_68_method_73_code (3 : Nat) (Option.none : Option Jvm.ClassFile.FieldType)).before args0 about1 = true := code_word (m := ⟨11, 11⟩) (meth := k11m11) (c := k11c11) (by decide +kernel) rfl rfl rfl (by decide +kernel)
set_option maxRecDepth 65536 in
theorem w_c29 : (Jvm.Cond.code ({ cls := "java/lang/AbstractStringBuilder", name := "inflateIfNeededFor", desc := "(Ljava/lang/String;)V" } : Jvm.MethodName) jdk_68_method_71_code (2 : Nat) (Option.none : Option Jvm.ClassFile.FieldType)).before args0 about1 = true := code_word (m := ⟨11, 10⟩) (meth := k11m10) (c := k11c10) (by decide +kernel) rfl rfl rfl (by decide +kernel)
set_option maxRecDepth 65536 in
theorem w_c30 : (Jvm.Cond.code ({ cls := "java/lang/String", name := "getBytes", desc := "([BIB)V" } : Jvm.MethodName) jdk_42_method_147_code (4 : Nat) (Option.none : Option Jvm.ClassFile.FieldType)).before args0 about1 = true := code_word (m := ⟨7, 6⟩) (meth := k7m6) (c := k7c6) (by decide +kernel) rfl rfl rfl (by decide +kernel)
set_option maxRecDepth 65536 in
theorem w_c31 : (Jvm.Cond.code ({ cls := "java/lang/AbstractStringBuilder", name := "newCapacity", desc := "(I)I" } : Jvm.MethodName) jdk_68_method_10_code (6 : Nat) (Option.some Jvm.ClassFile.FieldType.int)).before args0 about1 = true := code_word (m := ⟨11, 4⟩) (meth := k11m4) (c := k11c4) (by decide +kernel) rfl rfl rfl (by decide +kernel)
set_option maxRecDepth 65536 in
theorem w_c32 : (Jvm.Cond.code ({ cls := "jdk/internal/util/ArraysSupport", name := "newLength", desc := "(III)I" } : Jvm.MethodName) jdk_48_method_27_code (4 : Nat) (Option.some Jvm.ClassFile.FieldType.int)).before args0 about1 = true := code_word (m := ⟨17, 1⟩) (meth := k17m1) (c := k17c1) (by decide +kernel) rfl rfl rfl (by decide +kernel)
set_option maxRecDepth 65536 in
theorem w_c33 : (Jvm.Cond.code ({ cls := "java/lang/Math", name := "max", desc := "(II)I" } : Jvm.MethodName) jdk_29_method_65_code (2 : Nat) (Option.some Jvm.ClassFile.FieldType.int)).before args0 about1 = true := code_word (m := ⟨18, 1⟩) (meth := k18m1) (c := k18c1) (by decide +kernel) rfl rfl rfl (by decide +kernel)
set_option maxRecDepth 65536 in
theorem w_c34 : (Jvm.Cond.code ({ cls := "java/util/Arrays", name := "copyOf", desc := "([BI)[B" } : Jvm.MethodName) jdk_65_method_121_code (3 : Nat) (Option.some (Jvm.ClassFile.FieldType.array Jvm.ClassFile.FieldType.byte))).before args0 about1 = true := code_word (m := ⟨19, 1⟩) (meth := k19m1) (c := k19c1) (by decide +kernel) rfl rfl rfl (by decide +kernel)
set_option maxRecDepth 65536 in
theorem w_c35 : (Jvm.Cond.code ({ cls := "java/lang/Math", name := "min", desc := "(II)I" } : Jvm.MethodName) jdk_29_method_69_code (2 : Nat) (Option.some Jvm.ClassFile.FieldType.int)).before args0 about1 = true := code_word (m := ⟨18, 2⟩) (meth := k18m2) (c := k18c2) (by decide +kernel) rfl rfl rfl (by decide +kernel)
set_option maxRecDepth 65536 in
theorem w_c36 : (Jvm.Cond.code ({ cls := "java/lang/StringBuilder", name := "toString", desc := "()Ljava/lang/String;" } : Jvm.MethodName) jdk_67_method_42_code (1 : Nat) (Option.some (Jvm.ClassFile.FieldType.object "java/lang/String"))).before args0 about1 = true := code_word (m := ⟨12, 4⟩) (meth := k12m4) (c := k12c4) (by decide +kernel) rfl rfl rfl (by decide +kernel)
set_option maxRecDepth 65536 in
theorem w_c37 : (Jvm.Cond.code ({ cls := "java/lang/String", name := "<init>", desc := "(Ljava/lang/StringBuilder;)V" } : Jvm.MethodName) jdk_42_method_53_code (2 : Nat) (Option.none : Option Jvm.ClassFile.FieldType)).before args0 about1 = true := code_word (m := ⟨7, 2⟩) (meth := k7m2) (c := k7c2) (by decide +kernel) rfl rfl rfl (by decide +kernel)
set_option maxRecDepth 65536 in
theorem w_c38 : (Jvm.Cond.code ({ cls := "java/lang/String", name := "<init>", desc := "(Ljava/lang/AbstractStringBuilder;Ljava/lang/Void;)V" } : Jvm.MethodName) jdk_42_method_150_code (5 : Nat) (Option.none : Option Jvm.ClassFile.FieldType)).before args0 about1 = true := code_word (m := ⟨7, 8⟩) (meth := k7m8) (c := k7c8) (by decide +kernel) rfl rfl rfl (by decide +kernel)
set_option maxRecDepth 65536 in
theorem w_c39 : (Jvm.Cond.code ({ cls := "java/lang/AbstractStringBuilder", name := "getValue", desc := "()[B" } : Jvm.MethodName) jdk_68_method_64_code (1 : Nat) (Option.some (Jvm.ClassFile.FieldType.array Jvm.ClassFile.FieldType.byte))).before args0 about1 = true := code_word (m := ⟨11, 8⟩) (meth := k11m8) (c := k11c8) (by decide +kernel) rfl rfl rfl (by decide +kernel)
set_option maxRecDepth 65536 in
theorem w_c40 : (Jvm.Cond.code ({ cls := "java/lang/StringBuilder", name := "length", desc := "()I" } : Jvm.MethodName) jdk_67_method_93_code (1 : Nat) (Option.some Jvm.ClassFile.FieldType.int)).before args0 about1 = true := code_word (m := ⟨12, 5⟩) (meth := k12m5) (c := k12c5) (by decide +kernel) rfl rfl rfl (by decide +kernel)
set_option maxRecDepth 65536 in
theorem w_c41 : (Jvm.Cond.code ({ cls := "java/lang/AbstractStringBuilder", name := "length", desc := "()I" } : Jvm.MethodName) jdk_68_method_6_code (1 : Nat) (Option.some Jvm.ClassFile.FieldType.int)).before args0 about1 = true := code_word (m := ⟨11, 2⟩) (meth := k11m2) (c := k11c2) (by decide +kernel) rfl rfl rfl (by decide +kernel)
set_option maxRecDepth 65536 in
theorem w_c42 : (Jvm.Cond.code ({ cls := "java/util/Arrays", name := "copyOfRange", desc := "([BII)[B" } : Jvm.MethodName) jdk_65_method_132_code (3 : Nat) (Option.some (Jvm.ClassFile.FieldType.array Jvm.ClassFile.FieldType.byte))).before args0 about1 = true := code_word (m := ⟨19, 3⟩) (meth := k19m3) (c := k19c3) (by decide +kernel) rfl rfl rfl (by decide +kernel)
set_option maxRecDepth 65536 in
theorem w_c43 : (Jvm.Cond.code ({ cls := "java/util/Arrays", name := "copyOfRangeByte", desc := "([BII)[B" } : Jvm.MethodName) jdk_65_method_133_code (5 : Nat) (Option.some (Jvm.ClassFile.FieldType.array Jvm.ClassFile.FieldType.byte))).before args0 about1 = true := code_word (m := ⟨19, 4⟩) (meth := k19m4) (c := k19c4) (by decide +kernel) rfl rfl rfl (by decide +kernel)
set_option maxRecDepth 65536 in
theorem w_c44 : (Jvm.Cond.code ({ cls := "java/util/Arrays", name := "checkLength", desc := "(II)V" } : Jvm.MethodName) jdk_65_method_131_code (2 : Nat) (Option.none : Option Jvm.ClassFile.FieldType)).before args0 about1 = true := code_word (m := ⟨19, 2⟩) (meth := k19m2) (c := k19c2) (by decide +kernel) rfl rfl rfl (by decide +kernel)
set_option maxRecDepth 65536 in
theorem w_c45 : (Jvm.Cond.code ({ cls := "com/example/bellwether/bellwether/model/LiteralsQuotePinLaw", name := "same", desc := "(Ljava/lang/String;[CI)Z" } : Jvm.MethodName) method_3_code (3 : Nat) (Option.some Jvm.ClassFile.FieldType.boolean)).before args0 about1 = true := code_word (m := ⟨1, 2⟩) (meth := k1m2) (c := k1c2) (by decide +kernel) rfl rfl rfl (by decide +kernel)
set_option maxRecDepth 65536 in
theorem w_c46 : (Jvm.Cond.code ({ cls := "java/lang/String", name := "valueOf", desc := "(C)Ljava/lang/String;" } : Jvm.MethodName) jdk_42_method_139_code (1 : Nat) (Option.some (Jvm.ClassFile.FieldType.object "java/lang/String"))).before args0 about1 = true := code_word (m := ⟨7, 5⟩) (meth := k7m5) (c := k7c5) (by decide +kernel) rfl rfl rfl (by decide +kernel)
set_option maxRecDepth 65536 in
theorem w_c47 : (Jvm.Cond.code ({ cls := "java/lang/StringLatin1", name := "toBytes", desc := "(C)[B" } : Jvm.MethodName) jdk_43_method_46_code (1 : Nat) (Option.some (Jvm.ClassFile.FieldType.array Jvm.ClassFile.FieldType.byte))).before args0 about1 = true := code_word (m := ⟨13, 3⟩) (meth := k13m3) (c := k13c3) (by decide +kernel) rfl rfl rfl (by decide +kernel)
set_option maxRecDepth 65536 in
theorem w_c48 : (Jvm.Cond.code ({ cls := "java/lang/String", name := "<init>", desc := "([BB)V" } : Jvm.MethodName) jdk_42_method_151_code (3 : Nat) (Option.none : Option Jvm.ClassFile.FieldType)).before args0 about1 = true := code_word (m := ⟨7, 9⟩) (meth := k7m9) (c := k7c9) (by decide +kernel) rfl rfl rfl (by decide +kernel)
set_option maxRecDepth 65536 in
theorem w_c49 : (Jvm.Cond.code ({ cls := "java/lang/StringUTF16", name := "toBytes", desc := "(C)[B" } : Jvm.MethodName) jdk_52_method_24_code (2 : Nat) (Option.some (Jvm.ClassFile.FieldType.array Jvm.ClassFile.FieldType.byte))).before args0 about1 = true := code_word (m := ⟨8, 10⟩) (meth := k8m10) (c := k8c10) (by decide +kernel) rfl rfl rfl (by decide +kernel)
set_option maxRecDepth 65536 in
theorem w_c50 : (Jvm.Cond.code ({ cls := "java/lang/StringUTF16", name := "putChar", desc := "([BII)V" } : Jvm.MethodName) jdk_52_method_4_code (3 : Nat) (Option.none : Option Jvm.ClassFile.FieldType)).before args0 about1 = true := code_word (m := ⟨8, 3⟩) (meth := k8m3) (c := k8c3) (by decide +kernel) rfl rfl rfl (by decide +kernel)
set_option maxRecDepth 65536 in
theorem w_c51 : (Jvm.Cond.code ({ cls := "java/lang/StringUTF16", name := "charAt", desc := "([BI)C" } : Jvm.MethodName) jdk_52_method_83_code (2 : Nat) (Option.some Jvm.ClassFile.FieldType.char)).before args0 about1 = true := code_word (m := ⟨8, 12⟩) (meth := k8m12) (c := k8c12) (by decide +kernel) rfl rfl rfl (by decide +kernel)
set_option maxRecDepth 65536 in
theorem w_c52 : (Jvm.Cond.code ({ cls := "java/lang/StringUTF16", name := "checkIndex", desc := "(I[B)V" } : Jvm.MethodName) jdk_52_method_91_code (2 : Nat) (Option.none : Option Jvm.ClassFile.FieldType)).before args0 about1 = true := code_word (m := ⟨8, 14⟩) (meth := k8m14) (c := k8c14) (by decide +kernel) rfl rfl rfl (by decide +kernel)
set_option maxRecDepth 65536 in
theorem w_c53 : (Jvm.Cond.code ({ cls := "java/lang/StringUTF16", name := "length", desc := "([B)I" } : Jvm.MethodName) jdk_52_method_6_code (1 : Nat) (Option.some Jvm.ClassFile.FieldType.int)).before args0 about1 = true := code_word (m := ⟨8, 5⟩) (meth := k8m5) (c := k8c5) (by decide +kernel) rfl rfl rfl (by decide +kernel)
set_option maxRecDepth 65536 in
theorem w_c54 : (Jvm.Cond.code ({ cls := "java/lang/StringUTF16", name := "getChar", desc := "([BI)C" } : Jvm.MethodName) jdk_52_method_5_code (2 : Nat) (Option.some Jvm.ClassFile.FieldType.char)).before args0 about1 = true := code_word (m := ⟨8, 4⟩) (meth := k8m4) (c := k8c4) (by decide +kernel) rfl rfl rfl (by decide +kernel)
set_option maxRecDepth 65536 in
theorem w_c55 : (Jvm.Cond.code ({ cls := "java/lang/AbstractStringBuilder", name := "inflate", desc := "()V" } : Jvm.MethodName) jdk_68_method_11_code (2 : Nat) (Option.none : Option Jvm.ClassFile.FieldType)).before args0 about1 = true := code_word (m := ⟨11, 5⟩) (meth := k11m5) (c := k11c5) (by decide +kernel) rfl rfl rfl (by decide +kernel)
set_option maxRecDepth 65536 in
theorem w_c56 : (Jvm.Cond.code ({ cls := "java/lang/StringUTF16", name := "newBytesFor", desc := "(I)[B" } : Jvm.MethodName) jdk_52_method_2_code (1 : Nat) (Option.some (Jvm.ClassFile.FieldType.array Jvm.ClassFile.FieldType.byte))).before args0 about1 = true := code_word (m := ⟨8, 1⟩) (meth := k8m1) (c := k8c1) (by decide +kernel) rfl rfl rfl (by decide +kernel)
set_option maxRecDepth 65536 in
theorem w_c57 : (Jvm.Cond.code ({ cls := "java/lang/StringUTF16", name := "newBytesLength", desc := "(I)I" } : Jvm.MethodName) jdk_52_method_3_code (1 : Nat) (Option.some Jvm.ClassFile.FieldType.int)).before args0 about1 = true := code_word (m := ⟨8, 2⟩) (meth := k8m2) (c := k8c2) (by decide +kernel) rfl rfl rfl (by decide +kernel)
set_option maxRecDepth 65536 in
theorem w_c58 : (Jvm.Cond.code ({ cls := "java/lang/StringLatin1", name := "inflate", desc := "([BI[BII)V" } : Jvm.MethodName) jdk_43_method_50_code (5 : Nat) (Option.none : Option Jvm.ClassFile.FieldType)).before args0 about1 = true := code_word (m := ⟨13, 4⟩) (meth := k13m4) (c := k13c4) (by decide +kernel) rfl rfl rfl (by decide +kernel)
set_option maxRecDepth 65536 in
theorem w_c59 : (Jvm.Cond.code ({ cls := "java/lang/StringUTF16", name := "inflate", desc := "([BI[BII)V" } : Jvm.MethodName) jdk_52_method_86_code (6 : Nat) (Option.none : Option Jvm.ClassFile.FieldType)).before args0 about1 = true := code_word (m := ⟨8, 13⟩) (meth := k8m13) (c := k8c13) (by decide +kernel) rfl rfl rfl (by decide +kernel)
set_option maxRecDepth 65536 in
theorem w_c60 : (Jvm.Cond.code ({ cls := "java/lang/StringUTF16", name := "checkBoundsOffCount", desc := "(II[B)V" } : Jvm.MethodName) jdk_52_method_94_code (3 : Nat) (Option.none : Option Jvm.ClassFile.FieldType)).before args0 about1 = true := code_word (m := ⟨8, 15⟩) (meth := k8m15) (c := k8c15) (by decide +kernel) rfl rfl rfl (by decide +kernel)
set_option maxRecDepth 65536 in
theorem w_c61 : (Jvm.Cond.code ({ cls := "java/lang/String", name := "checkBoundsOffCount", desc := "(III)I" } : Jvm.MethodName) jdk_42_method_157_code (3 : Nat) (Option.some Jvm.ClassFile.FieldType.int)).before args0 about1 = true := code_word (m := ⟨7, 13⟩) (meth := k7m13) (c := k7c13) (by decide +kernel) rfl rfl rfl (by decide +kernel)
set_option maxRecDepth 65536 in
theorem w_c62 : (Jvm.Cond.code ({ cls := "jdk/internal/util/Preconditions", name := "checkFromIndexSize", desc := "(IIILjava/util/function/BiFunction;)I" } : Jvm.MethodName) jdk_41_method_13_code (4 : Nat) (Option.some Jvm.ClassFile.FieldType.int)).before args0 about1 = true := code_word (m := ⟨14, 2⟩) (meth := k14m2) (c := k14c2) (by decide +kernel) rfl rfl rfl (by decide +kernel)
set_option maxRecDepth 65536 in
theorem w_c63 : (Jvm.Cond.code ({ cls := "java/lang/StringUTF16", name := "putCharSB", desc := "([BII)V" } : Jvm.MethodName) jdk_52_method_71_code (3 : Nat) (Option.none : Option Jvm.ClassFile.FieldType)).before args0 about1 = true := code_word (m := ⟨8, 11⟩) (meth := k8m11) (c := k8c11) (by decide +kernel) rfl rfl rfl (by decide +kernel)
set_option maxRecDepth 65536 in
theorem w_c64 : (Jvm.Cond.code ({ cls := "java/lang/StringUTF16", name := "toBytes", desc := "([CII)[B" } : Jvm.MethodName) jdk_52_method_14_code (5 : Nat) (Option.some (Jvm.ClassFile.FieldType.array Jvm.ClassFile.FieldType.byte))).before args0 about1 = true := code_word (m := ⟨8, 6⟩) (meth := k8m6) (c := k8c6) (by decide +kernel) rfl rfl rfl (by decide +kernel)
def codes1 : List Jvm.Cond := [Jvm.Cond.code x code maxLocals ret, Jvm.Cond.code ({ cls := "java/lang/String", name := "<init>", desc := "([C)V" } : Jvm.MethodName) jdk_42_method_3_code (2 : Nat) (Option.none : Option Jvm.ClassFile.FieldType), Jvm.Cond.code ({ cls := "java/lang/String", name := "<init>", desc := "([CIILjava/lang/Void;)V" } : Jvm.MethodName) jdk_42_method_149_code (6 : Nat) (Option.none : Option Jvm.ClassFile.FieldType), Jvm.Cond.code ({ cls := "java/lang/Object", name := "<init>", desc := "()V" } : Jvm.MethodName) object_method_1_code (1 : Nat) (Option.none : Option Jvm.ClassFile.FieldType), Jvm.Cond.code ({ cls := "java/lang/StringUTF16", name := "compress", desc := "([CII)[B" } : Jvm.MethodName) jdk_52_method_16_code (6 : Nat) (Option.some (Jvm.ClassFile.FieldType.array Jvm.ClassFile.FieldType.byte)), Jvm.Cond.code ({ cls := "java/lang/StringUTF16", name := "compress", desc := "([CI[BII)I" } : Jvm.MethodName) jdk_52_method_21_code (7 : Nat) (Option.some Jvm.ClassFile.FieldType.int), Jvm.Cond.code ({ cls := "java/lang/StringUTF16", name := "coderFromArrayLen", desc := "([BI)B" } : Jvm.MethodName) jdk_52_method_15_code (2 : Nat) (Option.some Jvm.ClassFile.FieldType.byte), Jvm.Cond.code ({ cls := "com/example/bellwether/bellwether/model/LiteralsQuotePinLaw", name := "put", desc := "([CIC)I" } : Jvm.MethodName) method_5_code (3 : Nat) (Option.some Jvm.ClassFile.FieldType.int), Jvm.Cond.code ({ cls := "com/example/bellwether/bellwether/model/LiteralsQuotePinLaw", name := "hex", desc := "(I)C" } : Jvm.MethodName) method_4_code (1 : Nat) (Option.some Jvm.ClassFile.FieldType.char), Jvm.Cond.code ({ cls := "com/example/bellwether/bellwether/model/Literals", name := "quote", desc := "(Ljava/lang/String;)Ljava/lang/String;" } : Jvm.MethodName) prog_10_method_2_code (4 : Nat) (Option.some (Jvm.ClassFile.FieldType.object "java/lang/String")), Jvm.Cond.code ({ cls := "java/lang/String", name := "length", desc := "()I" } : Jvm.MethodName) jdk_42_method_54_code (1 : Nat) (Option.some Jvm.ClassFile.FieldType.int), Jvm.Cond.code ({ cls := "java/lang/String", name := "coder", desc := "()B" } : Jvm.MethodName) jdk_42_method_152_code (1 : Nat) (Option.some Jvm.ClassFile.FieldType.byte), Jvm.Cond.code ({ cls := "java/lang/StringBuilder", name := "<init>", desc := "(I)V" } : Jvm.MethodName) jdk_67_method_2_code (2 : Nat) (Option.none : Option Jvm.ClassFile.FieldType), Jvm.Cond.code ({ cls := "java/lang/AbstractStringBuilder", name := "<init>", desc := "(I)V" } : Jvm.MethodName) jdk_68_method_2_code (2 : Nat) (Option.none : Option Jvm.ClassFile.FieldType), Jvm.Cond.code ({ cls := "java/lang/StringBuilder", name := "append", desc := "(C)Ljava/lang/StringBuilder;" } : Jvm.MethodName) jdk_67_method_14_code (2 : Nat) (Option.some (Jvm.ClassFile.FieldType.object "java/lang/StringBuilder")), Jvm.Cond.code ({ cls := "java/lang/AbstractStringBuilder", name := "append", desc := "(C)Ljava/lang/AbstractStringBuilder;" } : Jvm.MethodName) jdk_68_method_31_code (2 : Nat) (Option.some (Jvm.ClassFile.FieldType.object "java/lang/AbstractStringBuilder")), Jvm.Cond.code ({ cls := "java/lang/AbstractStringBuilder", name := "ensureCapacityInternal", desc := "(I)V" } : Jvm.MethodName) jdk_68_method_9_code (3 : Nat) (Option.none : Option Jvm.ClassFile.FieldType), Jvm.Cond.code ({ cls := "java/lang/AbstractStringBuilder", name := "isLatin1", desc := "()Z" } : Jvm.MethodName) jdk_68_method_68_code (1 : Nat) (Option.some Jvm.ClassFile.FieldType.boolean), Jvm.Cond.code ({ cls := "java/lang/StringLatin1", name := "canEncode", desc := "(C)Z" } : Jvm.MethodName) jdk_43_method_3_code (1 : Nat) (Option.some Jvm.ClassFile.FieldType.boolean), Jvm.Cond.code ({ cls := "java/lang/String", name := "charAt", desc := "(I)C" } : Jvm.MethodName) jdk_42_method_56_code (2 : Nat) (Option.some Jvm.ClassFile.FieldType.char), Jvm.Cond.code ({ cls := "java/lang/String", name := "isLatin1", desc := "()Z" } : Jvm.MethodName) jdk_42_method_154_code (1 : Nat) (Option.some Jvm.ClassFile.FieldType.boolean), Jvm.Cond.code ({ cls := "java/lang/StringLatin1", name := "charAt", desc := "([BI)C" } : Jvm.MethodName) jdk_43_method_2_code (2 : Nat) (Option.some Jvm.ClassFile.FieldType.char), Jvm.Cond.code ({ cls := "java/lang/String", name := "checkIndex", desc := "(II)V" } : Jvm.MethodName) jdk_42_method_155_code (2 : Nat) (Option.none : Option Jvm.ClassFile.FieldType), Jvm.Cond.code ({ cls := "jdk/internal/util/Preconditions", name := "checkIndex", desc := "(IILjava/util/function/BiFunction;)I" } : Jvm.MethodName) jdk_41_method_11_code (3 : Nat) (Option.some Jvm.ClassFile.FieldType.int), Jvm.Cond.code ({ cls := "java/lang/Character", name := "isISOControl", desc := "(C)Z" } : Jvm.MethodName) jdk_89_method_88_code (1 : Nat) (Option.some Jvm.ClassFile.FieldType.boolean), Jvm.Cond.code ({ cls := "java/lang/Character", name := "isISOControl", desc := "(I)Z" } : Jvm.MethodName) jdk_89_method_89_code (1 : Nat) (Option.some Jvm.ClassFile.FieldType.boolean), Jvm.Cond.code ({ cls := "java/lang/StringBuilder", name := "append", desc := "(Ljava/lang/String;)Ljava/lang/StringBuilder;" } : Jvm.MethodName) jdk_67_method_7_code (2 : Nat) (Option.some (Jvm.ClassFile.FieldType.object "java/lang/StringBuilder")), Jvm.Cond.code ({ cls := "java/lang/AbstractStringBuilder", name := "append", desc := "(Ljava/lang/String;)Ljava/lang/AbstractStringBuilder;" } : Jvm.MethodName) jdk_68_method_22_code (3 : Nat) (Option.some (Jvm.ClassFile.FieldType.object "java/lang/AbstractStringBuilder")), Jvm.Cond.code ({ cls := "java/lang/AbstractStringBuilder", name := "putStringAt", desc := "(ILjava/lang/String;)V" } : Jvm.MethodName) jdk_68_method_73_code (3 : Nat) (Option.none : Option Jvm.ClassFile.FieldType), Jvm.Cond.code ({ cls := "java/lang/AbstractStringBuilder", name := "inflateIfNeededFor", desc := "(Ljava/lang/String;)V" } : Jvm.MethodName) jdk_68_method_71_code (2 : Nat) (Option.none : Option Jvm.ClassFile.FieldType), Jvm.Cond.code ({ cls := "java/lang/String", name := "getBytes", desc := "([BIB)V" } : Jvm.MethodName) jdk_42_method_147_code (4 : Nat) (Option.none : Option Jvm.ClassFile.FieldType), Jvm.Cond.code ({ cls := "java/lang/AbstractStringBuilder", name := "newCapacity", desc := "(I)I" } : Jvm.MethodName) jdk_68_method_10_code (6 : Nat) (Option.some Jvm.ClassFile.FieldType.int), Jvm.Cond.code ({ cls := "jdk/internal/util/ArraysSupport", name := "newLength", desc := "(III)I" } : Jvm.MethodName) jdk_48_method_27_code (4 : Nat) (Option.some Jvm.ClassFile.FieldType.int), Jvm.Cond.code ({ cls := "java/lang/Math", name := "max", desc := "(II)I" } : Jvm.MethodName) jdk_29_method_65_code (2 : Nat) (Option.some Jvm.ClassFile.FieldType.int), Jvm.Cond.code ({ cls := "java/util/Arrays", name := "copyOf", desc := "([BI)[B" } : Jvm.MethodName) jdk_65_method_121_code (3 : Nat) (Option.some (Jvm.ClassFile.FieldType.array Jvm.ClassFile.FieldType.byte)), Jvm.Cond.code ({ cls := "java/lang/Math", name := "min", desc := "(II)I" } : Jvm.MethodName) jdk_29_method_69_code (2 : Nat) (Option.some Jvm.ClassFile.FieldType.int), Jvm.Cond.code ({ cls := "java/lang/StringBuilder", name := "toString", desc := "()Ljava/lang/String;" } : Jvm.MethodName) jdk_67_method_42_code (1 : Nat) (Option.some (Jvm.ClassFile.FieldType.object "java/lang/String")), Jvm.Cond.code ({ cls := "java/lang/String", name := "<init>", desc := "(Ljava/lang/StringBuilder;)V" } : Jvm.MethodName) jdk_42_method_53_code (2 : Nat) (Option.none : Option Jvm.ClassFile.FieldType), Jvm.Cond.code ({ cls := "java/lang/String", name := "<init>", desc := "(Ljava/lang/AbstractStringBuilder;Ljava/lang/Void;)V" } : Jvm.MethodName) jdk_42_method_150_code (5 : Nat) (Option.none : Option Jvm.ClassFile.FieldType), Jvm.Cond.code ({ cls := "java/lang/AbstractStringBuilder", name := "getValue", desc := "()[B" } : Jvm.MethodName) jdk_68_method_64_code (1 : Nat) (Option.some (Jvm.ClassFile.FieldType.array Jvm.ClassFile.FieldType.byte)), Jvm.Cond.code ({ cls := "java/lang/StringBuilder", name := "length", desc := "()I" } : Jvm.MethodName) jdk_67_method_93_code (1 : Nat) (Option.some Jvm.ClassFile.FieldType.int), Jvm.Cond.code ({ cls := "java/lang/AbstractStringBuilder", name := "length", desc := "()I" } : Jvm.MethodName) jdk_68_method_6_code (1 : Nat) (Option.some Jvm.ClassFile.FieldType.int), Jvm.Cond.code ({ cls := "java/util/Arrays", name := "copyOfRange", desc := "([BII)[B" } : Jvm.MethodName) jdk_65_method_132_code (3 : Nat) (Option.some (Jvm.ClassFile.FieldType.array Jvm.ClassFile.FieldType.byte)), Jvm.Cond.code ({ cls := "java/util/Arrays", name := "copyOfRangeByte", desc := "([BII)[B" } : Jvm.MethodName) jdk_65_method_133_code (5 : Nat) (Option.some (Jvm.ClassFile.FieldType.array Jvm.ClassFile.FieldType.byte)), Jvm.Cond.code ({ cls := "java/util/Arrays", name := "checkLength", desc := "(II)V" } : Jvm.MethodName) jdk_65_method_131_code (2 : Nat) (Option.none : Option Jvm.ClassFile.FieldType), Jvm.Cond.code ({ cls := "com/example/bellwether/bellwether/model/LiteralsQuotePinLaw", name := "same", desc := "(Ljava/lang/String;[CI)Z" } : Jvm.MethodName) method_3_code (3 : Nat) (Option.some Jvm.ClassFile.FieldType.boolean), Jvm.Cond.code ({ cls := "java/lang/String", name := "valueOf", desc := "(C)Ljava/lang/String;" } : Jvm.MethodName) jdk_42_method_139_code (1 : Nat) (Option.some (Jvm.ClassFile.FieldType.object "java/lang/String")), Jvm.Cond.code ({ cls := "java/lang/StringLatin1", name := "toBytes", desc := "(C)[B" } : Jvm.MethodName) jdk_43_method_46_code (1 : Nat) (Option.some (Jvm.ClassFile.FieldType.array Jvm.ClassFile.FieldType.byte)), Jvm.Cond.code ({ cls := "java/lang/String", name := "<init>", desc := "([BB)V" } : Jvm.MethodName) jdk_42_method_151_code (3 : Nat) (Option.none : Option Jvm.ClassFile.FieldType), Jvm.Cond.code ({ cls := "java/lang/StringUTF16", name := "toBytes", desc := "(C)[B" } : Jvm.MethodName) jdk_52_method_24_code (2 : Nat) (Option.some (Jvm.ClassFile.FieldType.array Jvm.ClassFile.FieldType.byte)), Jvm.Cond.code ({ cls := "java/lang/StringUTF16", name := "putChar", desc := "([BII)V" } : Jvm.MethodName) jdk_52_method_4_code (3 : Nat) (Option.none : Option Jvm.ClassFile.FieldType), Jvm.Cond.code ({ cls := "java/lang/StringUTF16", name := "charAt", desc := "([BI)C" } : Jvm.MethodName) jdk_52_method_83_code (2 : Nat) (Option.some Jvm.ClassFile.FieldType.char), Jvm.Cond.code ({ cls := "java/lang/StringUTF16", name := "checkIndex", desc := "(I[B)V" } : Jvm.MethodName) jdk_52_method_91_code (2 : Nat) (Option.none : Option Jvm.ClassFile.FieldType), Jvm.Cond.code ({ cls := "java/lang/StringUTF16", name := "length", desc := "([B)I" } : Jvm.MethodName) jdk_52_method_6_code (1 : Nat) (Option.some Jvm.ClassFile.FieldType.int), Jvm.Cond.code ({ cls := "java/lang/StringUTF16", name := "getChar", desc := "([BI)C" } : Jvm.MethodName) jdk_52_method_5_code (2 : Nat) (Option.some Jvm.ClassFile.FieldType.char), Jvm.Cond.code ({ cls := "java/lang/AbstractStringBuilder", name := "inflate", desc := "()V" } : Jvm.MethodName) jdk_68_method_11_code (2 : Nat) (Option.none : Option Jvm.ClassFile.FieldType), Jvm.Cond.code ({ cls := "java/lang/StringUTF16", name := "newBytesFor", desc := "(I)[B" } : Jvm.MethodName) jdk_52_method_2_code (1 : Nat) (Option.some (Jvm.ClassFile.FieldType.array Jvm.ClassFile.FieldType.byte)), Jvm.Cond.code ({ cls := "java/lang/StringUTF16", name := "newBytesLength", desc := "(I)I" } : Jvm.MethodName) jdk_52_method_3_code (1 : Nat) (Option.some Jvm.ClassFile.FieldType.int), Jvm.Cond.code ({ cls := "java/lang/StringLatin1", name := "inflate", desc := "([BI[BII)V" } : Jvm.MethodName) jdk_43_method_50_code (5 : Nat) (Option.none : Option Jvm.ClassFile.FieldType), Jvm.Cond.code ({ cls := "java/lang/StringUTF16", name := "inflate", desc := "([BI[BII)V" } : Jvm.MethodName) jdk_52_method_86_code (6 : Nat) (Option.none : Option Jvm.ClassFile.FieldType), Jvm.Cond.code ({ cls := "java/lang/StringUTF16", name := "checkBoundsOffCount", desc := "(II[B)V" } : Jvm.MethodName) jdk_52_method_94_code (3 : Nat) (Option.none : Option Jvm.ClassFile.FieldType), Jvm.Cond.code ({ cls := "java/lang/String", name := "checkBoundsOffCount", desc := "(III)I" } : Jvm.MethodName) jdk_42_method_157_code (3 : Nat) (Option.some Jvm.ClassFile.FieldType.int), Jvm.Cond.code ({ cls := "jdk/internal/util/Preconditions", name := "checkFromIndexSize", desc := "(IIILjava/util/function/BiFunction;)I" } : Jvm.MethodName) jdk_41_method_13_code (4 : Nat) (Option.some Jvm.ClassFile.FieldType.int), Jvm.Cond.code ({ cls := "java/lang/StringUTF16", name := "putCharSB", desc := "([BII)V" } : Jvm.MethodName) jdk_52_method_71_code (3 : Nat) (Option.none : Option Jvm.ClassFile.FieldType), Jvm.Cond.code ({ cls := "java/lang/StringUTF16", name := "toBytes", desc := "([CII)[B" } : Jvm.MethodName) jdk_52_method_14_code (5 : Nat) (Option.some (Jvm.ClassFile.FieldType.array Jvm.ClassFile.FieldType.byte))]
set_option maxRecDepth 65536 in
theorem codes_eq : words1.filter isCode = codes1 := rfl
theorem w_codes : ∀ c ∈ words1.filter isCode, c.before args0 about1 = true := by
  rw [codes_eq]
  intro c hc
  simp only [codes1, List.mem_cons, List.not_mem_nil, or_false] at hc
  rcases hc with rfl | rfl | rfl | rfl | rfl | rfl | rfl | rfl | rfl | rfl | rfl | rfl | rfl | rfl | rfl | rfl | rfl | rfl | rfl | rfl | rfl | rfl | rfl | rfl | rfl | rfl | rfl | rfl | rfl | rfl | rfl | rfl | rfl | rfl | rfl | rfl | rfl | rfl | rfl | rfl | rfl | rfl | rfl | rfl | rfl | rfl | rfl | rfl | rfl | rfl | rfl | rfl | rfl | rfl | rfl | rfl | rfl | rfl | rfl | rfl | rfl | rfl | rfl | rfl | rfl
  · exact w_c0
  · exact w_c1
  · exact w_c2
  · exact w_c3
  · exact w_c4
  · exact w_c5
  · exact w_c6
  · exact w_c7
  · exact w_c8
  · exact w_c9
  · exact w_c10
  · exact w_c11
  · exact w_c12
  · exact w_c13
  · exact w_c14
  · exact w_c15
  · exact w_c16
  · exact w_c17
  · exact w_c18
  · exact w_c19
  · exact w_c20
  · exact w_c21
  · exact w_c22
  · exact w_c23
  · exact w_c24
  · exact w_c25
  · exact w_c26
  · exact w_c27
  · exact w_c28
  · exact w_c29
  · exact w_c30
  · exact w_c31
  · exact w_c32
  · exact w_c33
  · exact w_c34
  · exact w_c35
  · exact w_c36
  · exact w_c37
  · exact w_c38
  · exact w_c39
  · exact w_c40
  · exact w_c41
  · exact w_c42
  · exact w_c43
  · exact w_c44
  · exact w_c45
  · exact w_c46
  · exact w_c47
  · exact w_c48
  · exact w_c49
  · exact w_c50
  · exact w_c51
  · exact w_c52
  · exact w_c53
  · exact w_c54
  · exact w_c55
  · exact w_c56
  · exact w_c57
  · exact w_c58
  · exact w_c59
  · exact w_c60
  · exact w_c61
  · exact w_c62
  · exact w_c63
  · exact w_c64
set_option maxRecDepth 65536 in
theorem w_t1 : (words1.take 24).all (fun c => isCode c || c.before args0 about1) = true := by decide +kernel
set_option maxRecDepth 65536 in
theorem w_t2 : ((words1.drop 24).take 24).all (fun c => isCode c || c.before args0 about1) = true := by decide +kernel
set_option maxRecDepth 65536 in
theorem w_t3 : (((words1.drop 24).drop 24).take 24).all (fun c => isCode c || c.before args0 about1) = true := by decide +kernel
set_option maxRecDepth 65536 in
theorem w_t4 : ((((words1.drop 24).drop 24).drop 24).take 24).all (fun c => isCode c || c.before args0 about1) = true := by decide +kernel
set_option maxRecDepth 65536 in
theorem w_t5 : (((((words1.drop 24).drop 24).drop 24).drop 24).take 24).all (fun c => isCode c || c.before args0 about1) = true := by decide +kernel
set_option maxRecDepth 65536 in
theorem w_t6 : ((((((words1.drop 24).drop 24).drop 24).drop 24).drop 24).take 24).all (fun c => isCode c || c.before args0 about1) = true := by decide +kernel
set_option maxRecDepth 65536 in
theorem w_t7 : (((((((words1.drop 24).drop 24).drop 24).drop 24).drop 24).drop 24).take 24).all (fun c => isCode c || c.before args0 about1) = true := by decide +kernel
set_option maxRecDepth 65536 in
theorem w_t8 : ((((((((words1.drop 24).drop 24).drop 24).drop 24).drop 24).drop 24).drop 24).take 24).all (fun c => isCode c || c.before args0 about1) = true := by decide +kernel
set_option maxRecDepth 65536 in
theorem w_t9 : (((((((((words1.drop 24).drop 24).drop 24).drop 24).drop 24).drop 24).drop 24).drop 24).take 24).all (fun c => isCode c || c.before args0 about1) = true := by decide +kernel
set_option maxRecDepth 65536 in
theorem w_t10 : ((((((((((words1.drop 24).drop 24).drop 24).drop 24).drop 24).drop 24).drop 24).drop 24).drop 24).take 24).all (fun c => isCode c || c.before args0 about1) = true := by decide +kernel
set_option maxRecDepth 65536 in
theorem w_t11 : (((((((((((words1.drop 24).drop 24).drop 24).drop 24).drop 24).drop 24).drop 24).drop 24).drop 24).drop 24).take 24).all (fun c => isCode c || c.before args0 about1) = true := by decide +kernel
set_option maxRecDepth 65536 in
theorem w_t12 : ((((((((((((words1.drop 24).drop 24).drop 24).drop 24).drop 24).drop 24).drop 24).drop 24).drop 24).drop 24).drop 24).take 24).all (fun c => isCode c || c.before args0 about1) = true := by decide +kernel
set_option maxRecDepth 65536 in
theorem w_t13 : ((((((((((((words1.drop 24).drop 24).drop 24).drop 24).drop 24).drop 24).drop 24).drop 24).drop 24).drop 24).drop 24).drop 24).all (fun c => isCode c || c.before args0 about1) = true := by decide +kernel
theorem w_tables : (allAtoms (Jvm.Cond.code x code maxLocals ret :: tables_1)).before args0 about1 = true := by
  rw [allAtoms_all]
  show words1.all (fun c => c.before args0 about1) = true
  refine all_split ?_ w_codes
  rw [← List.take_append_drop 24 words1, List.all_append, w_t1, ← List.take_append_drop 24 (words1.drop 24), List.all_append, w_t2, ← List.take_append_drop 24 ((words1.drop 24).drop 24), List.all_append, w_t3, ← List.take_append_drop 24 (((words1.drop 24).drop 24).drop 24), List.all_append, w_t4, ← List.take_append_drop 24 ((((words1.drop 24).drop 24).drop 24).drop 24), List.all_append, w_t5, ← List.take_append_drop 24 (((((words1.drop 24).drop 24).drop 24).drop 24).drop 24), List.all_append, w_t6, ← List.take_append_drop 24 ((((((words1.drop 24).drop 24).drop 24).drop 24).drop 24).drop 24), List.all_append, w_t7, ← List.take_append_drop 24 (((((((words1.drop 24).drop 24).drop 24).drop 24).drop 24).drop 24).drop 24), List.all_append, w_t8, ← List.take_append_drop 24 ((((((((words1.drop 24).drop 24).drop 24).drop 24).drop 24).drop 24).drop 24).drop 24), List.all_append, w_t9, ← List.take_append_drop 24 (((((((((words1.drop 24).drop 24).drop 24).drop 24).drop 24).drop 24).drop 24).drop 24).drop 24), List.all_append, w_t10, ← List.take_append_drop 24 ((((((((((words1.drop 24).drop 24).drop 24).drop 24).drop 24).drop 24).drop 24).drop 24).drop 24).drop 24), List.all_append, w_t11, ← List.take_append_drop 24 (((((((((((words1.drop 24).drop 24).drop 24).drop 24).drop 24).drop 24).drop 24).drop 24).drop 24).drop 24).drop 24), List.all_append, w_t12, w_t13]
  rfl
set_option maxRecDepth 65536 in
theorem w_rest : rest_1_c.before args0 about1 = true := by decide +kernel
set_option maxRecDepth 65536 in
theorem w_case : (Jvm.Cond.and given_1 narrow_1).before args0 about1 = true := by decide +kernel
set_option maxRecDepth 65536 in
theorem w_consts : constsHeld consts_1 about1 := Jvm.Lit.constsHeldB_iff.mp (by decide +kernel)
theorem w_applies : (headSpec (Jvm.Cond.code x code maxLocals ret :: tables_1) room_1).applies x e0.platform about1 = true :=
  (Spec.applies_iff w_frames).mpr ⟨w_running, w_runnable, w_alone, w_named, w_hears, w_ripe, w_room, w_tables⟩
theorem atStart : AtStart classFile x code maxLocals ret World_1 tables_1 room_1 Calls_1 rest_1 Pre_1 launch0 p0 e0 about1 theMethod args0 below0 :=
  ⟨lists_1, trivial, launch0.admits_env _ _ _, launch0.least_env, fairChoices_fair.cas, fairChoices_fair.clock, w_frames, w_args, w_heap, w_applies, ⟨w_consts, trivial⟩, w_rest, w_case⟩
end start1
theorem witness_1 : WitnessClaimed_1 := ⟨start1.p0, start1.e0, start1.about1, start1.theMethod, start1.args0, start1.below0, start1.atStart⟩
end Jvm.Pilot.@@N@@
