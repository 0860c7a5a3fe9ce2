import JvmDerived
import JvmDerived.Pilot.@@N@@Statement
import JvmDerived.Pilot.@@N@@Code
set_option linter.unusedVariables false
set_option linter.unusedSimpArgs false
namespace Jvm.Pilot.@@N@@
open Jvm Jvm.ClassFile Sem Op Lib Jvm.Free Jvm.Stand Jvm.LawKit Jvm.RoadKit Bundle Jvm.Pilot.@@N@@.Jvm.D

/-! ## own_: from here the walk goes on; said backwards -/
abbrev Ctx := Program × Launch × Env × State × MethodId × Array Value × List Frame × Method × Code
abbrev kP (K : Ctx) : Program := K.1
abbrev kL (K : Ctx) : Launch := K.2.1
abbrev kE (K : Ctx) : Env := K.2.2.1
abbrev kS (K : Ctx) : State := K.2.2.2.1
abbrev kM (K : Ctx) : MethodId := K.2.2.2.2.1
abbrev kA (K : Ctx) : Array Value := K.2.2.2.2.2.1
abbrev kB (K : Ctx) : List Frame := K.2.2.2.2.2.2.1
abbrev kI (K : Ctx) : Method := K.2.2.2.2.2.2.2.1
abbrev kC (K : Ctx) : Code := K.2.2.2.2.2.2.2.2
/-- from pc, with these locals and this stack, over the heap h: the body ends, and Q says what it returns and leaves; only cells from n0 on are written -/
def Go (K : Ctx) (R : Room) (n0 : Nat) (B : State → List Loc → Prop) (Q : Option Value → Heap → Prop) (h : Heap) (cells slots pc : Nat) (Ls : List Slot) (st : List Value) : Prop :=
  ∀ (T : State) (locs : List Loc), Stand (kP K) (kL K) (kE K) R (kS K) (kM K) (kA K) (kB K) (kI K) (kC K) T locs cells slots → Fr n0 locs → T.heap = h →
    ∃ (s₂ : State) (v : Option Value) (L : List Loc), Steps (kP K).tables (kE K) (kB K) (T.setTop (mkF (kM K) pc ⟨Ls⟩ st)) s₂ ∧ s₂.status = .running ∧ Ended s₂ (kB K) (.returned v) ∧ Q v s₂.heap ∧ Fr n0 L ∧ B s₂ L
/-- the frame of an end -/
abbrev nB (s : State) (R : Room) (s₂ : State) (L : List Loc) : Prop := s.WarmedH s₂.vm ∧ s.sameButNew ({ s₂ with vm := s.vm } : State) L R.cells R.slots
def Cx (K : Ctx) (Z : State) (own : String) (bs : ByteArray) (mx : Nat) (rt : Option FieldType) (nm : String) : Prop :=
  (kP K).tables.exec = Jvm.exec ∧ (kC K).code = bs ∧ (kC K).maxLocals = mx ∧ (kS K).vm.findClass own = some (kM K).cls ∧ (kI K).name = nm ∧ (kI K).sig.returnType = rt ∧ (kI K).locks = false ∧ Z.Warmed39 (kS K).vm
/-- a method's contract, at these arguments and this heap -/
def Con (l : Launch) (y : MethodName) (bs : ByteArray) (mx : Nat) (rt : Option FieldType) (ws : List Jvm.Cond) (rm : Room) (Z : State) (n0 : Nat) (as : Array Value) (h : Heap) (Q : Option Value → Heap → Prop) : Prop :=
  MetFree l y (head1 (Jvm.Cond.code y bs mx rt :: ws) rm) (fun a U => a = as ∧ Z.Warmed39 U.vm ∧ U.heap = h) (fun _ _ _ _ _ => True)
    (fun _ U o U' => ∃ v L, o = .returned v ∧ (Q v U'.heap ∧ Fr n0 L ∧ h.size ≤ U'.heap.size) ∧ FrameEnd U o U' L rm.cells rm.slots)
def qI (P : Int32 → Heap → Prop) : Option Value → Heap → Prop := fun v h => ∃ z, v = some (.int z) ∧ P z h
def qJ (P : Int64 → Heap → Prop) : Option Value → Heap → Prop := fun v h => ∃ z, v = some (.long z) ∧ P z h
def qA (P : Addr → Heap → Prop) : Option Value → Heap → Prop := fun v h => ∃ z, v = some (.ref z) ∧ P z h
def qV (P : Heap → Prop) : Option Value → Heap → Prop := fun v h => v = none ∧ P h
theorem con_of_go {l : Launch} {Z : State} {y : MethodName} {bs : ByteArray} {mx : Nat} {rt : Option FieldType} {ws : List Jvm.Cond} {rm : Room} {as : Array Value} {h : Heap} {n0 : Nat} {Q : Option Value → Heap → Prop} {Ls : List Slot}
    (hp : plainFor y = true) (hLs : ∀ m, entryFrame m as mx = mkF m 0 ⟨Ls⟩ []) (G : ∀ K : Ctx, kL K = l → Cx K Z y.cls bs mx rt y.name → Go K rm n0 (nB (kS K) rm) Q h 0 0 0 Ls []) : Con l y bs mx rt ws rm Z n0 as h Q := by
  refine MetFree.of_bodySF hp hisR ?_
  intro p e s m args below meth c s₁ Bd hml hP hK
  obtain ⟨rfl, hZ, hh⟩ := hP
  obtain ⟨s₂, v, L, h1, h2, h3, h4, h5, h6, h7⟩ := G (p, l, e, s, m, args, below, meth, c) rfl ⟨Bd.exec, Bd.bytes, hml, findClass_of_methodNamed Bd.named, (name_of_methodNamed Bd.named Bd.method).1, Bd.returns, Bd.notSynchronized, hZ⟩ s₁ [] (Stand.of_body Bd) (Fr.nil n0) (by rw [← hh, Bd.state]; rfl)
  exact ⟨s₂, .returned v, castTop (hLs m) h1, h2, h3, v, L, rfl, ⟨h4, h5, by rw [← hh]; exact h7.2.1⟩, ⟨v, rfl⟩, h6, h7⟩
theorem Con.mono {l : Launch} {Z : State} {y : MethodName} {bs : ByteArray} {mx : Nat} {rt : Option FieldType} {ws : List Jvm.Cond} {rm : Room} {as : Array Value} {h : Heap} {n0 : Nat} {Q Q' : Option Value → Heap → Prop}
    (C : Con l y bs mx rt ws rm Z n0 as h Q) (q : ∀ v h, Q v h → Q' v h) : Con l y bs mx rt ws rm Z n0 as h Q' := by
  intro p e ha hc hk s m args below hf happ hP hK
  obtain ⟨n, o, h1, h2, h3, v, L, h4, ⟨h5, h6⟩, h7⟩ := C p e ha hc hk s m args below hf happ hP hK
  exact ⟨n, o, h1, h2, h3, v, L, h4, ⟨q _ _ h5, h6⟩, h7⟩
section
variable {K : Ctx} {R : Room} {n0 : Nat} {B : State → List Loc → Prop} {Q : Option Value → Heap → Prop} {h : Heap} {cells slots pc pc' : Nat} {Ls Ls' : List Slot} {st st' rest : List Value} {Z : State} {own : String} {bs : ByteArray} {mx : Nat} {rt : Option FieldType} {nm : String} {a0 : Array Value}
theorem Go.grow {cells' slots' : Nat} (G : Go K R n0 B Q h cells' slots' pc Ls st) (h1 : cells ≤ cells') (h2 : slots ≤ slots') : Go K R n0 B Q h cells slots pc Ls st :=
  fun T locs X N eT => G T locs { X with same := X.same.mono h1 h2 } N eT
theorem Go.step (H : ∀ T : State, At T (kM K) (kC K) (kB K) → ∀ target, Steps (kP K).tables (kE K) (kB K) (T.setTop (mkF (kM K) pc' ⟨Ls'⟩ st')) target → Steps (kP K).tables (kE K) (kB K) (T.setTop (mkF (kM K) pc ⟨Ls⟩ st)) target) (G : Go K R n0 B Q h cells slots pc' Ls' st') : Go K R n0 B Q h cells slots pc Ls st := by
  intro T locs X N eT
  obtain ⟨s₂, v, L, h1, r⟩ := G T locs X N eT
  exact ⟨s₂, v, L, H T X.here _ h1, r⟩
theorem Go.stepX (H : ∀ (T : State) (locs : List Loc), Stand (kP K) (kL K) (kE K) R (kS K) (kM K) (kA K) (kB K) (kI K) (kC K) T locs cells slots → T.heap = h → ∀ target, Steps (kP K).tables (kE K) (kB K) (T.setTop (mkF (kM K) pc' ⟨Ls'⟩ st')) target → Steps (kP K).tables (kE K) (kB K) (T.setTop (mkF (kM K) pc ⟨Ls⟩ st)) target) (G : Go K R n0 B Q h cells slots pc' Ls' st') : Go K R n0 B Q h cells slots pc Ls st := by
  intro T locs X N eT
  obtain ⟨s₂, v, L, h1, r⟩ := G T locs X N eT
  exact ⟨s₂, v, L, H T locs X eT _ h1, r⟩
theorem g_iloadN (hK : Cx K Z own bs mx rt nm) {k : Fin 4} {v : Int32} (hd : decode bs pc = .ok (.iload_n k, 1)) (hl : Ls[k.val]? = some (.val (.int v))) (G : Go K R n0 B Q h cells slots (pc + 1) Ls (.int v :: st)) : Go K R n0 B Q h cells slots pc Ls st :=
  G.step fun T A t S => XS.iloadN A hK.1 rfl (hb hK.2.1 hd) (by simpa using hl) S
theorem g_iload (hK : Cx K Z own bs mx rt nm) {k : Nat} {v : Int32} (hd : decode bs pc = .ok (.iload k, 2)) (hl : Ls[k]? = some (.val (.int v))) (G : Go K R n0 B Q h cells slots (pc + 2) Ls (.int v :: st)) : Go K R n0 B Q h cells slots pc Ls st :=
  G.step fun T A t S => XS.iload A hK.1 rfl (hb hK.2.1 hd) (by simpa using hl) S
theorem g_lloadN (hK : Cx K Z own bs mx rt nm) {k : Fin 4} {v : Int64} (hd : decode bs pc = .ok (.lload_n k, 1)) (hl : Ls[k.val]? = some (.val (.long v))) (G : Go K R n0 B Q h cells slots (pc + 1) Ls (.long v :: st)) : Go K R n0 B Q h cells slots pc Ls st :=
  G.step fun T A t S => XS.lloadN A hK.1 rfl (hb hK.2.1 hd) (by simpa using hl) S
theorem g_lload (hK : Cx K Z own bs mx rt nm) {k : Nat} {v : Int64} (hd : decode bs pc = .ok (.lload k, 2)) (hl : Ls[k]? = some (.val (.long v))) (G : Go K R n0 B Q h cells slots (pc + 2) Ls (.long v :: st)) : Go K R n0 B Q h cells slots pc Ls st :=
  G.step fun T A t S => XS.lload A hK.1 rfl (hb hK.2.1 hd) (by simpa using hl) S
theorem g_aloadN (hK : Cx K Z own bs mx rt nm) {k : Fin 4} {v : Addr} (hd : decode bs pc = .ok (.aload_n k, 1)) (hl : Ls[k.val]? = some (.val (.ref v))) (G : Go K R n0 B Q h cells slots (pc + 1) Ls (.ref v :: st)) : Go K R n0 B Q h cells slots pc Ls st :=
  G.step fun T A t S => XS.aloadN A hK.1 rfl (hb hK.2.1 hd) (by simpa using hl) rfl S
theorem g_aload (hK : Cx K Z own bs mx rt nm) {k : Nat} {v : Addr} (hd : decode bs pc = .ok (.aload k, 2)) (hl : Ls[k]? = some (.val (.ref v))) (G : Go K R n0 B Q h cells slots (pc + 2) Ls (.ref v :: st)) : Go K R n0 B Q h cells slots pc Ls st :=
  G.step fun T A t S => XS.aload A hK.1 rfl (hb hK.2.1 hd) (by simpa using hl) rfl S
theorem g_iconst (hK : Cx K Z own bs mx rt nm) {i : Int} {z : Int32} (hd : decode bs pc = .ok (.iconst i, 1)) (hz : (Int32.ofInt i) = z) (G : Go K R n0 B Q h cells slots (pc + 1) Ls (.int z :: st)) : Go K R n0 B Q h cells slots pc Ls st :=
  G.step fun T A t S => XS.iconst A hK.1 rfl (hb hK.2.1 hd) (by subst hz; exact S)
theorem g_bipush (hK : Cx K Z own bs mx rt nm) {i : Int} {z : Int32} (hd : decode bs pc = .ok (.bipush i, 2)) (hz : (Int8.ofInt i).toInt32 = z) (G : Go K R n0 B Q h cells slots (pc + 2) Ls (.int z :: st)) : Go K R n0 B Q h cells slots pc Ls st :=
  G.step fun T A t S => XS.bipush A hK.1 rfl (hb hK.2.1 hd) (by subst hz; exact S)
theorem g_sipush (hK : Cx K Z own bs mx rt nm) {i : Int} {z : Int32} (hd : decode bs pc = .ok (.sipush i, 3)) (hz : (Int16.ofInt i).toInt32 = z) (G : Go K R n0 B Q h cells slots (pc + 3) Ls (.int z :: st)) : Go K R n0 B Q h cells slots pc Ls st :=
  G.step fun T A t S => XS.sipush A hK.1 rfl (hb hK.2.1 hd) (by subst hz; exact S)
theorem g_lconst (hK : Cx K Z own bs mx rt nm) {k : Fin 2} {z : Int64} (hd : decode bs pc = .ok (.lconst k, 1)) (hz : (Int64.ofNat k) = z) (G : Go K R n0 B Q h cells slots (pc + 1) Ls (.long z :: st)) : Go K R n0 B Q h cells slots pc Ls st :=
  G.step fun T A t S => XS.lconst A hK.1 rfl (hb hK.2.1 hd) (by subst hz; exact S)
theorem g_aconst_null (hK : Cx K Z own bs mx rt nm) (hd : decode bs pc = .ok (.aconst_null, 1)) (G : Go K R n0 B Q h cells slots (pc + 1) Ls (.null :: st)) : Go K R n0 B Q h cells slots pc Ls st :=
  G.step fun T A t S => XS.aconstNull A hK.1 rfl (hb hK.2.1 hd) S
theorem g_iadd (hK : Cx K Z own bs mx rt nm) {x y : Int32} (hd : decode bs pc = .ok (.iadd, 1)) (G : Go K R n0 B Q h cells slots (pc + 1) Ls (.int (x + y) :: rest)) : Go K R n0 B Q h cells slots pc Ls (.int y :: .int x :: rest) :=
  G.step fun T A t S => XS.iadd A hK.1 rfl (hb hK.2.1 hd) rfl S
theorem g_isub (hK : Cx K Z own bs mx rt nm) {x y : Int32} (hd : decode bs pc = .ok (.isub, 1)) (G : Go K R n0 B Q h cells slots (pc + 1) Ls (.int (x - y) :: rest)) : Go K R n0 B Q h cells slots pc Ls (.int y :: .int x :: rest) :=
  G.step fun T A t S => XS.isub A hK.1 rfl (hb hK.2.1 hd) rfl S
theorem g_imul (hK : Cx K Z own bs mx rt nm) {x y : Int32} (hd : decode bs pc = .ok (.imul, 1)) (G : Go K R n0 B Q h cells slots (pc + 1) Ls (.int (x * y) :: rest)) : Go K R n0 B Q h cells slots pc Ls (.int y :: .int x :: rest) :=
  G.step fun T A t S => XS.imul A hK.1 rfl (hb hK.2.1 hd) rfl S
theorem g_iand (hK : Cx K Z own bs mx rt nm) {x y : Int32} (hd : decode bs pc = .ok (.iand, 1)) (G : Go K R n0 B Q h cells slots (pc + 1) Ls (.int (x &&& y) :: rest)) : Go K R n0 B Q h cells slots pc Ls (.int y :: .int x :: rest) :=
  G.step fun T A t S => XS.iand A hK.1 rfl (hb hK.2.1 hd) rfl S
theorem g_ior (hK : Cx K Z own bs mx rt nm) {x y : Int32} (hd : decode bs pc = .ok (.ior, 1)) (G : Go K R n0 B Q h cells slots (pc + 1) Ls (.int (x ||| y) :: rest)) : Go K R n0 B Q h cells slots pc Ls (.int y :: .int x :: rest) :=
  G.step fun T A t S => XS.ior A hK.1 rfl (hb hK.2.1 hd) rfl S
theorem g_ixor (hK : Cx K Z own bs mx rt nm) {x y : Int32} (hd : decode bs pc = .ok (.ixor, 1)) (G : Go K R n0 B Q h cells slots (pc + 1) Ls (.int (x ^^^ y) :: rest)) : Go K R n0 B Q h cells slots pc Ls (.int y :: .int x :: rest) :=
  G.step fun T A t S => XS.ixor A hK.1 rfl (hb hK.2.1 hd) rfl S
theorem g_ishl (hK : Cx K Z own bs mx rt nm) {x y : Int32} (hd : decode bs pc = .ok (.ishl, 1)) (G : Go K R n0 B Q h cells slots (pc + 1) Ls (.int (x <<< (y &&& 31)) :: rest)) : Go K R n0 B Q h cells slots pc Ls (.int y :: .int x :: rest) :=
  G.step fun T A t S => XS.ishl A hK.1 rfl (hb hK.2.1 hd) rfl S
theorem g_ishr (hK : Cx K Z own bs mx rt nm) {x y : Int32} (hd : decode bs pc = .ok (.ishr, 1)) (G : Go K R n0 B Q h cells slots (pc + 1) Ls (.int (x >>> (y &&& 31)) :: rest)) : Go K R n0 B Q h cells slots pc Ls (.int y :: .int x :: rest) :=
  G.step fun T A t S => XS.ishr A hK.1 rfl (hb hK.2.1 hd) rfl S
theorem g_iushr (hK : Cx K Z own bs mx rt nm) {x y : Int32} (hd : decode bs pc = .ok (.iushr, 1)) (G : Go K R n0 B Q h cells slots (pc + 1) Ls (.int ((x.toUInt32 >>> (y &&& 31).toUInt32).toInt32) :: rest)) : Go K R n0 B Q h cells slots pc Ls (.int y :: .int x :: rest) :=
  G.step fun T A t S => XS.iushr A hK.1 rfl (hb hK.2.1 hd) rfl S
theorem irem_mod (x y : Int32) : x - (x / y) * y = x % y := by
  apply Int32.toInt_inj.mp
  have h1 := Int32.le_toInt (x % y)
  have h2 := Int32.toInt_lt (x % y)
  rw [Int32.toInt_sub, Int32.toInt_mul, Int32.toInt_div, Int.bmod_mul_bmod, Int.sub_bmod_bmod, Int.mul_comm (x.toInt.tdiv y.toInt), ← Int.tmod_def, ← Int32.toInt_mod]
  exact Int.bmod_eq_of_le_mul_two (by omega) (by omega)
theorem g_idiv (hK : Cx K Z own bs mx rt nm) {x y : Int32} (hd : decode bs pc = .ok (.idiv, 1)) (hy : y ≠ 0) (G : Go K R n0 B Q h cells slots (pc + 1) Ls (.int (x / y) :: rest)) : Go K R n0 B Q h cells slots pc Ls (.int y :: .int x :: rest) :=
  G.step fun T A t S => XS.idiv A hK.1 rfl (hb hK.2.1 hd) rfl hy S
theorem g_irem (hK : Cx K Z own bs mx rt nm) {x y : Int32} (hd : decode bs pc = .ok (.irem, 1)) (hy : y ≠ 0) (G : Go K R n0 B Q h cells slots (pc + 1) Ls (.int (x % y) :: rest)) : Go K R n0 B Q h cells slots pc Ls (.int y :: .int x :: rest) :=
  G.step fun T A t S => XS.irem A hK.1 rfl (hb hK.2.1 hd) rfl hy (by rw [irem_mod]; exact S)
theorem g_ineg (hK : Cx K Z own bs mx rt nm) {x : Int32} (hd : decode bs pc = .ok (.ineg, 1)) (G : Go K R n0 B Q h cells slots (pc + 1) Ls (.int (-x) :: rest)) : Go K R n0 B Q h cells slots pc Ls (.int x :: rest) :=
  G.step fun T A t S => XS.ineg A hK.1 rfl (hb hK.2.1 hd) rfl S
theorem g_ladd (hK : Cx K Z own bs mx rt nm) {x y : Int64} (hd : decode bs pc = .ok (.ladd, 1)) (G : Go K R n0 B Q h cells slots (pc + 1) Ls (.long (x + y) :: rest)) : Go K R n0 B Q h cells slots pc Ls (.long y :: .long x :: rest) :=
  G.step fun T A t S => XS.ladd A hK.1 rfl (hb hK.2.1 hd) rfl S
theorem g_lsub (hK : Cx K Z own bs mx rt nm) {x y : Int64} (hd : decode bs pc = .ok (.lsub, 1)) (G : Go K R n0 B Q h cells slots (pc + 1) Ls (.long (x - y) :: rest)) : Go K R n0 B Q h cells slots pc Ls (.long y :: .long x :: rest) :=
  G.step fun T A t S => XS.lsub A hK.1 rfl (hb hK.2.1 hd) rfl S
theorem g_lmul (hK : Cx K Z own bs mx rt nm) {x y : Int64} (hd : decode bs pc = .ok (.lmul, 1)) (G : Go K R n0 B Q h cells slots (pc + 1) Ls (.long (x * y) :: rest)) : Go K R n0 B Q h cells slots pc Ls (.long y :: .long x :: rest) :=
  G.step fun T A t S => XS.lmul A hK.1 rfl (hb hK.2.1 hd) rfl S
theorem g_land (hK : Cx K Z own bs mx rt nm) {x y : Int64} (hd : decode bs pc = .ok (.land, 1)) (G : Go K R n0 B Q h cells slots (pc + 1) Ls (.long (x &&& y) :: rest)) : Go K R n0 B Q h cells slots pc Ls (.long y :: .long x :: rest) :=
  G.step fun T A t S => XS.land A hK.1 rfl (hb hK.2.1 hd) rfl S
theorem g_lor (hK : Cx K Z own bs mx rt nm) {x y : Int64} (hd : decode bs pc = .ok (.lor, 1)) (G : Go K R n0 B Q h cells slots (pc + 1) Ls (.long (x ||| y) :: rest)) : Go K R n0 B Q h cells slots pc Ls (.long y :: .long x :: rest) :=
  G.step fun T A t S => XS.lor A hK.1 rfl (hb hK.2.1 hd) rfl S
theorem g_lxor (hK : Cx K Z own bs mx rt nm) {x y : Int64} (hd : decode bs pc = .ok (.lxor, 1)) (G : Go K R n0 B Q h cells slots (pc + 1) Ls (.long (x ^^^ y) :: rest)) : Go K R n0 B Q h cells slots pc Ls (.long y :: .long x :: rest) :=
  G.step fun T A t S => XS.lxor A hK.1 rfl (hb hK.2.1 hd) rfl S
theorem g_ldiv (hK : Cx K Z own bs mx rt nm) {x y : Int64} (hd : decode bs pc = .ok (.ldiv, 1)) (hy : y ≠ 0) (G : Go K R n0 B Q h cells slots (pc + 1) Ls (.long (x / y) :: rest)) : Go K R n0 B Q h cells slots pc Ls (.long y :: .long x :: rest) :=
  G.step fun T A t S => XS.ldiv A hK.1 rfl (hb hK.2.1 hd) rfl hy S
theorem g_lshl (hK : Cx K Z own bs mx rt nm) {x : Int64} {y : Int32} (hd : decode bs pc = .ok (.lshl, 1)) (G : Go K R n0 B Q h cells slots (pc + 1) Ls (.long (x <<< (y &&& 0x3f).toInt64) :: rest)) : Go K R n0 B Q h cells slots pc Ls (.int y :: .long x :: rest) :=
  G.step fun T A t S => XS.lshl A hK.1 rfl (hb hK.2.1 hd) rfl S
theorem g_lshr (hK : Cx K Z own bs mx rt nm) {x : Int64} {y : Int32} (hd : decode bs pc = .ok (.lshr, 1)) (G : Go K R n0 B Q h cells slots (pc + 1) Ls (.long (x >>> (y &&& 0x3f).toInt64) :: rest)) : Go K R n0 B Q h cells slots pc Ls (.int y :: .long x :: rest) :=
  G.step fun T A t S => XS.lshr A hK.1 rfl (hb hK.2.1 hd) rfl S
theorem g_lushr (hK : Cx K Z own bs mx rt nm) {x : Int64} {y : Int32} (hd : decode bs pc = .ok (.lushr, 1)) (G : Go K R n0 B Q h cells slots (pc + 1) Ls (.long ((x.toUInt64 >>> (y &&& 0x3f).toInt64.toUInt64).toInt64) :: rest)) : Go K R n0 B Q h cells slots pc Ls (.int y :: .long x :: rest) :=
  G.step fun T A t S => XS.lushr A hK.1 rfl (hb hK.2.1 hd) rfl S
theorem g_i2l (hK : Cx K Z own bs mx rt nm) {x : Int32} (hd : decode bs pc = .ok (.i2l, 1)) (G : Go K R n0 B Q h cells slots (pc + 1) Ls (.long x.toInt64 :: rest)) : Go K R n0 B Q h cells slots pc Ls (.int x :: rest) :=
  G.step fun T A t S => XS.i2l A hK.1 rfl (hb hK.2.1 hd) rfl S
theorem g_l2i (hK : Cx K Z own bs mx rt nm) {x : Int64} (hd : decode bs pc = .ok (.l2i, 1)) (G : Go K R n0 B Q h cells slots (pc + 1) Ls (.int x.toInt32 :: rest)) : Go K R n0 B Q h cells slots pc Ls (.long x :: rest) :=
  G.step fun T A t S => XS.l2i A hK.1 rfl (hb hK.2.1 hd) rfl S
theorem g_i2b (hK : Cx K Z own bs mx rt nm) {x : Int32} (hd : decode bs pc = .ok (.i2b, 1)) (G : Go K R n0 B Q h cells slots (pc + 1) Ls (.int x.toInt8.toInt32 :: rest)) : Go K R n0 B Q h cells slots pc Ls (.int x :: rest) :=
  G.step fun T A t S => XS.i2b A hK.1 rfl (hb hK.2.1 hd) rfl S
theorem g_dup (hK : Cx K Z own bs mx rt nm) {x : Value} (hd : decode bs pc = .ok (.dup, 1)) (hc : x.category = 1) (G : Go K R n0 B Q h cells slots (pc + 1) Ls (x :: x :: rest)) : Go K R n0 B Q h cells slots pc Ls (x :: rest) :=
  G.step fun T A t S => XS.dup A hK.1 rfl (hb hK.2.1 hd) rfl hc S
theorem g_pop (hK : Cx K Z own bs mx rt nm) {x : Value} (hd : decode bs pc = .ok (.pop, 1)) (hc : x.category = 1) (G : Go K R n0 B Q h cells slots (pc + 1) Ls rest) : Go K R n0 B Q h cells slots pc Ls (x :: rest) :=
  G.step fun T A t S => XS.pop A hK.1 rfl (hb hK.2.1 hd) rfl hc S
theorem g_dup_x1 (hK : Cx K Z own bs mx rt nm) {x y : Value} (hd : decode bs pc = .ok (.dup_x1, 1)) (hc : x.category = 1) (hc2 : y.category = 1) (G : Go K R n0 B Q h cells slots (pc + 1) Ls (x :: y :: x :: rest)) : Go K R n0 B Q h cells slots pc Ls (x :: y :: rest) :=
  G.step fun T A t S => XS.dupX1 A hK.1 rfl (hb hK.2.1 hd) rfl hc hc2 S
theorem g_dup2 (hK : Cx K Z own bs mx rt nm) {x y : Value} (hd : decode bs pc = .ok (.dup2, 1)) (hc : x.category = 1) (hc2 : y.category = 1) (G : Go K R n0 B Q h cells slots (pc + 1) Ls (x :: y :: x :: y :: rest)) : Go K R n0 B Q h cells slots pc Ls (x :: y :: rest) :=
  G.step fun T A t S => XT.dup2 A hK.1 rfl (hb hK.2.1 hd) rfl hc hc2 S
theorem g_goto (hK : Cx K Z own bs mx rt nm) {o : Int} (hd : decode bs pc = .ok (.goto o, 3)) (ho : 0 ≤ (pc : Int) + o ∧ ((pc : Int) + o).toNat = pc') (G : Go K R n0 B Q h cells slots pc' Ls st) : Go K R n0 B Q h cells slots pc Ls st :=
  G.step fun T A t S => XS.goto A hK.1 rfl rfl (hb hK.2.1 hd) ho.1 ho.2 S
theorem ih_eq (x y : Int32) : if_icmp.holds .eq x y = decide (x = y) := by by_cases q : x = y <;> simp [if_icmp.holds, q]
theorem ih_ne (x y : Int32) : if_icmp.holds .ne x y = decide (x ≠ y) := by by_cases q : x = y <;> simp [if_icmp.holds, q]
theorem ih_lt (x y : Int32) : if_icmp.holds .lt x y = decide (x.toInt < y.toInt) := by by_cases q : x.toInt < y.toInt <;> simp [if_icmp.holds, Int32.lt_iff_toInt_lt, Int32.le_iff_toInt_le, q]
theorem ih_ge (x y : Int32) : if_icmp.holds .ge x y = decide (y.toInt ≤ x.toInt) := by by_cases q : y.toInt ≤ x.toInt <;> simp [if_icmp.holds, Int32.lt_iff_toInt_lt, Int32.le_iff_toInt_le, q]
theorem ih_gt (x y : Int32) : if_icmp.holds .gt x y = decide (y.toInt < x.toInt) := by by_cases q : y.toInt < x.toInt <;> simp [if_icmp.holds, Int32.lt_iff_toInt_lt, Int32.le_iff_toInt_le, q]
theorem ih_le (x y : Int32) : if_icmp.holds .le x y = decide (x.toInt ≤ y.toInt) := by by_cases q : x.toInt ≤ y.toInt <;> simp [if_icmp.holds, Int32.lt_iff_toInt_lt, Int32.le_iff_toInt_le, q]
theorem gY_icmp_eq (hK : Cx K Z own bs mx rt nm) {o : Int} {x y : Int32} (hd : decode bs pc = .ok (.if_icmp .eq o, 3)) (ho : 0 ≤ (pc : Int) + o ∧ ((pc : Int) + o).toNat = pc') (q : x = y) (G : Go K R n0 B Q h cells slots pc' Ls rest) : Go K R n0 B Q h cells slots pc Ls (.int y :: .int x :: rest) :=
  G.step fun T A t S => XS.icmpYes A hK.1 rfl rfl (hb hK.2.1 hd) rfl (by rw [ih_eq]; exact decide_eq_true q) ho.1 ho.2 S
theorem gN_icmp_eq (hK : Cx K Z own bs mx rt nm) {o : Int} {x y : Int32} (hd : decode bs pc = .ok (.if_icmp .eq o, 3)) (q : x ≠ y) (G : Go K R n0 B Q h cells slots (pc + 3) Ls rest) : Go K R n0 B Q h cells slots pc Ls (.int y :: .int x :: rest) :=
  G.step fun T A t S => XS.icmpNo A hK.1 rfl (hb hK.2.1 hd) rfl (by rw [ih_eq]; exact decide_eq_false (q)) S
theorem g_icmp_eq (hK : Cx K Z own bs mx rt nm) {o : Int} {x y : Int32} (hd : decode bs pc = .ok (.if_icmp .eq o, 3)) (ho : 0 ≤ (pc : Int) + o ∧ ((pc : Int) + o).toNat = pc') (G1 : x = y → Go K R n0 B Q h cells slots pc' Ls rest) (G2 : x ≠ y → Go K R n0 B Q h cells slots (pc + 3) Ls rest) : Go K R n0 B Q h cells slots pc Ls (.int y :: .int x :: rest) :=
  (Decidable.em (x = y)).elim (fun z => gY_icmp_eq hK hd ho z (G1 z)) (fun z => gN_icmp_eq hK hd (z) ((fun z => G2 z) z))
theorem gY_icmp_ne (hK : Cx K Z own bs mx rt nm) {o : Int} {x y : Int32} (hd : decode bs pc = .ok (.if_icmp .ne o, 3)) (ho : 0 ≤ (pc : Int) + o ∧ ((pc : Int) + o).toNat = pc') (q : x ≠ y) (G : Go K R n0 B Q h cells slots pc' Ls rest) : Go K R n0 B Q h cells slots pc Ls (.int y :: .int x :: rest) :=
  G.step fun T A t S => XS.icmpYes A hK.1 rfl rfl (hb hK.2.1 hd) rfl (by rw [ih_ne]; exact decide_eq_true q) ho.1 ho.2 S
theorem gN_icmp_ne (hK : Cx K Z own bs mx rt nm) {o : Int} {x y : Int32} (hd : decode bs pc = .ok (.if_icmp .ne o, 3)) (q : x = y) (G : Go K R n0 B Q h cells slots (pc + 3) Ls rest) : Go K R n0 B Q h cells slots pc Ls (.int y :: .int x :: rest) :=
  G.step fun T A t S => XS.icmpNo A hK.1 rfl (hb hK.2.1 hd) rfl (by rw [ih_ne]; exact decide_eq_false (fun z => z q)) S
theorem g_icmp_ne (hK : Cx K Z own bs mx rt nm) {o : Int} {x y : Int32} (hd : decode bs pc = .ok (.if_icmp .ne o, 3)) (ho : 0 ≤ (pc : Int) + o ∧ ((pc : Int) + o).toNat = pc') (G1 : x ≠ y → Go K R n0 B Q h cells slots pc' Ls rest) (G2 : x = y → Go K R n0 B Q h cells slots (pc + 3) Ls rest) : Go K R n0 B Q h cells slots pc Ls (.int y :: .int x :: rest) :=
  (Decidable.em (x ≠ y)).elim (fun z => gY_icmp_ne hK hd ho z (G1 z)) (fun z => gN_icmp_ne hK hd (Decidable.not_not.mp z) ((fun z => G2 (Decidable.not_not.mp z)) z))
theorem gY_icmp_lt (hK : Cx K Z own bs mx rt nm) {o : Int} {x y : Int32} (hd : decode bs pc = .ok (.if_icmp .lt o, 3)) (ho : 0 ≤ (pc : Int) + o ∧ ((pc : Int) + o).toNat = pc') (q : x.toInt < y.toInt) (G : Go K R n0 B Q h cells slots pc' Ls rest) : Go K R n0 B Q h cells slots pc Ls (.int y :: .int x :: rest) :=
  G.step fun T A t S => XS.icmpYes A hK.1 rfl rfl (hb hK.2.1 hd) rfl (by rw [ih_lt]; exact decide_eq_true q) ho.1 ho.2 S
theorem gN_icmp_lt (hK : Cx K Z own bs mx rt nm) {o : Int} {x y : Int32} (hd : decode bs pc = .ok (.if_icmp .lt o, 3)) (q : y.toInt ≤ x.toInt) (G : Go K R n0 B Q h cells slots (pc + 3) Ls rest) : Go K R n0 B Q h cells slots pc Ls (.int y :: .int x :: rest) :=
  G.step fun T A t S => XS.icmpNo A hK.1 rfl (hb hK.2.1 hd) rfl (by rw [ih_lt]; exact decide_eq_false (Int.not_lt.mpr q)) S
theorem g_icmp_lt (hK : Cx K Z own bs mx rt nm) {o : Int} {x y : Int32} (hd : decode bs pc = .ok (.if_icmp .lt o, 3)) (ho : 0 ≤ (pc : Int) + o ∧ ((pc : Int) + o).toNat = pc') (G1 : x.toInt < y.toInt → Go K R n0 B Q h cells slots pc' Ls rest) (G2 : y.toInt ≤ x.toInt → Go K R n0 B Q h cells slots (pc + 3) Ls rest) : Go K R n0 B Q h cells slots pc Ls (.int y :: .int x :: rest) :=
  (Decidable.em (x.toInt < y.toInt)).elim (fun z => gY_icmp_lt hK hd ho z (G1 z)) (fun z => gN_icmp_lt hK hd (Int.not_lt.mp z) ((fun z => G2 (Int.not_lt.mp z)) z))
theorem gY_icmp_ge (hK : Cx K Z own bs mx rt nm) {o : Int} {x y : Int32} (hd : decode bs pc = .ok (.if_icmp .ge o, 3)) (ho : 0 ≤ (pc : Int) + o ∧ ((pc : Int) + o).toNat = pc') (q : y.toInt ≤ x.toInt) (G : Go K R n0 B Q h cells slots pc' Ls rest) : Go K R n0 B Q h cells slots pc Ls (.int y :: .int x :: rest) :=
  G.step fun T A t S => XS.icmpYes A hK.1 rfl rfl (hb hK.2.1 hd) rfl (by rw [ih_ge]; exact decide_eq_true q) ho.1 ho.2 S
theorem gN_icmp_ge (hK : Cx K Z own bs mx rt nm) {o : Int} {x y : Int32} (hd : decode bs pc = .ok (.if_icmp .ge o, 3)) (q : x.toInt < y.toInt) (G : Go K R n0 B Q h cells slots (pc + 3) Ls rest) : Go K R n0 B Q h cells slots pc Ls (.int y :: .int x :: rest) :=
  G.step fun T A t S => XS.icmpNo A hK.1 rfl (hb hK.2.1 hd) rfl (by rw [ih_ge]; exact decide_eq_false (Int.not_le.mpr q)) S
theorem g_icmp_ge (hK : Cx K Z own bs mx rt nm) {o : Int} {x y : Int32} (hd : decode bs pc = .ok (.if_icmp .ge o, 3)) (ho : 0 ≤ (pc : Int) + o ∧ ((pc : Int) + o).toNat = pc') (G1 : y.toInt ≤ x.toInt → Go K R n0 B Q h cells slots pc' Ls rest) (G2 : x.toInt < y.toInt → Go K R n0 B Q h cells slots (pc + 3) Ls rest) : Go K R n0 B Q h cells slots pc Ls (.int y :: .int x :: rest) :=
  (Decidable.em (y.toInt ≤ x.toInt)).elim (fun z => gY_icmp_ge hK hd ho z (G1 z)) (fun z => gN_icmp_ge hK hd (Int.not_le.mp z) ((fun z => G2 (Int.not_le.mp z)) z))
theorem gY_icmp_gt (hK : Cx K Z own bs mx rt nm) {o : Int} {x y : Int32} (hd : decode bs pc = .ok (.if_icmp .gt o, 3)) (ho : 0 ≤ (pc : Int) + o ∧ ((pc : Int) + o).toNat = pc') (q : y.toInt < x.toInt) (G : Go K R n0 B Q h cells slots pc' Ls rest) : Go K R n0 B Q h cells slots pc Ls (.int y :: .int x :: rest) :=
  G.step fun T A t S => XS.icmpYes A hK.1 rfl rfl (hb hK.2.1 hd) rfl (by rw [ih_gt]; exact decide_eq_true q) ho.1 ho.2 S
theorem gN_icmp_gt (hK : Cx K Z own bs mx rt nm) {o : Int} {x y : Int32} (hd : decode bs pc = .ok (.if_icmp .gt o, 3)) (q : x.toInt ≤ y.toInt) (G : Go K R n0 B Q h cells slots (pc + 3) Ls rest) : Go K R n0 B Q h cells slots pc Ls (.int y :: .int x :: rest) :=
  G.step fun T A t S => XS.icmpNo A hK.1 rfl (hb hK.2.1 hd) rfl (by rw [ih_gt]; exact decide_eq_false (Int.not_lt.mpr q)) S
theorem g_icmp_gt (hK : Cx K Z own bs mx rt nm) {o : Int} {x y : Int32} (hd : decode bs pc = .ok (.if_icmp .gt o, 3)) (ho : 0 ≤ (pc : Int) + o ∧ ((pc : Int) + o).toNat = pc') (G1 : y.toInt < x.toInt → Go K R n0 B Q h cells slots pc' Ls rest) (G2 : x.toInt ≤ y.toInt → Go K R n0 B Q h cells slots (pc + 3) Ls rest) : Go K R n0 B Q h cells slots pc Ls (.int y :: .int x :: rest) :=
  (Decidable.em (y.toInt < x.toInt)).elim (fun z => gY_icmp_gt hK hd ho z (G1 z)) (fun z => gN_icmp_gt hK hd (Int.not_lt.mp z) ((fun z => G2 (Int.not_lt.mp z)) z))
theorem gY_icmp_le (hK : Cx K Z own bs mx rt nm) {o : Int} {x y : Int32} (hd : decode bs pc = .ok (.if_icmp .le o, 3)) (ho : 0 ≤ (pc : Int) + o ∧ ((pc : Int) + o).toNat = pc') (q : x.toInt ≤ y.toInt) (G : Go K R n0 B Q h cells slots pc' Ls rest) : Go K R n0 B Q h cells slots pc Ls (.int y :: .int x :: rest) :=
  G.step fun T A t S => XS.icmpYes A hK.1 rfl rfl (hb hK.2.1 hd) rfl (by rw [ih_le]; exact decide_eq_true q) ho.1 ho.2 S
theorem gN_icmp_le (hK : Cx K Z own bs mx rt nm) {o : Int} {x y : Int32} (hd : decode bs pc = .ok (.if_icmp .le o, 3)) (q : y.toInt < x.toInt) (G : Go K R n0 B Q h cells slots (pc + 3) Ls rest) : Go K R n0 B Q h cells slots pc Ls (.int y :: .int x :: rest) :=
  G.step fun T A t S => XS.icmpNo A hK.1 rfl (hb hK.2.1 hd) rfl (by rw [ih_le]; exact decide_eq_false (Int.not_le.mpr q)) S
theorem g_icmp_le (hK : Cx K Z own bs mx rt nm) {o : Int} {x y : Int32} (hd : decode bs pc = .ok (.if_icmp .le o, 3)) (ho : 0 ≤ (pc : Int) + o ∧ ((pc : Int) + o).toNat = pc') (G1 : x.toInt ≤ y.toInt → Go K R n0 B Q h cells slots pc' Ls rest) (G2 : y.toInt < x.toInt → Go K R n0 B Q h cells slots (pc + 3) Ls rest) : Go K R n0 B Q h cells slots pc Ls (.int y :: .int x :: rest) :=
  (Decidable.em (x.toInt ≤ y.toInt)).elim (fun z => gY_icmp_le hK hd ho z (G1 z)) (fun z => gN_icmp_le hK hd (Int.not_le.mp z) ((fun z => G2 (Int.not_le.mp z)) z))
theorem gY_if_eq (hK : Cx K Z own bs mx rt nm) {o : Int} {x : Int32} (hd : decode bs pc = .ok (.ifCond .eq o, 3)) (ho : 0 ≤ (pc : Int) + o ∧ ((pc : Int) + o).toNat = pc') (q : x = 0) (G : Go K R n0 B Q h cells slots pc' Ls rest) : Go K R n0 B Q h cells slots pc Ls (.int x :: rest) :=
  G.step fun T A t S => XS.ifYes A hK.1 rfl rfl (hb hK.2.1 hd) rfl (by rw [if0, ih_eq]; exact decide_eq_true q) ho.1 ho.2 S
theorem gN_if_eq (hK : Cx K Z own bs mx rt nm) {o : Int} {x : Int32} (hd : decode bs pc = .ok (.ifCond .eq o, 3)) (q : x ≠ 0) (G : Go K R n0 B Q h cells slots (pc + 3) Ls rest) : Go K R n0 B Q h cells slots pc Ls (.int x :: rest) :=
  G.step fun T A t S => XS.ifNo A hK.1 rfl (hb hK.2.1 hd) rfl (by rw [if0, ih_eq]; exact decide_eq_false (q)) S
theorem g_if_eq (hK : Cx K Z own bs mx rt nm) {o : Int} {x : Int32} (hd : decode bs pc = .ok (.ifCond .eq o, 3)) (ho : 0 ≤ (pc : Int) + o ∧ ((pc : Int) + o).toNat = pc') (G1 : x = 0 → Go K R n0 B Q h cells slots pc' Ls rest) (G2 : x ≠ 0 → Go K R n0 B Q h cells slots (pc + 3) Ls rest) : Go K R n0 B Q h cells slots pc Ls (.int x :: rest) :=
  (Decidable.em (x = 0)).elim (fun z => gY_if_eq hK hd ho z (G1 z)) (fun z => gN_if_eq hK hd (z) (G2 (z)))
theorem gY_if_ne (hK : Cx K Z own bs mx rt nm) {o : Int} {x : Int32} (hd : decode bs pc = .ok (.ifCond .ne o, 3)) (ho : 0 ≤ (pc : Int) + o ∧ ((pc : Int) + o).toNat = pc') (q : x ≠ 0) (G : Go K R n0 B Q h cells slots pc' Ls rest) : Go K R n0 B Q h cells slots pc Ls (.int x :: rest) :=
  G.step fun T A t S => XS.ifYes A hK.1 rfl rfl (hb hK.2.1 hd) rfl (by rw [if0, ih_ne]; exact decide_eq_true q) ho.1 ho.2 S
theorem gN_if_ne (hK : Cx K Z own bs mx rt nm) {o : Int} {x : Int32} (hd : decode bs pc = .ok (.ifCond .ne o, 3)) (q : x = 0) (G : Go K R n0 B Q h cells slots (pc + 3) Ls rest) : Go K R n0 B Q h cells slots pc Ls (.int x :: rest) :=
  G.step fun T A t S => XS.ifNo A hK.1 rfl (hb hK.2.1 hd) rfl (by rw [if0, ih_ne]; exact decide_eq_false (fun z => z q)) S
theorem g_if_ne (hK : Cx K Z own bs mx rt nm) {o : Int} {x : Int32} (hd : decode bs pc = .ok (.ifCond .ne o, 3)) (ho : 0 ≤ (pc : Int) + o ∧ ((pc : Int) + o).toNat = pc') (G1 : x ≠ 0 → Go K R n0 B Q h cells slots pc' Ls rest) (G2 : x = 0 → Go K R n0 B Q h cells slots (pc + 3) Ls rest) : Go K R n0 B Q h cells slots pc Ls (.int x :: rest) :=
  (Decidable.em (x ≠ 0)).elim (fun z => gY_if_ne hK hd ho z (G1 z)) (fun z => gN_if_ne hK hd (Decidable.not_not.mp z) (G2 (Decidable.not_not.mp z)))
theorem gY_if_lt (hK : Cx K Z own bs mx rt nm) {o : Int} {x : Int32} (hd : decode bs pc = .ok (.ifCond .lt o, 3)) (ho : 0 ≤ (pc : Int) + o ∧ ((pc : Int) + o).toNat = pc') (q : x.toInt < 0) (G : Go K R n0 B Q h cells slots pc' Ls rest) : Go K R n0 B Q h cells slots pc Ls (.int x :: rest) :=
  G.step fun T A t S => XS.ifYes A hK.1 rfl rfl (hb hK.2.1 hd) rfl (by rw [if0, ih_lt]; exact decide_eq_true q) ho.1 ho.2 S
theorem gN_if_lt (hK : Cx K Z own bs mx rt nm) {o : Int} {x : Int32} (hd : decode bs pc = .ok (.ifCond .lt o, 3)) (q : 0 ≤ x.toInt) (G : Go K R n0 B Q h cells slots (pc + 3) Ls rest) : Go K R n0 B Q h cells slots pc Ls (.int x :: rest) :=
  G.step fun T A t S => XS.ifNo A hK.1 rfl (hb hK.2.1 hd) rfl (by rw [if0, ih_lt]; exact decide_eq_false (Int.not_lt.mpr q)) S
theorem g_if_lt (hK : Cx K Z own bs mx rt nm) {o : Int} {x : Int32} (hd : decode bs pc = .ok (.ifCond .lt o, 3)) (ho : 0 ≤ (pc : Int) + o ∧ ((pc : Int) + o).toNat = pc') (G1 : x.toInt < 0 → Go K R n0 B Q h cells slots pc' Ls rest) (G2 : 0 ≤ x.toInt → Go K R n0 B Q h cells slots (pc + 3) Ls rest) : Go K R n0 B Q h cells slots pc Ls (.int x :: rest) :=
  (Decidable.em (x.toInt < 0)).elim (fun z => gY_if_lt hK hd ho z (G1 z)) (fun z => gN_if_lt hK hd (Int.not_lt.mp z) (G2 (Int.not_lt.mp z)))
theorem gY_if_ge (hK : Cx K Z own bs mx rt nm) {o : Int} {x : Int32} (hd : decode bs pc = .ok (.ifCond .ge o, 3)) (ho : 0 ≤ (pc : Int) + o ∧ ((pc : Int) + o).toNat = pc') (q : 0 ≤ x.toInt) (G : Go K R n0 B Q h cells slots pc' Ls rest) : Go K R n0 B Q h cells slots pc Ls (.int x :: rest) :=
  G.step fun T A t S => XS.ifYes A hK.1 rfl rfl (hb hK.2.1 hd) rfl (by rw [if0, ih_ge]; exact decide_eq_true q) ho.1 ho.2 S
theorem gN_if_ge (hK : Cx K Z own bs mx rt nm) {o : Int} {x : Int32} (hd : decode bs pc = .ok (.ifCond .ge o, 3)) (q : x.toInt < 0) (G : Go K R n0 B Q h cells slots (pc + 3) Ls rest) : Go K R n0 B Q h cells slots pc Ls (.int x :: rest) :=
  G.step fun T A t S => XS.ifNo A hK.1 rfl (hb hK.2.1 hd) rfl (by rw [if0, ih_ge]; exact decide_eq_false (Int.not_le.mpr q)) S
theorem g_if_ge (hK : Cx K Z own bs mx rt nm) {o : Int} {x : Int32} (hd : decode bs pc = .ok (.ifCond .ge o, 3)) (ho : 0 ≤ (pc : Int) + o ∧ ((pc : Int) + o).toNat = pc') (G1 : 0 ≤ x.toInt → Go K R n0 B Q h cells slots pc' Ls rest) (G2 : x.toInt < 0 → Go K R n0 B Q h cells slots (pc + 3) Ls rest) : Go K R n0 B Q h cells slots pc Ls (.int x :: rest) :=
  (Decidable.em (0 ≤ x.toInt)).elim (fun z => gY_if_ge hK hd ho z (G1 z)) (fun z => gN_if_ge hK hd (Int.not_le.mp z) (G2 (Int.not_le.mp z)))
theorem gY_if_gt (hK : Cx K Z own bs mx rt nm) {o : Int} {x : Int32} (hd : decode bs pc = .ok (.ifCond .gt o, 3)) (ho : 0 ≤ (pc : Int) + o ∧ ((pc : Int) + o).toNat = pc') (q : 0 < x.toInt) (G : Go K R n0 B Q h cells slots pc' Ls rest) : Go K R n0 B Q h cells slots pc Ls (.int x :: rest) :=
  G.step fun T A t S => XS.ifYes A hK.1 rfl rfl (hb hK.2.1 hd) rfl (by rw [if0, ih_gt]; exact decide_eq_true q) ho.1 ho.2 S
theorem gN_if_gt (hK : Cx K Z own bs mx rt nm) {o : Int} {x : Int32} (hd : decode bs pc = .ok (.ifCond .gt o, 3)) (q : x.toInt ≤ 0) (G : Go K R n0 B Q h cells slots (pc + 3) Ls rest) : Go K R n0 B Q h cells slots pc Ls (.int x :: rest) :=
  G.step fun T A t S => XS.ifNo A hK.1 rfl (hb hK.2.1 hd) rfl (by rw [if0, ih_gt]; exact decide_eq_false (Int.not_lt.mpr q)) S
theorem g_if_gt (hK : Cx K Z own bs mx rt nm) {o : Int} {x : Int32} (hd : decode bs pc = .ok (.ifCond .gt o, 3)) (ho : 0 ≤ (pc : Int) + o ∧ ((pc : Int) + o).toNat = pc') (G1 : 0 < x.toInt → Go K R n0 B Q h cells slots pc' Ls rest) (G2 : x.toInt ≤ 0 → Go K R n0 B Q h cells slots (pc + 3) Ls rest) : Go K R n0 B Q h cells slots pc Ls (.int x :: rest) :=
  (Decidable.em (0 < x.toInt)).elim (fun z => gY_if_gt hK hd ho z (G1 z)) (fun z => gN_if_gt hK hd (Int.not_lt.mp z) (G2 (Int.not_lt.mp z)))
theorem gY_if_le (hK : Cx K Z own bs mx rt nm) {o : Int} {x : Int32} (hd : decode bs pc = .ok (.ifCond .le o, 3)) (ho : 0 ≤ (pc : Int) + o ∧ ((pc : Int) + o).toNat = pc') (q : x.toInt ≤ 0) (G : Go K R n0 B Q h cells slots pc' Ls rest) : Go K R n0 B Q h cells slots pc Ls (.int x :: rest) :=
  G.step fun T A t S => XS.ifYes A hK.1 rfl rfl (hb hK.2.1 hd) rfl (by rw [if0, ih_le]; exact decide_eq_true q) ho.1 ho.2 S
theorem gN_if_le (hK : Cx K Z own bs mx rt nm) {o : Int} {x : Int32} (hd : decode bs pc = .ok (.ifCond .le o, 3)) (q : 0 < x.toInt) (G : Go K R n0 B Q h cells slots (pc + 3) Ls rest) : Go K R n0 B Q h cells slots pc Ls (.int x :: rest) :=
  G.step fun T A t S => XS.ifNo A hK.1 rfl (hb hK.2.1 hd) rfl (by rw [if0, ih_le]; exact decide_eq_false (Int.not_le.mpr q)) S
theorem g_if_le (hK : Cx K Z own bs mx rt nm) {o : Int} {x : Int32} (hd : decode bs pc = .ok (.ifCond .le o, 3)) (ho : 0 ≤ (pc : Int) + o ∧ ((pc : Int) + o).toNat = pc') (G1 : x.toInt ≤ 0 → Go K R n0 B Q h cells slots pc' Ls rest) (G2 : 0 < x.toInt → Go K R n0 B Q h cells slots (pc + 3) Ls rest) : Go K R n0 B Q h cells slots pc Ls (.int x :: rest) :=
  (Decidable.em (x.toInt ≤ 0)).elim (fun z => gY_if_le hK hd ho z (G1 z)) (fun z => gN_if_le hK hd (Int.not_le.mp z) (G2 (Int.not_le.mp z)))
theorem gY_lif_eq (hK : Cx K Z own bs mx rt nm) {o : Int} {x y : Int64} (hd0 : decode bs pc = .ok (.lcmp, 1)) (hd : decode bs (pc + 1) = .ok (.ifCond .eq o, 3)) (ho : 0 ≤ ((pc + 1 : Nat) : Int) + o ∧ (((pc + 1 : Nat) : Int) + o).toNat = pc') (q : x = y) (G : Go K R n0 B Q h cells slots pc' Ls rest) : Go K R n0 B Q h cells slots pc Ls (.long y :: .long x :: rest) :=
  Go.step (fun T A t S => XS.lcmp A hK.1 rfl (hb hK.2.1 hd0) rfl S) (gY_if_eq (x := lcmpW x y) hK hd ho ((lw_eq x y).mpr q) G)
theorem gN_lif_eq (hK : Cx K Z own bs mx rt nm) {o : Int} {x y : Int64} (hd0 : decode bs pc = .ok (.lcmp, 1)) (hd : decode bs (pc + 1) = .ok (.ifCond .eq o, 3)) (q : x ≠ y) (G : Go K R n0 B Q h cells slots (pc + 4) Ls rest) : Go K R n0 B Q h cells slots pc Ls (.long y :: .long x :: rest) :=
  Go.step (fun T A t S => XS.lcmp A hK.1 rfl (hb hK.2.1 hd0) rfl S) (gN_if_eq (x := lcmpW x y) hK hd (fun z => q ((lw_eq x y).mp z)) G)
theorem g_lif_eq (hK : Cx K Z own bs mx rt nm) {o : Int} {x y : Int64} (hd0 : decode bs pc = .ok (.lcmp, 1)) (hd : decode bs (pc + 1) = .ok (.ifCond .eq o, 3)) (ho : 0 ≤ ((pc + 1 : Nat) : Int) + o ∧ (((pc + 1 : Nat) : Int) + o).toNat = pc') (G1 : x = y → Go K R n0 B Q h cells slots pc' Ls rest) (G2 : x ≠ y → Go K R n0 B Q h cells slots (pc + 4) Ls rest) : Go K R n0 B Q h cells slots pc Ls (.long y :: .long x :: rest) :=
  (Decidable.em (x = y)).elim (fun z => gY_lif_eq hK hd0 hd ho z (G1 z)) (fun z => gN_lif_eq hK hd0 hd (z) (G2 (z)))
theorem gY_lif_ne (hK : Cx K Z own bs mx rt nm) {o : Int} {x y : Int64} (hd0 : decode bs pc = .ok (.lcmp, 1)) (hd : decode bs (pc + 1) = .ok (.ifCond .ne o, 3)) (ho : 0 ≤ ((pc + 1 : Nat) : Int) + o ∧ (((pc + 1 : Nat) : Int) + o).toNat = pc') (q : x ≠ y) (G : Go K R n0 B Q h cells slots pc' Ls rest) : Go K R n0 B Q h cells slots pc Ls (.long y :: .long x :: rest) :=
  Go.step (fun T A t S => XS.lcmp A hK.1 rfl (hb hK.2.1 hd0) rfl S) (gY_if_ne (x := lcmpW x y) hK hd ho (fun z => q ((lw_eq x y).mp z)) G)
theorem gN_lif_ne (hK : Cx K Z own bs mx rt nm) {o : Int} {x y : Int64} (hd0 : decode bs pc = .ok (.lcmp, 1)) (hd : decode bs (pc + 1) = .ok (.ifCond .ne o, 3)) (q : x = y) (G : Go K R n0 B Q h cells slots (pc + 4) Ls rest) : Go K R n0 B Q h cells slots pc Ls (.long y :: .long x :: rest) :=
  Go.step (fun T A t S => XS.lcmp A hK.1 rfl (hb hK.2.1 hd0) rfl S) (gN_if_ne (x := lcmpW x y) hK hd ((lw_eq x y).mpr q) G)
theorem g_lif_ne (hK : Cx K Z own bs mx rt nm) {o : Int} {x y : Int64} (hd0 : decode bs pc = .ok (.lcmp, 1)) (hd : decode bs (pc + 1) = .ok (.ifCond .ne o, 3)) (ho : 0 ≤ ((pc + 1 : Nat) : Int) + o ∧ (((pc + 1 : Nat) : Int) + o).toNat = pc') (G1 : x ≠ y → Go K R n0 B Q h cells slots pc' Ls rest) (G2 : x = y → Go K R n0 B Q h cells slots (pc + 4) Ls rest) : Go K R n0 B Q h cells slots pc Ls (.long y :: .long x :: rest) :=
  (Decidable.em (x ≠ y)).elim (fun z => gY_lif_ne hK hd0 hd ho z (G1 z)) (fun z => gN_lif_ne hK hd0 hd (Decidable.not_not.mp z) (G2 (Decidable.not_not.mp z)))
theorem gY_lif_lt (hK : Cx K Z own bs mx rt nm) {o : Int} {x y : Int64} (hd0 : decode bs pc = .ok (.lcmp, 1)) (hd : decode bs (pc + 1) = .ok (.ifCond .lt o, 3)) (ho : 0 ≤ ((pc + 1 : Nat) : Int) + o ∧ (((pc + 1 : Nat) : Int) + o).toNat = pc') (q : x.toInt < y.toInt) (G : Go K R n0 B Q h cells slots pc' Ls rest) : Go K R n0 B Q h cells slots pc Ls (.long y :: .long x :: rest) :=
  Go.step (fun T A t S => XS.lcmp A hK.1 rfl (hb hK.2.1 hd0) rfl S) (gY_if_lt (x := lcmpW x y) hK hd ho (by have c1 := (c_lcmp x y).1; have c2 := (c_lcmp x y).2.1; have c3 := (c_lcmp x y).2.2; omega) G)
theorem gN_lif_lt (hK : Cx K Z own bs mx rt nm) {o : Int} {x y : Int64} (hd0 : decode bs pc = .ok (.lcmp, 1)) (hd : decode bs (pc + 1) = .ok (.ifCond .lt o, 3)) (q : y.toInt ≤ x.toInt) (G : Go K R n0 B Q h cells slots (pc + 4) Ls rest) : Go K R n0 B Q h cells slots pc Ls (.long y :: .long x :: rest) :=
  Go.step (fun T A t S => XS.lcmp A hK.1 rfl (hb hK.2.1 hd0) rfl S) (gN_if_lt (x := lcmpW x y) hK hd (by have c1 := (c_lcmp x y).1; have c2 := (c_lcmp x y).2.1; have c3 := (c_lcmp x y).2.2; omega) G)
theorem g_lif_lt (hK : Cx K Z own bs mx rt nm) {o : Int} {x y : Int64} (hd0 : decode bs pc = .ok (.lcmp, 1)) (hd : decode bs (pc + 1) = .ok (.ifCond .lt o, 3)) (ho : 0 ≤ ((pc + 1 : Nat) : Int) + o ∧ (((pc + 1 : Nat) : Int) + o).toNat = pc') (G1 : x.toInt < y.toInt → Go K R n0 B Q h cells slots pc' Ls rest) (G2 : y.toInt ≤ x.toInt → Go K R n0 B Q h cells slots (pc + 4) Ls rest) : Go K R n0 B Q h cells slots pc Ls (.long y :: .long x :: rest) :=
  (Decidable.em (x.toInt < y.toInt)).elim (fun z => gY_lif_lt hK hd0 hd ho z (G1 z)) (fun z => gN_lif_lt hK hd0 hd (Int.not_lt.mp z) (G2 (Int.not_lt.mp z)))
theorem gY_lif_ge (hK : Cx K Z own bs mx rt nm) {o : Int} {x y : Int64} (hd0 : decode bs pc = .ok (.lcmp, 1)) (hd : decode bs (pc + 1) = .ok (.ifCond .ge o, 3)) (ho : 0 ≤ ((pc + 1 : Nat) : Int) + o ∧ (((pc + 1 : Nat) : Int) + o).toNat = pc') (q : y.toInt ≤ x.toInt) (G : Go K R n0 B Q h cells slots pc' Ls rest) : Go K R n0 B Q h cells slots pc Ls (.long y :: .long x :: rest) :=
  Go.step (fun T A t S => XS.lcmp A hK.1 rfl (hb hK.2.1 hd0) rfl S) (gY_if_ge (x := lcmpW x y) hK hd ho (by have c1 := (c_lcmp x y).1; have c2 := (c_lcmp x y).2.1; have c3 := (c_lcmp x y).2.2; omega) G)
theorem gN_lif_ge (hK : Cx K Z own bs mx rt nm) {o : Int} {x y : Int64} (hd0 : decode bs pc = .ok (.lcmp, 1)) (hd : decode bs (pc + 1) = .ok (.ifCond .ge o, 3)) (q : x.toInt < y.toInt) (G : Go K R n0 B Q h cells slots (pc + 4) Ls rest) : Go K R n0 B Q h cells slots pc Ls (.long y :: .long x :: rest) :=
  Go.step (fun T A t S => XS.lcmp A hK.1 rfl (hb hK.2.1 hd0) rfl S) (gN_if_ge (x := lcmpW x y) hK hd (by have c1 := (c_lcmp x y).1; have c2 := (c_lcmp x y).2.1; have c3 := (c_lcmp x y).2.2; omega) G)
theorem g_lif_ge (hK : Cx K Z own bs mx rt nm) {o : Int} {x y : Int64} (hd0 : decode bs pc = .ok (.lcmp, 1)) (hd : decode bs (pc + 1) = .ok (.ifCond .ge o, 3)) (ho : 0 ≤ ((pc + 1 : Nat) : Int) + o ∧ (((pc + 1 : Nat) : Int) + o).toNat = pc') (G1 : y.toInt ≤ x.toInt → Go K R n0 B Q h cells slots pc' Ls rest) (G2 : x.toInt < y.toInt → Go K R n0 B Q h cells slots (pc + 4) Ls rest) : Go K R n0 B Q h cells slots pc Ls (.long y :: .long x :: rest) :=
  (Decidable.em (y.toInt ≤ x.toInt)).elim (fun z => gY_lif_ge hK hd0 hd ho z (G1 z)) (fun z => gN_lif_ge hK hd0 hd (Int.not_le.mp z) (G2 (Int.not_le.mp z)))
theorem gY_lif_gt (hK : Cx K Z own bs mx rt nm) {o : Int} {x y : Int64} (hd0 : decode bs pc = .ok (.lcmp, 1)) (hd : decode bs (pc + 1) = .ok (.ifCond .gt o, 3)) (ho : 0 ≤ ((pc + 1 : Nat) : Int) + o ∧ (((pc + 1 : Nat) : Int) + o).toNat = pc') (q : y.toInt < x.toInt) (G : Go K R n0 B Q h cells slots pc' Ls rest) : Go K R n0 B Q h cells slots pc Ls (.long y :: .long x :: rest) :=
  Go.step (fun T A t S => XS.lcmp A hK.1 rfl (hb hK.2.1 hd0) rfl S) (gY_if_gt (x := lcmpW x y) hK hd ho (by have c1 := (c_lcmp x y).1; have c2 := (c_lcmp x y).2.1; have c3 := (c_lcmp x y).2.2; omega) G)
theorem gN_lif_gt (hK : Cx K Z own bs mx rt nm) {o : Int} {x y : Int64} (hd0 : decode bs pc = .ok (.lcmp, 1)) (hd : decode bs (pc + 1) = .ok (.ifCond .gt o, 3)) (q : x.toInt ≤ y.toInt) (G : Go K R n0 B Q h cells slots (pc + 4) Ls rest) : Go K R n0 B Q h cells slots pc Ls (.long y :: .long x :: rest) :=
  Go.step (fun T A t S => XS.lcmp A hK.1 rfl (hb hK.2.1 hd0) rfl S) (gN_if_gt (x := lcmpW x y) hK hd (by have c1 := (c_lcmp x y).1; have c2 := (c_lcmp x y).2.1; have c3 := (c_lcmp x y).2.2; omega) G)
theorem g_lif_gt (hK : Cx K Z own bs mx rt nm) {o : Int} {x y : Int64} (hd0 : decode bs pc = .ok (.lcmp, 1)) (hd : decode bs (pc + 1) = .ok (.ifCond .gt o, 3)) (ho : 0 ≤ ((pc + 1 : Nat) : Int) + o ∧ (((pc + 1 : Nat) : Int) + o).toNat = pc') (G1 : y.toInt < x.toInt → Go K R n0 B Q h cells slots pc' Ls rest) (G2 : x.toInt ≤ y.toInt → Go K R n0 B Q h cells slots (pc + 4) Ls rest) : Go K R n0 B Q h cells slots pc Ls (.long y :: .long x :: rest) :=
  (Decidable.em (y.toInt < x.toInt)).elim (fun z => gY_lif_gt hK hd0 hd ho z (G1 z)) (fun z => gN_lif_gt hK hd0 hd (Int.not_lt.mp z) (G2 (Int.not_lt.mp z)))
theorem gY_lif_le (hK : Cx K Z own bs mx rt nm) {o : Int} {x y : Int64} (hd0 : decode bs pc = .ok (.lcmp, 1)) (hd : decode bs (pc + 1) = .ok (.ifCond .le o, 3)) (ho : 0 ≤ ((pc + 1 : Nat) : Int) + o ∧ (((pc + 1 : Nat) : Int) + o).toNat = pc') (q : x.toInt ≤ y.toInt) (G : Go K R n0 B Q h cells slots pc' Ls rest) : Go K R n0 B Q h cells slots pc Ls (.long y :: .long x :: rest) :=
  Go.step (fun T A t S => XS.lcmp A hK.1 rfl (hb hK.2.1 hd0) rfl S) (gY_if_le (x := lcmpW x y) hK hd ho (by have c1 := (c_lcmp x y).1; have c2 := (c_lcmp x y).2.1; have c3 := (c_lcmp x y).2.2; omega) G)
theorem gN_lif_le (hK : Cx K Z own bs mx rt nm) {o : Int} {x y : Int64} (hd0 : decode bs pc = .ok (.lcmp, 1)) (hd : decode bs (pc + 1) = .ok (.ifCond .le o, 3)) (q : y.toInt < x.toInt) (G : Go K R n0 B Q h cells slots (pc + 4) Ls rest) : Go K R n0 B Q h cells slots pc Ls (.long y :: .long x :: rest) :=
  Go.step (fun T A t S => XS.lcmp A hK.1 rfl (hb hK.2.1 hd0) rfl S) (gN_if_le (x := lcmpW x y) hK hd (by have c1 := (c_lcmp x y).1; have c2 := (c_lcmp x y).2.1; have c3 := (c_lcmp x y).2.2; omega) G)
theorem g_lif_le (hK : Cx K Z own bs mx rt nm) {o : Int} {x y : Int64} (hd0 : decode bs pc = .ok (.lcmp, 1)) (hd : decode bs (pc + 1) = .ok (.ifCond .le o, 3)) (ho : 0 ≤ ((pc + 1 : Nat) : Int) + o ∧ (((pc + 1 : Nat) : Int) + o).toNat = pc') (G1 : x.toInt ≤ y.toInt → Go K R n0 B Q h cells slots pc' Ls rest) (G2 : y.toInt < x.toInt → Go K R n0 B Q h cells slots (pc + 4) Ls rest) : Go K R n0 B Q h cells slots pc Ls (.long y :: .long x :: rest) :=
  (Decidable.em (x.toInt ≤ y.toInt)).elim (fun z => gY_lif_le hK hd0 hd ho z (G1 z)) (fun z => gN_lif_le hK hd0 hd (Int.not_le.mp z) (G2 (Int.not_le.mp z)))
/-! the constants of the pool -/
theorem g_ldc (hK : Cx K Z own bs mx rt nm) {i : Nat} {v : Int32} (w : (Jvm.Cond.constant own i v).before a0 Z = true) (hd : decode bs pc = .ok (.ldc i, 2)) (G : Go K R n0 B Q h cells slots (pc + 2) Ls (.int v :: st)) : Go K R n0 B Q h cells slots pc Ls st :=
  G.stepX fun T locs X e t S => X.ldcInt hK.1 hK.2.2.2.1 (mvT hK.2.2.2.2.2.2.2 w) (g := mkF (kM K) pc ⟨Ls⟩ st) rfl (hb hK.2.1 hd) t S
theorem g_ldc_w (hK : Cx K Z own bs mx rt nm) {i : Nat} {v : Int32} (w : (Jvm.Cond.constant own i v).before a0 Z = true) (hd : decode bs pc = .ok (.ldc_w i, 3)) (G : Go K R n0 B Q h cells slots (pc + 3) Ls (.int v :: st)) : Go K R n0 B Q h cells slots pc Ls st :=
  G.stepX fun T locs X e t S => X.ldcwInt hK.1 hK.2.2.2.1 (mvT hK.2.2.2.2.2.2.2 w) (g := mkF (kM K) pc ⟨Ls⟩ st) rfl (hb hK.2.1 hd) t S
theorem g_ldc2 (hK : Cx K Z own bs mx rt nm) {i : Nat} {v : Int64} (w : (Jvm.Cond.constantLong own i v).before a0 Z = true) (hd : decode bs pc = .ok (.ldc2_w i, 3)) (G : Go K R n0 B Q h cells slots (pc + 3) Ls (.long v :: st)) : Go K R n0 B Q h cells slots pc Ls st :=
  G.stepX fun T locs X e t S => X.ldc2Long hK.1 hK.2.2.2.1 (mvT hK.2.2.2.2.2.2.2 w) (g := mkF (kM K) pc ⟨Ls⟩ st) rfl (hb hK.2.1 hd) t S
/-! fields, objects, arrays -/
theorem g_get (hK : Cx K Z own bs mx rt nm) {C n d : String} {i : Nat} {a : Addr} {v : Value} (w : (Jvm.Cond.fieldLink own i C n d).before a0 Z = true) (hd : decode bs pc = .ok (.getfield i, 3)) (F : Fld Z h a C n d v) (G : Go K R n0 B Q h cells slots (pc + 3) Ls (v :: st)) : Go K R n0 B Q h cells slots pc Ls (.ref a :: st) := by
  intro T locs X N eT
  obtain ⟨T', X', e', S⟩ := getF X hK.1 hK.2.2.2.2.2.2.2 hK.2.2.2.1 (host := "") (Or.inl w) Via.refl eT F (g := mkF (kM K) pc ⟨Ls⟩ (.ref a :: st)) rfl rfl (hb hK.2.1 hd)
  obtain ⟨s₂, v, L, h1, r⟩ := G T' locs X' N e'
  exact ⟨s₂, v, L, S _ h1, r⟩
theorem g_put (hK : Cx K Z own bs mx rt nm) {C n d : String} {i kk : Nat} {ty : FieldType} {a : Addr} {v old : Value} (w : (Jvm.Cond.fieldLink own i C n d).before a0 Z = true) (wl : (Jvm.Cond.lays C C n d).before a0 Z = true ∨ ((Jvm.Cond.laysFinal C C n d).before a0 Z = true ∧ own = C ∧ nm = "<init>")) (wi : (Jvm.Cond.instantiable C kk).before a0 Z = true) (hd : decode bs pc = .ok (.putfield i, 3))
    (F : Fld Z h a C n d old) (E : Exa Z h a C) (hn : n0 ≤ a) (hty : parseFieldDescriptor d = some ty) (h1 : narrow ty v = v) (h2 : fits ty v = true) (G : ∀ h', Wr h h' a (Jvm.RoadKit.slotOf Z C n d) v → Go K R n0 B Q h' cells slots (pc + 3) Ls rest) : Go K R n0 B Q h cells slots pc Ls (v :: .ref a :: rest) := by
  intro T locs X N eT
  obtain ⟨T', h', X', e', W, S⟩ := putF X hK.1 hK.2.2.2.2.2.2.2 hK.2.2.2.1 (host := "") (Or.inl w) Via.refl eT F E (wl.imp id fun q => ⟨q.1, q.2.1, hK.2.2.2.2.1.trans q.2.2⟩) wi hty h1 h2 (g := mkF (kM K) pc ⟨Ls⟩ (v :: .ref a :: rest)) rfl rfl (hb hK.2.1 hd)
  obtain ⟨s₂, v, L, h1, r⟩ := G h' W T' _ X' (Fr.snoc X' N hn) e'
  exact ⟨s₂, v, L, S _ h1, r⟩
theorem g_new (hK : Cx K Z own bs mx rt nm) {C : String} {i n : Nat} (w : (Jvm.Cond.classLink own i C).before a0 Z = true) (wi : (Jvm.Cond.instantiable C n).before a0 Z = true) (wz : (Jvm.Cond.initialized C).before a0 Z = true) (hd : decode bs pc = .ok (.new i, 3)) (hr : (Nat.ble (cells + 1) R.cells && Nat.ble (slots + n) R.slots) = true)
    (G : ∀ h' a, a = h.size → Ext h h' → Exa Z h' a C → (∀ {O nm d : String} {ty : FieldType}, Laid Z a0 C O nm d → parseFieldDescriptor d = some ty → Fld Z h' a O nm d (defaultValue ty)) → Go K R n0 B Q h' (cells + 1) (slots + n) (pc + 3) Ls (.ref a :: st)) : Go K R n0 B Q h cells slots pc Ls st := by
  intro T locs X N eT
  simp only [Bool.and_eq_true] at hr
  obtain ⟨T', h', X', e', E, A, D, -, S⟩ := newO X hK.1 hK.2.2.2.2.2.2.2 hK.2.2.2.1 w wi wz eT (g := mkF (kM K) pc ⟨Ls⟩ st) rfl (hb hK.2.1 hd) (Nat.le_of_ble_eq_true hr.1) (Nat.le_of_ble_eq_true hr.2)
  obtain ⟨s₂, v, L, h1, r⟩ := G h' h.size rfl E A D T' _ X' N e'
  exact ⟨s₂, v, L, S _ h1, r⟩
theorem g_newarray (hK : Cx K Z own bs mx rt nm) {aty : ArrayType} {n : Int32} (cap : Nat) (w : (Jvm.Cond.arrayClass (newarray.typeOf aty)).before a0 Z = true) (hd : decode bs pc = .ok (.newarray aty, 2)) (hn : ¬ n < 0) (hcap : n.toNatClampNeg ≤ cap) (hr : (Nat.ble (cap * 8) 536870912 && Nat.ble (cells + 1) R.cells && Nat.ble (slots + cap) R.slots) = true)
    (G : ∀ h' a cA, a = h.size → Ext h h' → Arr Z h' a (newA cA (newarray.typeOf aty) n) (newarray.typeOf aty) → Go K R n0 B Q h' (cells + 1) (slots + cap) (pc + 2) Ls (.ref a :: rest)) : Go K R n0 B Q h cells slots pc Ls (.int n :: rest) := by
  intro T locs X N eT
  simp only [Bool.and_eq_true] at hr
  obtain ⟨T', h', cA, X', e', E, A, S⟩ := newP X hK.1 hK.2.2.2.2.2.2.2 w eT (g := mkF (kM K) pc ⟨Ls⟩ (.int n :: rest)) rfl (hb hK.2.1 hd) rfl hn hcap (Nat.le_of_ble_eq_true hr.1.1) (Nat.le_of_ble_eq_true hr.1.2) (Nat.le_of_ble_eq_true hr.2)
  obtain ⟨s₂, v, L, h1, r⟩ := G h' h.size cA rfl E A T' _ X' N e'
  exact ⟨s₂, v, L, S _ h1, r⟩
theorem g_arraylength (hK : Cx K Z own bs mx rt nm) {a : Addr} {cl : Cell} {ty : FieldType} {z : Int32} (A : Arr Z h a cl ty) (hz : cl.slots.size.toInt32 = z) (hd : decode bs pc = .ok (.arraylength, 1)) (G : Go K R n0 B Q h cells slots (pc + 1) Ls (.int z :: rest)) : Go K R n0 B Q h cells slots pc Ls (.ref a :: rest) :=
  G.stepX fun T locs X e t S => X.arraylength hK.1 (by rw [e]; exact A.1) (State.isArrayOf_alike hK.2.2.2.2.2.2.2.alike A.2.1) (g := mkF (kM K) pc ⟨Ls⟩ (.ref a :: rest)) rfl rfl (hb hK.2.1 hd) t (by subst hz; exact S)
theorem g_iaload (hK : Cx K Z own bs mx rt nm) {a : Addr} {cl : Cell} {j v : Int32} (A : Arr Z h a cl .int) (hj : ¬ (j < 0 ∨ cl.slots.size ≤ j.toNatClampNeg)) (hv : cl.slots[j.toNatClampNeg]? = some (.int v)) (hd : decode bs pc = .ok (.iaload, 1)) (G : Go K R n0 B Q h cells slots (pc + 1) Ls (.int v :: rest)) : Go K R n0 B Q h cells slots pc Ls (.int j :: .ref a :: rest) :=
  G.stepX fun T locs X e t S => X.iaload hK.1 (by rw [e]; exact A.1) (State.isArrayOf_alike hK.2.2.2.2.2.2.2.alike A.2.1) A.2.2 hj hv (g := mkF (kM K) pc ⟨Ls⟩ (.int j :: .ref a :: rest)) rfl rfl (hb hK.2.1 hd) t S
theorem g_laload (hK : Cx K Z own bs mx rt nm) {a : Addr} {cl : Cell} {j : Int32} {v : Int64} (A : Arr Z h a cl .long) (hj : ¬ (j < 0 ∨ cl.slots.size ≤ j.toNatClampNeg)) (hv : cl.slots[j.toNatClampNeg]? = some (.long v)) (hd : decode bs pc = .ok (.laload, 1)) (G : Go K R n0 B Q h cells slots (pc + 1) Ls (.long v :: rest)) : Go K R n0 B Q h cells slots pc Ls (.int j :: .ref a :: rest) :=
  G.stepX fun T locs X e t S => X.laload hK.1 (by rw [e]; exact A.1) (State.isArrayOf_alike hK.2.2.2.2.2.2.2.alike A.2.1) A.2.2 hj hv (g := mkF (kM K) pc ⟨Ls⟩ (.int j :: .ref a :: rest)) rfl rfl (hb hK.2.1 hd) t S
theorem g_iastore (hK : Cx K Z own bs mx rt nm) {a : Addr} {cl : Cell} {j x : Int32} (A : Arr Z h a cl .int) (hj : ¬ (j < 0 ∨ cl.slots.size ≤ j.toNatClampNeg)) (hn : n0 ≤ a) (hd : decode bs pc = .ok (.iastore, 1)) (G : ∀ h', Wr h h' a j.toNatClampNeg (.int x) → Go K R n0 B Q h' cells slots (pc + 1) Ls rest) : Go K R n0 B Q h cells slots pc Ls (.int x :: .int j :: .ref a :: rest) := by
  intro T locs X N eT
  obtain ⟨T', h', X', e', W, S⟩ := stI X hK.1 hK.2.2.2.2.2.2.2 eT A hj (g := mkF (kM K) pc ⟨Ls⟩ (.int x :: .int j :: .ref a :: rest)) rfl rfl (hb hK.2.1 hd)
  obtain ⟨s₂, v, L, h1, r⟩ := G h' W T' _ X' (Fr.snoc X' N hn) e'
  exact ⟨s₂, v, L, S _ h1, r⟩
theorem g_lastore (hK : Cx K Z own bs mx rt nm) {a : Addr} {cl : Cell} {j : Int32} {x : Int64} (A : Arr Z h a cl .long) (hj : ¬ (j < 0 ∨ cl.slots.size ≤ j.toNatClampNeg)) (hn : n0 ≤ a) (hd : decode bs pc = .ok (.lastore, 1)) (G : ∀ h', Wr h h' a j.toNatClampNeg (.long x) → Go K R n0 B Q h' cells slots (pc + 1) Ls rest) : Go K R n0 B Q h cells slots pc Ls (.long x :: .int j :: .ref a :: rest) := by
  intro T locs X N eT
  obtain ⟨T', h', X', e', W, S⟩ := stJ X hK.1 hK.2.2.2.2.2.2.2 eT A hj (g := mkF (kM K) pc ⟨Ls⟩ (.long x :: .int j :: .ref a :: rest)) rfl rfl (hb hK.2.1 hd)
  obtain ⟨s₂, v, L, h1, r⟩ := G h' W T' _ X' (Fr.snoc X' N hn) e'
  exact ⟨s₂, v, L, S _ h1, r⟩
/-! Object.<init> -/
theorem g_objinit (hK : Cx K Z own bs mx rt nm) {i : Nat} {a : Addr} (W : Nat) (w1 : (Jvm.Cond.methodLink own i Lib.objectInit).before a0 Z = true) (w2 : (Jvm.Cond.instanceMethod Lib.objectInit).before a0 Z = true) (w3 : (Jvm.Cond.code Lib.objectInit ⟨#[0xb1]⟩ 1 none).before a0 Z = true) (hd : decode bs pc = .ok (.invokespecial i, 3)) (hsz : Ls.length = mx)
    (hr : (Nat.ble 1 R.frames && Nat.ble (rest.map fun v => v.category).sum W && Nat.ble (W + 12) R.locals) = true) (G : Go K R n0 B Q h cells slots (pc + 3) Ls rest) : Go K R n0 B Q h cells slots pc Ls (.ref a :: rest) := by
  intro T locs X N eT
  simp only [Bool.and_eq_true] at hr
  obtain ⟨T', X', e', S⟩ := initO X hK.1 hK.2.2.2.2.2.2.2 hK.2.2.2.1 w1 w2 w3 eT (g := mkF (kM K) pc ⟨Ls⟩ (.ref a :: rest)) rfl (by rw [hK.2.2.1]; exact hsz) rfl (hb hK.2.1 hd) (Nat.le_of_ble_eq_true hr.1.1) (W := W) (by show 2 * 0 + _ ≤ _; rw [Nat.mul_zero, Nat.zero_add]; exact Nat.le_of_ble_eq_true hr.1.2) (Nat.le_of_ble_eq_true hr.2)
  obtain ⟨s₂, v, L, h1, r⟩ := G T' locs X' N e'
  exact ⟨s₂, v, L, S _ h1, r⟩
/-! the returns -/
theorem g_ret {w : Value} {t : FieldType} {ins : Instr} (hK : Cx K Z own bs mx (some t) nm) (hn : narrow t w = w) (hi : (ins = .ireturn ∧ (t = .int ∨ t = .boolean ∨ t = .byte ∨ t = .char ∨ t = .short) ∧ ∃ z, w = .int z) ∨ (ins = .lreturn ∧ t = .long ∧ ∃ z, w = .long z) ∨ (ins = .dreturn ∧ t = .double ∧ ∃ z, w = .double z) ∨ (ins = .freturn ∧ t = .float ∧ ∃ z, w = .float z) ∨ (ins = .areturn ∧ t.isReference = true ∧ w.isRef = true))
    (hd : decode bs pc = .ok (ins, 1)) (hr : (Nat.ble cells R.cells && Nat.ble slots R.slots) = true) (q : Q (some w) h) : Go K R n0 (nB (kS K) R) Q h cells slots pc Ls (w :: rest) := by
  intro T locs X N eT
  simp only [Bool.and_eq_true] at hr
  have hlk := hK.2.2.2.2.2.2.1
  obtain ⟨fs, hl, hrun, hended, hW, hsame⟩ := X.leave (v := some w) (fun e => by rw [hK.2.2.2.2.2.1] at e; cases e) hlk
  refine ⟨_, some w, locs, retOut X hK.1 hK.2.2.2.2.2.1 hn hi (hb hK.2.1 hd) hl, hrun, hended, ?_, N, hW, hsame.mono (Nat.le_of_ble_eq_true hr.1) (Nat.le_of_ble_eq_true hr.2)⟩
  show Q (some w) T.heap
  rw [eT]; exact q
theorem g_ireturn {z : Int32} {P : Int32 → Heap → Prop} (hK : Cx K Z own bs mx (some .int) nm) (hd : decode bs pc = .ok (.ireturn, 1)) (hr : (Nat.ble cells R.cells && Nat.ble slots R.slots) = true) (q : P z h) : Go K R n0 (nB (kS K) R) (qI P) h cells slots pc Ls (.int z :: rest) :=
  g_ret hK rfl (Or.inl ⟨rfl, Or.inl rfl, z, rfl⟩) hd hr ⟨z, rfl, q⟩
theorem g_zreturn {z : Int32} {P : Int32 → Heap → Prop} (hK : Cx K Z own bs mx (some .boolean) nm) (hd : decode bs pc = .ok (.ireturn, 1)) (hn : narrow .boolean (.int z) = .int z) (hr : (Nat.ble cells R.cells && Nat.ble slots R.slots) = true) (q : P z h) : Go K R n0 (nB (kS K) R) (qI P) h cells slots pc Ls (.int z :: rest) :=
  g_ret hK hn (Or.inl ⟨rfl, Or.inr (Or.inl rfl), z, rfl⟩) hd hr ⟨z, rfl, q⟩
theorem g_lreturn {z : Int64} {P : Int64 → Heap → Prop} (hK : Cx K Z own bs mx (some .long) nm) (hd : decode bs pc = .ok (.lreturn, 1)) (hr : (Nat.ble cells R.cells && Nat.ble slots R.slots) = true) (q : P z h) : Go K R n0 (nB (kS K) R) (qJ P) h cells slots pc Ls (.long z :: rest) :=
  g_ret hK rfl (Or.inr (Or.inl ⟨rfl, rfl, z, rfl⟩)) hd hr ⟨z, rfl, q⟩
theorem g_areturn {z : Addr} {t : FieldType} {P : Addr → Heap → Prop} (hK : Cx K Z own bs mx (some t) nm) (ht : t.isReference = true) (hn : narrow t (.ref z) = .ref z) (hd : decode bs pc = .ok (.areturn, 1)) (hr : (Nat.ble cells R.cells && Nat.ble slots R.slots) = true) (q : P z h) : Go K R n0 (nB (kS K) R) (qA P) h cells slots pc Ls (.ref z :: rest) :=
  g_ret hK hn (Or.inr (Or.inr (Or.inr (Or.inr ⟨rfl, ht, rfl⟩)))) hd hr ⟨z, rfl, q⟩
theorem g_return {P : Heap → Prop} (hK : Cx K Z own bs mx none nm) (hd : decode bs pc = .ok (.return_, 1)) (hr : (Nat.ble cells R.cells && Nat.ble slots R.slots) = true) (q : P h) : Go K R n0 (nB (kS K) R) (qV P) h cells slots pc Ls [] := by
  intro T locs X N eT
  simp only [Bool.and_eq_true] at hr
  have hlk := hK.2.2.2.2.2.2.1
  obtain ⟨fs, hl, hrun, hended, hW, hsame⟩ := X.leave (v := none) (fun _ => rfl) hlk
  refine ⟨_, none, locs, X.returnOut hK.1 hK.2.2.2.2.2.1 (hb hK.2.1 hd) hl, hrun, hended, ⟨rfl, ?_⟩, N, hW, hsame.mono (Nat.le_of_ble_eq_true hr.1) (Nat.le_of_ble_eq_true hr.2)⟩
  show P T.heap
  rw [eT]; exact q
/-! stores -/
def isOne : Slot → Bool
  | .unset => true
  | .val w => w.category == 1
  | .second => false
theorem isOne_one {o : Slot} (q : isOne o = true) : o = .unset ∨ ∃ w, o = .val w ∧ w.category = 1 := by
  cases o with
  | unset => exact Or.inl rfl
  | second => cases q
  | val w => exact Or.inr ⟨w, rfl, by simpa [isOne] using q⟩
theorem stL1 {pre post : List Slot} {o : Slot} {v : Value} (ho : isOne o = true) (hv : v.category = 1) : storeLocals ⟨pre ++ o :: post⟩ pre.length v = some ⟨pre ++ .val v :: post⟩ := by
  rw [XS.store1 (o := o) (by simp) (isOne_one ho) hv]; simp
theorem g_istoreG (hK : Cx K Z own bs mx rt nm) {pre post : List Slot} {o : Slot} {x : Int32} {k : Nat} (hk : pre.length = k) (hd : decode bs pc = .ok (.istore k, 2)) (ho : isOne o = true) (G : Go K R n0 B Q h cells slots (pc + 2) (pre ++ .val (.int x) :: post) rest) : Go K R n0 B Q h cells slots pc (pre ++ o :: post) (.int x :: rest) :=
  G.step fun T A t S => XS.istore A hK.1 rfl (hb hK.2.1 hd) rfl (by subst hk; exact stL1 ho rfl) S
theorem g_istoreNG (hK : Cx K Z own bs mx rt nm) {pre post : List Slot} {o : Slot} {x : Int32} {k : Fin 4} (hk : pre.length = k.val) (hd : decode bs pc = .ok (.istore_n k, 1)) (ho : isOne o = true) (G : Go K R n0 B Q h cells slots (pc + 1) (pre ++ .val (.int x) :: post) rest) : Go K R n0 B Q h cells slots pc (pre ++ o :: post) (.int x :: rest) :=
  G.step fun T A t S => XS.istoreN A hK.1 rfl (hb hK.2.1 hd) rfl (by rw [← hk]; exact stL1 ho rfl) S
theorem g_astoreG (hK : Cx K Z own bs mx rt nm) {pre post : List Slot} {o : Slot} {x : Addr} {k : Nat} (hk : pre.length = k) (hd : decode bs pc = .ok (.astore k, 2)) (ho : isOne o = true) (G : Go K R n0 B Q h cells slots (pc + 2) (pre ++ .val (.ref x) :: post) rest) : Go K R n0 B Q h cells slots pc (pre ++ o :: post) (.ref x :: rest) :=
  G.step fun T A t S => XS.astore A hK.1 rfl (hb hK.2.1 hd) rfl rfl (by subst hk; exact stL1 ho rfl) S
theorem g_astoreNG (hK : Cx K Z own bs mx rt nm) {pre post : List Slot} {o : Slot} {x : Addr} {k : Fin 4} (hk : pre.length = k.val) (hd : decode bs pc = .ok (.astore_n k, 1)) (ho : isOne o = true) (G : Go K R n0 B Q h cells slots (pc + 1) (pre ++ .val (.ref x) :: post) rest) : Go K R n0 B Q h cells slots pc (pre ++ o :: post) (.ref x :: rest) :=
  G.step fun T A t S => XS.astoreN A hK.1 rfl (hb hK.2.1 hd) rfl rfl (by rw [← hk]; exact stL1 ho rfl) S
theorem g_iincG (hK : Cx K Z own bs mx rt nm) {pre post : List Slot} {x : Int32} {k : Nat} {cst : Int} (hk : pre.length = k) (hd : decode bs pc = .ok (.iinc k cst, 3)) (G : Go K R n0 B Q h cells slots (pc + 3) (pre ++ .val (.int (x + Int32.ofInt cst)) :: post) st) : Go K R n0 B Q h cells slots pc (pre ++ .val (.int x) :: post) st :=
  G.step fun T A t S => XS.iinc A hK.1 rfl (hb hK.2.1 hd) (x := x) (by subst hk; simp) (by subst hk; exact stL1 rfl rfl) S
def isTwo : Slot → Slot → Bool
  | .unset, .unset => true
  | .val (.long _), .second => true
  | _, _ => false
theorem stL2 {pre post : List Slot} {o q : Slot} {x : Int64} (ho : isTwo o q = true) : storeLocals ⟨pre ++ o :: q :: post⟩ pre.length (.long x) = some ⟨pre ++ .val (.long x) :: .second :: post⟩ := by
  have e1 : ∀ (a b : Slot), (⟨pre ++ a :: b :: post⟩ : Array Slot)[pre.length]? = some a := fun a b => by simp
  have e2 : ∀ (a b : Slot), (⟨pre ++ a :: b :: post⟩ : Array Slot)[pre.length + 1]? = some b := fun a b => by
    simp [List.getElem?_append_right]
  have s1 : ∀ (a b c : Slot), setAt ⟨pre ++ a :: b :: post⟩ pre.length c = some ⟨pre ++ c :: b :: post⟩ := fun a b c => by
    simp [setAt]
  have s2 : ∀ (a b c : Slot), setAt ⟨pre ++ a :: b :: post⟩ (pre.length + 1) c = some ⟨pre ++ a :: c :: post⟩ := fun a b c => by
    simp [setAt, List.set_append_right]
  have key : ∀ (a b : Slot), (∀ w, b = .val w → w.category ≠ 2) → storeSelf ⟨pre ++ a :: b :: post⟩ pre.length (.long x) = some ⟨pre ++ .val (.long x) :: .second :: post⟩ := fun a b hb' => by
    have c2 : (Value.long x).category = 2 := rfl
    simp only [storeSelf, s1, Option.bind_eq_bind, Option.bind_some, c2, if_true, e2, s2]
    cases b with
    | unset => rfl
    | second => rfl
    | val w => simp only [if_neg (hb' w rfl)]
  rw [storeLocals, e1]
  cases o with
  | unset =>
    cases q with
    | unset => exact key _ _ (fun w e => by cases e)
    | second => cases ho
    | val w => cases ho
  | second => cases ho
  | val w =>
    cases w <;> first | (cases ho; done) | skip
    cases q <;> first | (cases ho; done) | skip
    simp only [Option.bind_eq_bind, Option.bind_some, Value.category, if_true, s2]
    exact key _ _ (fun w e => by cases e)
theorem g_lstoreG (hK : Cx K Z own bs mx rt nm) {pre post : List Slot} {o q : Slot} {x : Int64} {k : Nat} (hk : pre.length = k) (hd : decode bs pc = .ok (.lstore k, 2)) (ho : isTwo o q = true) (G : Go K R n0 B Q h cells slots (pc + 2) (pre ++ .val (.long x) :: .second :: post) rest) : Go K R n0 B Q h cells slots pc (pre ++ o :: q :: post) (.long x :: rest) :=
  G.step fun T A t S => XS.lstore A hK.1 rfl (hb hK.2.1 hd) rfl (by subst hk; exact stL2 ho) S
theorem g_lstoreNG (hK : Cx K Z own bs mx rt nm) {pre post : List Slot} {o q : Slot} {x : Int64} {k : Fin 4} (hk : pre.length = k.val) (hd : decode bs pc = .ok (.lstore_n k, 1)) (ho : isTwo o q = true) (G : Go K R n0 B Q h cells slots (pc + 1) (pre ++ .val (.long x) :: .second :: post) rest) : Go K R n0 B Q h cells slots pc (pre ++ o :: q :: post) (.long x :: rest) :=
  G.step fun T A t S => XS.lstoreN A hK.1 rfl (hb hK.2.1 hd) rfl (by rw [← hk]; exact stL2 ho) S
/-! the calls -/
theorem g_static (hK : Cx K Z own bs mx rt nm) {y : MethodName} {bs' : ByteArray} {mx' i : Nat} {rt' : Option FieldType} {rm : Room} {argsL : List Value} {Q' : Option Value → Heap → Prop} {ps : List FieldType} {r : Option FieldType} (W : Nat) (C : Con (kL K) y bs' mx' rt' [] rm Z n0 argsL.toArray h Q')
    (w1 : (Jvm.Cond.methodLink own i y).before a0 Z = true) (w2 : (Jvm.Cond.static y).before a0 Z = true) (w3 : (Jvm.Cond.initialized y.cls).before a0 Z = true) (w4 : (Jvm.Cond.code y bs' mx' rt').before a0 Z = true) (hy : y.cls ≠ "java/lang/invoke/MethodHandle" ∧ y.cls ≠ "java/lang/invoke/VarHandle")
    (pd : parseMethodDescriptor y.desc = some ⟨ps, r⟩) (hlen : argsL.length = ps.length) (hd : decode bs pc = .ok (.invokestatic i, 3)) (hsz : Ls.length = mx)
    (hr : (Nat.ble (rm.frames + 1) R.frames && Nat.ble (W + (mx' + 11) + rm.locals) R.locals && Nat.ble (rest.map fun v => v.category).sum W && Nat.ble (cells + rm.cells) R.cells && Nat.ble (slots + rm.slots) R.slots) = true)
    (G : ∀ v h', Q' v h' → h.size ≤ h'.size → Go K R n0 B Q h' (cells + rm.cells) (slots + rm.slots) (pc + 3) Ls (v.toList ++ rest)) : Go K R n0 B Q h cells slots pc Ls (argsL.reverse ++ rest) := by
  intro T locs X N eT
  simp only [Bool.and_eq_true] at hr
  obtain ⟨v, _, ⟨T', L', k', n'⟩, -, X', ⟨Lc, ⟨hQ, hF, hgr⟩, e1, e2, e3⟩, S⟩ := Jvm.LawKit.callS X hK.1 (y := y) hK.2.2.2.1 (mvT hK.2.2.2.2.2.2.2 w1) (mvT hK.2.2.2.2.2.2.2 w2) (mvT hK.2.2.2.2.2.2.2 w3) (mvT hK.2.2.2.2.2.2.2 w4) hy
    (backOf (W := W) (Q := fun v h' L => Q' v h' ∧ Fr n0 L ∧ h.size ≤ h'.size) C hK.2.2.2.2.2.2.2 w4 w3 (Nat.le_of_ble_eq_true hr.1.1.1.1) (Nat.le_of_ble_eq_true hr.1.1.1.2)) (g := mkF (kM K) pc ⟨Ls⟩ (argsL.reverse ++ rest)) rfl (by rw [hK.2.2.1]; exact hsz) (argsL := argsL) (rest := rest) (lenOf pd hlen) rfl (by show 2 * 0 + _ ≤ _; rw [Nat.mul_zero, Nat.zero_add]; exact Nat.le_of_ble_eq_true hr.1.1.2) (hb hK.2.1 hd)
    (fun _ _ => ⟨rfl, eT, Nat.le_of_ble_eq_true hr.1.2, Nat.le_of_ble_eq_true hr.2⟩)
  dsimp only [Pt.U, Pt.locs, Pt.cells, Pt.slots] at X' e1 e2 e3 S hQ hgr
  subst e1 e2 e3
  obtain ⟨s₂, v', L, h1, rr⟩ := G v T'.heap hQ hgr T' _ X' (Fr.app N hF) rfl
  exact ⟨s₂, v', L, S _ h1, rr⟩
theorem g_special (hK : Cx K Z own bs mx rt nm) {y : MethodName} {bs' : ByteArray} {mx' i : Nat} {rm : Room} {a : Addr} {argsL : List Value} {Q' : Option Value → Heap → Prop} {ps : List FieldType} {r : Option FieldType} (W : Nat) (C : Con (kL K) y bs' mx' none [] rm Z n0 (.ref a :: argsL).toArray h Q') (hy1 : y.name = "<init>")
    (w1 : (Jvm.Cond.methodLink own i y).before a0 Z = true) (w2 : (Jvm.Cond.instanceMethod y).before a0 Z = true) (w3 : (Jvm.Cond.initialized y.cls).before a0 Z = true) (w4 : (Jvm.Cond.code y bs' mx' none).before a0 Z = true) (hy : y.cls ≠ "java/lang/invoke/MethodHandle" ∧ y.cls ≠ "java/lang/invoke/VarHandle")
    (pd : parseMethodDescriptor y.desc = some ⟨ps, r⟩) (hlen : argsL.length = ps.length) (hd : decode bs pc = .ok (.invokespecial i, 3)) (hsz : Ls.length = mx)
    (hr : (Nat.ble (rm.frames + 1) R.frames && Nat.ble (W + (mx' + 11) + rm.locals) R.locals && Nat.ble (rest.map fun v => v.category).sum W && Nat.ble (cells + rm.cells) R.cells && Nat.ble (slots + rm.slots) R.slots) = true)
    (G : ∀ v h', Q' v h' → h.size ≤ h'.size → Go K R n0 B Q h' (cells + rm.cells) (slots + rm.slots) (pc + 3) Ls (v.toList ++ rest)) : Go K R n0 B Q h cells slots pc Ls (argsL.reverse ++ .ref a :: rest) := by
  intro T locs X N eT
  simp only [Bool.and_eq_true] at hr
  obtain ⟨v, _, ⟨T', L', k', n'⟩, -, X', ⟨Lc, ⟨hQ, hF, hgr⟩, e1, e2, e3⟩, S⟩ := X.specialBack hK.1 (y := y) hy1 hK.2.2.2.1 (mvT hK.2.2.2.2.2.2.2 w1) (mvT hK.2.2.2.2.2.2.2 w2) (mvT hK.2.2.2.2.2.2.2 w4) hy
    (backOf (W := W) (Q := fun v h' L => Q' v h' ∧ Fr n0 L ∧ h.size ≤ h'.size) C hK.2.2.2.2.2.2.2 w4 w3 (Nat.le_of_ble_eq_true hr.1.1.1.1) (Nat.le_of_ble_eq_true hr.1.1.1.2)) (g := mkF (kM K) pc ⟨Ls⟩ (argsL.reverse ++ .ref a :: rest)) rfl (by rw [hK.2.2.1]; exact hsz) (Steps.refl _) (a := a) (argsL := argsL) (rest := rest) (lenOf pd hlen) rfl (by show 2 * 0 + _ ≤ _; rw [Nat.mul_zero, Nat.zero_add]; exact Nat.le_of_ble_eq_true hr.1.1.2) (hb hK.2.1 hd)
    (fun _ _ => ⟨rfl, eT, Nat.le_of_ble_eq_true hr.1.2, Nat.le_of_ble_eq_true hr.2⟩)
  dsimp only [Pt.U, Pt.locs, Pt.cells, Pt.slots] at X' e1 e2 e3 S hQ hgr
  subst e1 e2 e3
  obtain ⟨s₂, v', L, h1, rr⟩ := G v T'.heap hQ hgr T' _ X' (Fr.app N hF) rfl
  exact ⟨s₂, v', L, S.trans h1, rr⟩
theorem g_virtual (hK : Cx K Z own bs mx rt nm) {y : MethodName} {bs' : ByteArray} {mx' i : Nat} {rt' : Option FieldType} {rm : Room} {a : Addr} {argsL : List Value} {Q' : Option Value → Heap → Prop} {ps : List FieldType} {r : Option FieldType} (W : Nat) (C : Con (kL K) y bs' mx' rt' [] rm Z n0 (.ref a :: argsL).toArray h Q') (E : Exa Z h a y.cls)
    (w1 : (Jvm.Cond.methodLink own i y).before a0 Z = true) (w2 : (Jvm.Cond.declares y).before a0 Z = true) (w3 : (Jvm.Cond.selects y.cls y y).before a0 Z = true) (w4 : (Jvm.Cond.instanceMethod y).before a0 Z = true) (w5 : (Jvm.Cond.initialized y.cls).before a0 Z = true) (w6 : (Jvm.Cond.code y bs' mx' rt').before a0 Z = true) (hy : y.cls ≠ "java/lang/invoke/MethodHandle" ∧ y.cls ≠ "java/lang/invoke/VarHandle")
    (pd : parseMethodDescriptor y.desc = some ⟨ps, r⟩) (hlen : argsL.length = ps.length) (hd : decode bs pc = .ok (.invokevirtual i, 3)) (hsz : Ls.length = mx)
    (hr : (Nat.ble (rm.frames + 1) R.frames && Nat.ble (W + (mx' + 11) + rm.locals) R.locals && Nat.ble (rest.map fun v => v.category).sum W && Nat.ble (cells + rm.cells) R.cells && Nat.ble (slots + rm.slots) R.slots) = true)
    (G : ∀ v h', Q' v h' → h.size ≤ h'.size → Go K R n0 B Q h' (cells + rm.cells) (slots + rm.slots) (pc + 3) Ls (v.toList ++ rest)) : Go K R n0 B Q h cells slots pc Ls (argsL.reverse ++ .ref a :: rest) := by
  intro T locs X N eT
  simp only [Bool.and_eq_true] at hr
  obtain ⟨cq, kq, q1, q2, q3⟩ := isOf hK.2.2.2.2.2.2.2 eT E
  obtain ⟨v, _, ⟨T', L', k', n'⟩, -, X', ⟨Lc, ⟨hQ, hF, hgr⟩, e1, e2, e3⟩, S⟩ := X.virtualBack hK.1 (y := y) (z := y) hK.2.2.2.1 (mvT hK.2.2.2.2.2.2.2 w1) (mvT hK.2.2.2.2.2.2.2 w2) (notFace_of_selects (args := #[]) (mvT hK.2.2.2.2.2.2.2 w3)) (mvT hK.2.2.2.2.2.2.2 w3) (mvT hK.2.2.2.2.2.2.2 w4) hy
    (backOf (W := W) (Q := fun v h' L => Q' v h' ∧ Fr n0 L ∧ h.size ≤ h'.size) C hK.2.2.2.2.2.2.2 w6 w5 (Nat.le_of_ble_eq_true hr.1.1.1.1) (Nat.le_of_ble_eq_true hr.1.1.1.2)) q1 q3 (g := mkF (kM K) pc ⟨Ls⟩ (argsL.reverse ++ .ref a :: rest)) rfl (by rw [hK.2.2.1]; exact hsz) (Steps.refl _) (argsL := argsL) (rest := rest) (lenOf pd hlen) rfl (by show 2 * 0 + _ ≤ _; rw [Nat.mul_zero, Nat.zero_add]; exact Nat.le_of_ble_eq_true hr.1.1.2) (hb hK.2.1 hd)
    (fun _ _ => ⟨rfl, eT, Nat.le_of_ble_eq_true hr.1.2, Nat.le_of_ble_eq_true hr.2⟩)
  dsimp only [Pt.U, Pt.locs, Pt.cells, Pt.slots] at X' e1 e2 e3 S hQ hgr
  subst e1 e2 e3
  obtain ⟨s₂, v', L, h1, rr⟩ := G v T'.heap hQ hgr T' _ X' (Fr.app N hF) rfl
  exact ⟨s₂, v', L, S.trans h1, rr⟩
end
section
variable {K : Ctx} {R : Room} {n0 : Nat} {B : State → List Loc → Prop} {Q : Option Value → Heap → Prop} {h : Heap} {cells slots pc : Nat} {st rest post : List Slot} {rs : List Value} {Z : State} {own : String} {bs : ByteArray} {mx : Nat} {rt : Option FieldType} {nm : String}
theorem g_astore_4 (hK : Cx K Z own bs mx rt nm) {s0 s1 s2 s3 : Slot} {o : Slot} {x : Addr} (hd : decode bs pc = .ok (.astore 4, 2)) (ho : isOne o = true) (G : Go K R n0 B Q h cells slots (pc + 2) (s0 :: s1 :: s2 :: s3 :: .val (.ref x) :: post) rs) : Go K R n0 B Q h cells slots pc (s0 :: s1 :: s2 :: s3 :: o :: post) (.ref x :: rs) :=
  g_astoreG (pre := [s0, s1, s2, s3]) hK rfl hd ho G
theorem g_astore_5 (hK : Cx K Z own bs mx rt nm) {s0 s1 s2 s3 s4 : Slot} {o : Slot} {x : Addr} (hd : decode bs pc = .ok (.astore 5, 2)) (ho : isOne o = true) (G : Go K R n0 B Q h cells slots (pc + 2) (s0 :: s1 :: s2 :: s3 :: s4 :: .val (.ref x) :: post) rs) : Go K R n0 B Q h cells slots pc (s0 :: s1 :: s2 :: s3 :: s4 :: o :: post) (.ref x :: rs) :=
  g_astoreG (pre := [s0, s1, s2, s3, s4]) hK rfl hd ho G
theorem g_iinc_2 (hK : Cx K Z own bs mx rt nm) {s0 s1 : Slot} {x z : Int32} {cst : Int} (hd : decode bs pc = .ok (.iinc 2 cst, 3)) (hz : Int32.ofInt cst = z) (G : Go K R n0 B Q h cells slots (pc + 3) (s0 :: s1 :: .val (.int (x + z)) :: post) rs) : Go K R n0 B Q h cells slots pc (s0 :: s1 :: .val (.int x) :: post) rs :=
  g_iincG (pre := [s0, s1]) hK rfl hd (by subst hz; exact G)
theorem g_istore_2 (hK : Cx K Z own bs mx rt nm) {s0 s1 : Slot} {o : Slot} {x : Int32} (hd : decode bs pc = .ok (.istore_n 2, 1)) (ho : isOne o = true) (G : Go K R n0 B Q h cells slots (pc + 1) (s0 :: s1 :: .val (.int x) :: post) rs) : Go K R n0 B Q h cells slots pc (s0 :: s1 :: o :: post) (.int x :: rs) :=
  g_istoreNG (pre := [s0, s1]) hK rfl hd ho G
theorem g_istore_3 (hK : Cx K Z own bs mx rt nm) {s0 s1 s2 : Slot} {o : Slot} {x : Int32} (hd : decode bs pc = .ok (.istore_n 3, 1)) (ho : isOne o = true) (G : Go K R n0 B Q h cells slots (pc + 1) (s0 :: s1 :: s2 :: .val (.int x) :: post) rs) : Go K R n0 B Q h cells slots pc (s0 :: s1 :: s2 :: o :: post) (.int x :: rs) :=
  g_istoreNG (pre := [s0, s1, s2]) hK rfl hd ho G
theorem g_istore_4 (hK : Cx K Z own bs mx rt nm) {s0 s1 s2 s3 : Slot} {o : Slot} {x : Int32} (hd : decode bs pc = .ok (.istore 4, 2)) (ho : isOne o = true) (G : Go K R n0 B Q h cells slots (pc + 2) (s0 :: s1 :: s2 :: s3 :: .val (.int x) :: post) rs) : Go K R n0 B Q h cells slots pc (s0 :: s1 :: s2 :: s3 :: o :: post) (.int x :: rs) :=
  g_istoreG (pre := [s0, s1, s2, s3]) hK rfl hd ho G
theorem g_istore_5 (hK : Cx K Z own bs mx rt nm) {s0 s1 s2 s3 s4 : Slot} {o : Slot} {x : Int32} (hd : decode bs pc = .ok (.istore 5, 2)) (ho : isOne o = true) (G : Go K R n0 B Q h cells slots (pc + 2) (s0 :: s1 :: s2 :: s3 :: s4 :: .val (.int x) :: post) rs) : Go K R n0 B Q h cells slots pc (s0 :: s1 :: s2 :: s3 :: s4 :: o :: post) (.int x :: rs) :=
  g_istoreG (pre := [s0, s1, s2, s3, s4]) hK rfl hd ho G
theorem g_istore_6 (hK : Cx K Z own bs mx rt nm) {s0 s1 s2 s3 s4 s5 : Slot} {o : Slot} {x : Int32} (hd : decode bs pc = .ok (.istore 6, 2)) (ho : isOne o = true) (G : Go K R n0 B Q h cells slots (pc + 2) (s0 :: s1 :: s2 :: s3 :: s4 :: s5 :: .val (.int x) :: post) rs) : Go K R n0 B Q h cells slots pc (s0 :: s1 :: s2 :: s3 :: s4 :: s5 :: o :: post) (.int x :: rs) :=
  g_istoreG (pre := [s0, s1, s2, s3, s4, s5]) hK rfl hd ho G
theorem g_istore_7 (hK : Cx K Z own bs mx rt nm) {s0 s1 s2 s3 s4 s5 s6 : Slot} {o : Slot} {x : Int32} (hd : decode bs pc = .ok (.istore 7, 2)) (ho : isOne o = true) (G : Go K R n0 B Q h cells slots (pc + 2) (s0 :: s1 :: s2 :: s3 :: s4 :: s5 :: s6 :: .val (.int x) :: post) rs) : Go K R n0 B Q h cells slots pc (s0 :: s1 :: s2 :: s3 :: s4 :: s5 :: s6 :: o :: post) (.int x :: rs) :=
  g_istoreG (pre := [s0, s1, s2, s3, s4, s5, s6]) hK rfl hd ho G
theorem g_istore_8 (hK : Cx K Z own bs mx rt nm) {s0 s1 s2 s3 s4 s5 s6 s7 : Slot} {o : Slot} {x : Int32} (hd : decode bs pc = .ok (.istore 8, 2)) (ho : isOne o = true) (G : Go K R n0 B Q h cells slots (pc + 2) (s0 :: s1 :: s2 :: s3 :: s4 :: s5 :: s6 :: s7 :: .val (.int x) :: post) rs) : Go K R n0 B Q h cells slots pc (s0 :: s1 :: s2 :: s3 :: s4 :: s5 :: s6 :: s7 :: o :: post) (.int x :: rs) :=
  g_istoreG (pre := [s0, s1, s2, s3, s4, s5, s6, s7]) hK rfl hd ho G
theorem g_istore_9 (hK : Cx K Z own bs mx rt nm) {s0 s1 s2 s3 s4 s5 s6 s7 s8 : Slot} {o : Slot} {x : Int32} (hd : decode bs pc = .ok (.istore 9, 2)) (ho : isOne o = true) (G : Go K R n0 B Q h cells slots (pc + 2) (s0 :: s1 :: s2 :: s3 :: s4 :: s5 :: s6 :: s7 :: s8 :: .val (.int x) :: post) rs) : Go K R n0 B Q h cells slots pc (s0 :: s1 :: s2 :: s3 :: s4 :: s5 :: s6 :: s7 :: s8 :: o :: post) (.int x :: rs) :=
  g_istoreG (pre := [s0, s1, s2, s3, s4, s5, s6, s7, s8]) hK rfl hd ho G
theorem g_istore_10 (hK : Cx K Z own bs mx rt nm) {s0 s1 s2 s3 s4 s5 s6 s7 s8 s9 : Slot} {o : Slot} {x : Int32} (hd : decode bs pc = .ok (.istore 10, 2)) (ho : isOne o = true) (G : Go K R n0 B Q h cells slots (pc + 2) (s0 :: s1 :: s2 :: s3 :: s4 :: s5 :: s6 :: s7 :: s8 :: s9 :: .val (.int x) :: post) rs) : Go K R n0 B Q h cells slots pc (s0 :: s1 :: s2 :: s3 :: s4 :: s5 :: s6 :: s7 :: s8 :: s9 :: o :: post) (.int x :: rs) :=
  g_istoreG (pre := [s0, s1, s2, s3, s4, s5, s6, s7, s8, s9]) hK rfl hd ho G
theorem g_istore_11 (hK : Cx K Z own bs mx rt nm) {s0 s1 s2 s3 s4 s5 s6 s7 s8 s9 s10 : Slot} {o : Slot} {x : Int32} (hd : decode bs pc = .ok (.istore 11, 2)) (ho : isOne o = true) (G : Go K R n0 B Q h cells slots (pc + 2) (s0 :: s1 :: s2 :: s3 :: s4 :: s5 :: s6 :: s7 :: s8 :: s9 :: s10 :: .val (.int x) :: post) rs) : Go K R n0 B Q h cells slots pc (s0 :: s1 :: s2 :: s3 :: s4 :: s5 :: s6 :: s7 :: s8 :: s9 :: s10 :: o :: post) (.int x :: rs) :=
  g_istoreG (pre := [s0, s1, s2, s3, s4, s5, s6, s7, s8, s9, s10]) hK rfl hd ho G
theorem g_istore_12 (hK : Cx K Z own bs mx rt nm) {s0 s1 s2 s3 s4 s5 s6 s7 s8 s9 s10 s11 : Slot} {o : Slot} {x : Int32} (hd : decode bs pc = .ok (.istore 12, 2)) (ho : isOne o = true) (G : Go K R n0 B Q h cells slots (pc + 2) (s0 :: s1 :: s2 :: s3 :: s4 :: s5 :: s6 :: s7 :: s8 :: s9 :: s10 :: s11 :: .val (.int x) :: post) rs) : Go K R n0 B Q h cells slots pc (s0 :: s1 :: s2 :: s3 :: s4 :: s5 :: s6 :: s7 :: s8 :: s9 :: s10 :: s11 :: o :: post) (.int x :: rs) :=
  g_istoreG (pre := [s0, s1, s2, s3, s4, s5, s6, s7, s8, s9, s10, s11]) hK rfl hd ho G
theorem g_istore_13 (hK : Cx K Z own bs mx rt nm) {s0 s1 s2 s3 s4 s5 s6 s7 s8 s9 s10 s11 s12 : Slot} {o : Slot} {x : Int32} (hd : decode bs pc = .ok (.istore 13, 2)) (ho : isOne o = true) (G : Go K R n0 B Q h cells slots (pc + 2) (s0 :: s1 :: s2 :: s3 :: s4 :: s5 :: s6 :: s7 :: s8 :: s9 :: s10 :: s11 :: s12 :: .val (.int x) :: post) rs) : Go K R n0 B Q h cells slots pc (s0 :: s1 :: s2 :: s3 :: s4 :: s5 :: s6 :: s7 :: s8 :: s9 :: s10 :: s11 :: s12 :: o :: post) (.int x :: rs) :=
  g_istoreG (pre := [s0, s1, s2, s3, s4, s5, s6, s7, s8, s9, s10, s11, s12]) hK rfl hd ho G
theorem g_istore_14 (hK : Cx K Z own bs mx rt nm) {s0 s1 s2 s3 s4 s5 s6 s7 s8 s9 s10 s11 s12 s13 : Slot} {o : Slot} {x : Int32} (hd : decode bs pc = .ok (.istore 14, 2)) (ho : isOne o = true) (G : Go K R n0 B Q h cells slots (pc + 2) (s0 :: s1 :: s2 :: s3 :: s4 :: s5 :: s6 :: s7 :: s8 :: s9 :: s10 :: s11 :: s12 :: s13 :: .val (.int x) :: post) rs) : Go K R n0 B Q h cells slots pc (s0 :: s1 :: s2 :: s3 :: s4 :: s5 :: s6 :: s7 :: s8 :: s9 :: s10 :: s11 :: s12 :: s13 :: o :: post) (.int x :: rs) :=
  g_istoreG (pre := [s0, s1, s2, s3, s4, s5, s6, s7, s8, s9, s10, s11, s12, s13]) hK rfl hd ho G
end
section
variable {K : Ctx} {R : Room} {n0 : Nat} {B : State → List Loc → Prop} {Q : Option Value → Heap → Prop} {h : Heap} {cells slots pc : Nat} {Ls : List Slot} {rest : List Value} {Z : State} {own : String} {bs : ByteArray} {mx : Nat} {rt : Option FieldType} {nm : String} {a0 : Array Value}
theorem g_special_1V (hK : Cx K Z own bs mx rt nm) {y : MethodName} {bs' : ByteArray} {mx' i : Nat} {rm : Room} {a : Addr} {x0 : Value} {P : Heap → Prop} {ps : List FieldType} {r : Option FieldType} (W : Nat) (hd : decode bs pc = .ok (.invokespecial i, 3)) (hy1 : y.name = "<init>") (w1 : (Jvm.Cond.methodLink own i y).before a0 Z = true) (w2 : (Jvm.Cond.instanceMethod y).before a0 Z = true) (w3 : (Jvm.Cond.initialized y.cls).before a0 Z = true) (w4 : (Jvm.Cond.code y bs' mx' none).before a0 Z = true) (hy : y.cls ≠ "java/lang/invoke/MethodHandle" ∧ y.cls ≠ "java/lang/invoke/VarHandle")
    (C : Con (kL K) y bs' mx' none [] rm Z n0 #[.ref a, x0] h (qV P)) (pd : parseMethodDescriptor y.desc = some ⟨ps, r⟩) (hlen : 1 = ps.length) (hsz : Ls.length = mx)
    (hr : (Nat.ble (rm.frames + 1) R.frames && Nat.ble (W + (mx' + 11) + rm.locals) R.locals && Nat.ble (rest.map fun v => v.category).sum W && Nat.ble (cells + rm.cells) R.cells && Nat.ble (slots + rm.slots) R.slots) = true)
    (G : ∀ h', P h' → h.size ≤ h'.size → Go K R n0 B Q h' (cells + rm.cells) (slots + rm.slots) (pc + 3) Ls rest) : Go K R n0 B Q h cells slots pc Ls (x0 :: .ref a :: rest) :=
  g_special (argsL := [x0]) hK W C hy1 w1 w2 w3 w4 hy pd hlen hd hsz hr (fun v h' q gr => by obtain ⟨rfl, p⟩ := q; exact G h' p gr)
theorem g_static_3I (hK : Cx K Z own bs mx rt nm) {y : MethodName} {bs' : ByteArray} {mx' i : Nat} {rt' : Option FieldType} {rm : Room} {x0 x1 x2 : Value} {P : Int32 → Heap → Prop} {ps : List FieldType} {r : Option FieldType} (W : Nat) (hd : decode bs pc = .ok (.invokestatic i, 3)) (w1 : (Jvm.Cond.methodLink own i y).before a0 Z = true) (w2 : (Jvm.Cond.static y).before a0 Z = true) (w3 : (Jvm.Cond.initialized y.cls).before a0 Z = true) (w4 : (Jvm.Cond.code y bs' mx' rt').before a0 Z = true) (hy : y.cls ≠ "java/lang/invoke/MethodHandle" ∧ y.cls ≠ "java/lang/invoke/VarHandle")
    (C : Con (kL K) y bs' mx' rt' [] rm Z n0 #[x0, x1, x2] h (qI P)) (pd : parseMethodDescriptor y.desc = some ⟨ps, r⟩) (hlen : 3 = ps.length) (hsz : Ls.length = mx)
    (hr : (Nat.ble (rm.frames + 1) R.frames && Nat.ble (W + (mx' + 11) + rm.locals) R.locals && Nat.ble (rest.map fun v => v.category).sum W && Nat.ble (cells + rm.cells) R.cells && Nat.ble (slots + rm.slots) R.slots) = true)
    (G : ∀ z h', P z h' → h.size ≤ h'.size → Go K R n0 B Q h' (cells + rm.cells) (slots + rm.slots) (pc + 3) Ls (.int z :: rest)) : Go K R n0 B Q h cells slots pc Ls (x2 :: x1 :: x0 :: rest) :=
  g_static (argsL := [x0, x1, x2]) hK W C w1 w2 w3 w4 hy pd hlen hd hsz hr (fun v h' q gr => by obtain ⟨z, rfl, p⟩ := q; exact G z h' p gr)
theorem g_static_3V (hK : Cx K Z own bs mx rt nm) {y : MethodName} {bs' : ByteArray} {mx' i : Nat} {rt' : Option FieldType} {rm : Room} {x0 x1 x2 : Value} {P : Heap → Prop} {ps : List FieldType} {r : Option FieldType} (W : Nat) (hd : decode bs pc = .ok (.invokestatic i, 3)) (w1 : (Jvm.Cond.methodLink own i y).before a0 Z = true) (w2 : (Jvm.Cond.static y).before a0 Z = true) (w3 : (Jvm.Cond.initialized y.cls).before a0 Z = true) (w4 : (Jvm.Cond.code y bs' mx' rt').before a0 Z = true) (hy : y.cls ≠ "java/lang/invoke/MethodHandle" ∧ y.cls ≠ "java/lang/invoke/VarHandle")
    (C : Con (kL K) y bs' mx' rt' [] rm Z n0 #[x0, x1, x2] h (qV P)) (pd : parseMethodDescriptor y.desc = some ⟨ps, r⟩) (hlen : 3 = ps.length) (hsz : Ls.length = mx)
    (hr : (Nat.ble (rm.frames + 1) R.frames && Nat.ble (W + (mx' + 11) + rm.locals) R.locals && Nat.ble (rest.map fun v => v.category).sum W && Nat.ble (cells + rm.cells) R.cells && Nat.ble (slots + rm.slots) R.slots) = true)
    (G : ∀ h', P h' → h.size ≤ h'.size → Go K R n0 B Q h' (cells + rm.cells) (slots + rm.slots) (pc + 3) Ls rest) : Go K R n0 B Q h cells slots pc Ls (x2 :: x1 :: x0 :: rest) :=
  g_static (argsL := [x0, x1, x2]) hK W C w1 w2 w3 w4 hy pd hlen hd hsz hr (fun v h' q gr => by obtain ⟨rfl, p⟩ := q; exact G h' p gr)
theorem g_static_4I (hK : Cx K Z own bs mx rt nm) {y : MethodName} {bs' : ByteArray} {mx' i : Nat} {rt' : Option FieldType} {rm : Room} {x0 x1 x2 x3 : Value} {P : Int32 → Heap → Prop} {ps : List FieldType} {r : Option FieldType} (W : Nat) (hd : decode bs pc = .ok (.invokestatic i, 3)) (w1 : (Jvm.Cond.methodLink own i y).before a0 Z = true) (w2 : (Jvm.Cond.static y).before a0 Z = true) (w3 : (Jvm.Cond.initialized y.cls).before a0 Z = true) (w4 : (Jvm.Cond.code y bs' mx' rt').before a0 Z = true) (hy : y.cls ≠ "java/lang/invoke/MethodHandle" ∧ y.cls ≠ "java/lang/invoke/VarHandle")
    (C : Con (kL K) y bs' mx' rt' [] rm Z n0 #[x0, x1, x2, x3] h (qI P)) (pd : parseMethodDescriptor y.desc = some ⟨ps, r⟩) (hlen : 4 = ps.length) (hsz : Ls.length = mx)
    (hr : (Nat.ble (rm.frames + 1) R.frames && Nat.ble (W + (mx' + 11) + rm.locals) R.locals && Nat.ble (rest.map fun v => v.category).sum W && Nat.ble (cells + rm.cells) R.cells && Nat.ble (slots + rm.slots) R.slots) = true)
    (G : ∀ z h', P z h' → h.size ≤ h'.size → Go K R n0 B Q h' (cells + rm.cells) (slots + rm.slots) (pc + 3) Ls (.int z :: rest)) : Go K R n0 B Q h cells slots pc Ls (x3 :: x2 :: x1 :: x0 :: rest) :=
  g_static (argsL := [x0, x1, x2, x3]) hK W C w1 w2 w3 w4 hy pd hlen hd hsz hr (fun v h' q gr => by obtain ⟨z, rfl, p⟩ := q; exact G z h' p gr)
theorem g_virtual_1I (hK : Cx K Z own bs mx rt nm) {y : MethodName} {bs' : ByteArray} {mx' i : Nat} {rt' : Option FieldType} {rm : Room} {a : Addr} {x0 : Value} {P : Int32 → Heap → Prop} {ps : List FieldType} {r : Option FieldType} (W : Nat) (hd : decode bs pc = .ok (.invokevirtual i, 3)) (w1 : (Jvm.Cond.methodLink own i y).before a0 Z = true) (w2 : (Jvm.Cond.declares y).before a0 Z = true) (w3 : (Jvm.Cond.selects y.cls y y).before a0 Z = true) (w4 : (Jvm.Cond.instanceMethod y).before a0 Z = true) (w5 : (Jvm.Cond.initialized y.cls).before a0 Z = true) (w6 : (Jvm.Cond.code y bs' mx' rt').before a0 Z = true) (hy : y.cls ≠ "java/lang/invoke/MethodHandle" ∧ y.cls ≠ "java/lang/invoke/VarHandle")
    (E : Exa Z h a y.cls) (C : Con (kL K) y bs' mx' rt' [] rm Z n0 #[.ref a, x0] h (qI P)) (pd : parseMethodDescriptor y.desc = some ⟨ps, r⟩) (hlen : 1 = ps.length) (hsz : Ls.length = mx)
    (hr : (Nat.ble (rm.frames + 1) R.frames && Nat.ble (W + (mx' + 11) + rm.locals) R.locals && Nat.ble (rest.map fun v => v.category).sum W && Nat.ble (cells + rm.cells) R.cells && Nat.ble (slots + rm.slots) R.slots) = true)
    (G : ∀ z h', P z h' → h.size ≤ h'.size → Go K R n0 B Q h' (cells + rm.cells) (slots + rm.slots) (pc + 3) Ls (.int z :: rest)) : Go K R n0 B Q h cells slots pc Ls (x0 :: .ref a :: rest) :=
  g_virtual (argsL := [x0]) hK W C E w1 w2 w3 w4 w5 w6 hy pd hlen hd hsz hr (fun v h' q gr => by obtain ⟨z, rfl, p⟩ := q; exact G z h' p gr)
theorem g_virtual_2I (hK : Cx K Z own bs mx rt nm) {y : MethodName} {bs' : ByteArray} {mx' i : Nat} {rt' : Option FieldType} {rm : Room} {a : Addr} {x0 x1 : Value} {P : Int32 → Heap → Prop} {ps : List FieldType} {r : Option FieldType} (W : Nat) (hd : decode bs pc = .ok (.invokevirtual i, 3)) (w1 : (Jvm.Cond.methodLink own i y).before a0 Z = true) (w2 : (Jvm.Cond.declares y).before a0 Z = true) (w3 : (Jvm.Cond.selects y.cls y y).before a0 Z = true) (w4 : (Jvm.Cond.instanceMethod y).before a0 Z = true) (w5 : (Jvm.Cond.initialized y.cls).before a0 Z = true) (w6 : (Jvm.Cond.code y bs' mx' rt').before a0 Z = true) (hy : y.cls ≠ "java/lang/invoke/MethodHandle" ∧ y.cls ≠ "java/lang/invoke/VarHandle")
    (E : Exa Z h a y.cls) (C : Con (kL K) y bs' mx' rt' [] rm Z n0 #[.ref a, x0, x1] h (qI P)) (pd : parseMethodDescriptor y.desc = some ⟨ps, r⟩) (hlen : 2 = ps.length) (hsz : Ls.length = mx)
    (hr : (Nat.ble (rm.frames + 1) R.frames && Nat.ble (W + (mx' + 11) + rm.locals) R.locals && Nat.ble (rest.map fun v => v.category).sum W && Nat.ble (cells + rm.cells) R.cells && Nat.ble (slots + rm.slots) R.slots) = true)
    (G : ∀ z h', P z h' → h.size ≤ h'.size → Go K R n0 B Q h' (cells + rm.cells) (slots + rm.slots) (pc + 3) Ls (.int z :: rest)) : Go K R n0 B Q h cells slots pc Ls (x1 :: x0 :: .ref a :: rest) :=
  g_virtual (argsL := [x0, x1]) hK W C E w1 w2 w3 w4 w5 w6 hy pd hlen hd hsz hr (fun v h' q gr => by obtain ⟨z, rfl, p⟩ := q; exact G z h' p gr)
end
/-! arrays by a function of the place -/
def AI (Z : State) (h : Heap) (a : Addr) (n : Nat) (w : Nat → Int32) : Prop := ∃ cl : Cell, Arr Z h a cl .int ∧ cl.slots.size = n ∧ ∀ i, i < n → cl.slots[i]? = some (.int (w i))
def AJ (Z : State) (h : Heap) (a : Addr) (n : Nat) (w : Nat → Int64) : Prop := ∃ cl : Cell, Arr Z h a cl .long ∧ cl.slots.size = n ∧ ∀ i, i < n → cl.slots[i]? = some (.long (w i))
def upd {α : Type} (w : Nat → α) (i : Nat) (x : α) : Nat → α := fun k => if k = i then x else w k
theorem upd_at {α : Type} (w : Nat → α) (i : Nat) (x : α) : upd w i x i = x := by simp [upd]
theorem upd_ne {α : Type} (w : Nat → α) (i k : Nat) (x : α) (q : k ≠ i) : upd w i x k = w k := by simp [upd, q]
section
variable {Z : State} {h h' : Heap} {a b : Addr} {n sl : Nat} {v : Value} {ws : List Addr}
theorem AI.ext {w : Nat → Int32} (A : AI Z h a n w) (E : Ext h h') : AI Z h' a n w := by obtain ⟨cl, h1, h2⟩ := A; exact ⟨cl, h1.ext E, h2⟩
theorem AJ.ext {w : Nat → Int64} (A : AJ Z h a n w) (E : Ext h h') : AJ Z h' a n w := by obtain ⟨cl, h1, h2⟩ := A; exact ⟨cl, h1.ext E, h2⟩
theorem AI.lt {w : Nat → Int32} (A : AI Z h a n w) : a < h.size := by obtain ⟨cl, h1, h2⟩ := A; exact h1.lt
theorem AJ.lt {w : Nat → Int64} (A : AJ Z h a n w) : a < h.size := by obtain ⟨cl, h1, h2⟩ := A; exact h1.lt
theorem AI.other {w : Nat → Int32} (A : AI Z h a n w) (W : Wr h h' b sl v) (q : a ≠ b) : AI Z h' a n w := by obtain ⟨cl, h1, h2⟩ := A; exact ⟨cl, h1.other W q, h2⟩
theorem AJ.other {w : Nat → Int64} (A : AJ Z h a n w) (W : Wr h h' b sl v) (q : a ≠ b) : AJ Z h' a n w := by obtain ⟨cl, h1, h2⟩ := A; exact ⟨cl, h1.other W q, h2⟩
theorem AI.keep {w : Nat → Int32} (A : AI Z h a n w) (K : Keep h h' ws) (q : a ∉ ws) : AI Z h' a n w := by obtain ⟨cl, h1, h2⟩ := A; exact ⟨cl, ⟨K.2.1 _ _ h1.1 q, h1.2⟩, h2⟩
theorem AJ.keep {w : Nat → Int64} (A : AJ Z h a n w) (K : Keep h h' ws) (q : a ∉ ws) : AJ Z h' a n w := by obtain ⟨cl, h1, h2⟩ := A; exact ⟨cl, ⟨K.2.1 _ _ h1.1 q, h1.2⟩, h2⟩
theorem AI.congr {w w' : Nat → Int32} (A : AI Z h a n w) (q : ∀ i, i < n → w i = w' i) : AI Z h a n w' := by obtain ⟨cl, h1, h2, h3⟩ := A; exact ⟨cl, h1, h2, fun i hi => by rw [← q i hi]; exact h3 i hi⟩
theorem AJ.congr {w w' : Nat → Int64} (A : AJ Z h a n w) (q : ∀ i, i < n → w i = w' i) : AJ Z h a n w' := by obtain ⟨cl, h1, h2, h3⟩ := A; exact ⟨cl, h1, h2, fun i hi => by rw [← q i hi]; exact h3 i hi⟩
theorem cell_set {c : Cell} {j i : Nat} {x : Value} : (c.setSlot j x).slots[i]? = if j = i then (if j < c.slots.size then some x else none) else c.slots[i]? := by
  show (c.slots.setIfInBounds j x)[i]? = _
  rw [Array.getElem?_setIfInBounds]
theorem AI.set {w : Nat → Int32} (A : AI Z h a n w) {j : Nat} {x : Int32} (W : Wr h h' a j (.int x)) : AI Z h' a n (upd w j x) := by
  obtain ⟨cl, h1, h2, h3⟩ := A
  refine ⟨_, h1.same W, by rw [sz_set]; exact h2, fun i hi => ?_⟩
  rw [cell_set]
  by_cases q : j = i
  · subst q; rw [if_pos rfl, if_pos (by omega), upd_at]
  · rw [if_neg q, upd_ne _ _ _ _ (Ne.symm q)]; exact h3 i hi
theorem AJ.set {w : Nat → Int64} (A : AJ Z h a n w) {j : Nat} {x : Int64} (W : Wr h h' a j (.long x)) : AJ Z h' a n (upd w j x) := by
  obtain ⟨cl, h1, h2, h3⟩ := A
  refine ⟨_, h1.same W, by rw [sz_set]; exact h2, fun i hi => ?_⟩
  rw [cell_set]
  by_cases q : j = i
  · subst q; rw [if_pos rfl, if_pos (by omega), upd_at]
  · rw [if_neg q, upd_ne _ _ _ _ (Ne.symm q)]; exact h3 i hi
theorem AI.new {z : Int32} {k : ClassId} (A : Arr Z h a (newA k .int z) .int) (q : 0 ≤ z.toInt) : AI Z h a z.toInt.toNat (fun _ => 0) := by
  obtain ⟨cl, h1, -, h3, h4, h5, -⟩ := Arv.new A (fun e => by rw [Int32.lt_iff_toInt_lt] at e; exact absurd e (Int.not_lt.mpr q))
  exact ⟨cl, h1, h3, fun i hi => h5 i (by rw [h3]; exact hi)⟩
theorem AJ.new {z : Int32} {k : ClassId} (A : Arr Z h a (newA k .long z) .long) (q : 0 ≤ z.toInt) : AJ Z h a z.toInt.toNat (fun _ => 0) := by
  obtain ⟨cl, h1, -, h3, h4, h5, -⟩ := Arv.new A (fun e => by rw [Int32.lt_iff_toInt_lt] at e; exact absurd e (Int.not_lt.mpr q))
  exact ⟨cl, h1, h3, fun i hi => h5 i (by rw [h3]; exact hi)⟩
theorem own_idx {c : Cell} {j : Int32} (S : c.slots.size = n) (hj : 0 ≤ j.toInt ∧ j.toInt < n) : ¬ (j < 0 ∨ c.slots.size ≤ j.toNatClampNeg) := by
  have e0 : (0 : Int32).toInt = 0 := rfl
  simp only [Int32.lt_iff_toInt_lt, Int32.toNatClampNeg, S, e0]; omega
end
section
variable {K : Ctx} {R : Room} {n0 : Nat} {B : State → List Loc → Prop} {Q : Option Value → Heap → Prop} {h : Heap} {cells slots pc : Nat} {Ls : List Slot} {st rest : List Value} {Z : State} {own : String} {bs : ByteArray} {mx : Nat} {rt : Option FieldType} {nm : String} {a0 : Array Value} {a : Addr} {n : Nat}
theorem gA_iaload (hK : Cx K Z own bs mx rt nm) {w : Nat → Int32} {j v : Int32} (A : AI Z h a n w) (hj : 0 ≤ j.toInt ∧ j.toInt < n) (hv : w j.toInt.toNat = v) (hd : decode bs pc = .ok (.iaload, 1)) (G : Go K R n0 B Q h cells slots (pc + 1) Ls (.int v :: rest)) : Go K R n0 B Q h cells slots pc Ls (.int j :: .ref a :: rest) := by
  obtain ⟨cl, h1, h2, h3⟩ := A
  exact g_iaload hK h1 (own_idx h2 hj) (by subst hv; exact h3 j.toInt.toNat (by omega)) hd G
theorem gA_laload (hK : Cx K Z own bs mx rt nm) {w : Nat → Int64} {j : Int32} {v : Int64} (A : AJ Z h a n w) (hj : 0 ≤ j.toInt ∧ j.toInt < n) (hv : w j.toInt.toNat = v) (hd : decode bs pc = .ok (.laload, 1)) (G : Go K R n0 B Q h cells slots (pc + 1) Ls (.long v :: rest)) : Go K R n0 B Q h cells slots pc Ls (.int j :: .ref a :: rest) := by
  obtain ⟨cl, h1, h2, h3⟩ := A
  exact g_laload hK h1 (own_idx h2 hj) (by subst hv; exact h3 j.toInt.toNat (by omega)) hd G
theorem gA_iastore (hK : Cx K Z own bs mx rt nm) {w : Nat → Int32} {j x : Int32} (A : AI Z h a n w) (hj : 0 ≤ j.toInt ∧ j.toInt < n) (hn : n0 ≤ a) (hd : decode bs pc = .ok (.iastore, 1)) (G : ∀ h', Wr h h' a j.toInt.toNat (.int x) → AI Z h' a n (upd w j.toInt.toNat x) → Go K R n0 B Q h' cells slots (pc + 1) Ls rest) : Go K R n0 B Q h cells slots pc Ls (.int x :: .int j :: .ref a :: rest) := by
  obtain ⟨cl, h1, h2, h3⟩ := A
  exact g_iastore hK h1 (own_idx h2 hj) hn hd fun h' W => G h' W (AI.set ⟨cl, h1, h2, h3⟩ W)
theorem gA_lastore (hK : Cx K Z own bs mx rt nm) {w : Nat → Int64} {j : Int32} {x : Int64} (A : AJ Z h a n w) (hj : 0 ≤ j.toInt ∧ j.toInt < n) (hn : n0 ≤ a) (hd : decode bs pc = .ok (.lastore, 1)) (G : ∀ h', Wr h h' a j.toInt.toNat (.long x) → AJ Z h' a n (upd w j.toInt.toNat x) → Go K R n0 B Q h' cells slots (pc + 1) Ls rest) : Go K R n0 B Q h cells slots pc Ls (.long x :: .int j :: .ref a :: rest) := by
  obtain ⟨cl, h1, h2, h3⟩ := A
  exact g_lastore hK h1 (own_idx h2 hj) hn hd fun h' W => G h' W (AJ.set ⟨cl, h1, h2, h3⟩ W)
theorem gA_lenI (hK : Cx K Z own bs mx rt nm) {w : Nat → Int32} {z : Int32} (A : AI Z h a n w) (hz : Nat.toInt32 n = z) (hd : decode bs pc = .ok (.arraylength, 1)) (G : Go K R n0 B Q h cells slots (pc + 1) Ls (.int z :: rest)) : Go K R n0 B Q h cells slots pc Ls (.ref a :: rest) := by
  obtain ⟨cl, h1, h2, h3⟩ := A
  exact g_arraylength hK h1 (by rw [h2]; exact hz) hd G
theorem gA_lenJ (hK : Cx K Z own bs mx rt nm) {w : Nat → Int64} {z : Int32} (A : AJ Z h a n w) (hz : Nat.toInt32 n = z) (hd : decode bs pc = .ok (.arraylength, 1)) (G : Go K R n0 B Q h cells slots (pc + 1) Ls (.int z :: rest)) : Go K R n0 B Q h cells slots pc Ls (.ref a :: rest) := by
  obtain ⟨cl, h1, h2, h3⟩ := A
  exact g_arraylength hK h1 (by rw [h2]; exact hz) hd G
theorem gA_newI (hK : Cx K Z own bs mx rt nm) {z : Int32} (cap : Nat) (w : (Jvm.Cond.arrayClass .int).before a0 Z = true) (hd : decode bs pc = .ok (.newarray .int, 2)) (hn : 0 ≤ z.toInt) (hcap : z.toInt ≤ cap) (hr : (Nat.ble (cap * 8) 536870912 && Nat.ble (cells + 1) R.cells && Nat.ble (slots + cap) R.slots) = true)
    (G : ∀ h' a, a = h.size → Ext h h' → AI Z h' a z.toInt.toNat (fun _ => 0) → Go K R n0 B Q h' (cells + 1) (slots + cap) (pc + 2) Ls (.ref a :: rest)) : Go K R n0 B Q h cells slots pc Ls (.int z :: rest) :=
  g_newarray (aty := .int) hK cap w hd (fun e => by rw [Int32.lt_iff_toInt_lt] at e; exact absurd e (Int.not_lt.mpr hn)) (by simp only [Int32.toNatClampNeg]; omega) hr fun h' a cA e X A => G h' a e X (AI.new A hn)
theorem gA_newJ (hK : Cx K Z own bs mx rt nm) {z : Int32} (cap : Nat) (w : (Jvm.Cond.arrayClass .long).before a0 Z = true) (hd : decode bs pc = .ok (.newarray .long, 2)) (hn : 0 ≤ z.toInt) (hcap : z.toInt ≤ cap) (hr : (Nat.ble (cap * 8) 536870912 && Nat.ble (cells + 1) R.cells && Nat.ble (slots + cap) R.slots) = true)
    (G : ∀ h' a, a = h.size → Ext h h' → AJ Z h' a z.toInt.toNat (fun _ => 0) → Go K R n0 B Q h' (cells + 1) (slots + cap) (pc + 2) Ls (.ref a :: rest)) : Go K R n0 B Q h cells slots pc Ls (.int z :: rest) :=
  g_newarray (aty := .long) hK cap w hd (fun e => by rw [Int32.lt_iff_toInt_lt] at e; exact absurd e (Int.not_lt.mpr hn)) (by simp only [Int32.toNatClampNeg]; omega) hr fun h' a cA e X A => G h' a e X (AJ.new A hn)
end

theorem d1_0 : decode prog_33_method_1_code 0 = .ok (.aload_n 0, 1) := by decide +kernel
theorem d1_1 : decode prog_33_method_1_code 1 = .ok (.invokespecial 1, 3) := by decide +kernel
theorem d1_4 : decode prog_33_method_1_code 4 = .ok (.aload_n 0, 1) := by decide +kernel
theorem d1_5 : decode prog_33_method_1_code 5 = .ok (.iload_n 1, 1) := by decide +kernel
theorem d1_6 : decode prog_33_method_1_code 6 = .ok (.newarray .int, 2) := by decide +kernel
theorem d1_8 : decode prog_33_method_1_code 8 = .ok (.putfield 7, 3) := by decide +kernel
theorem d1_11 : decode prog_33_method_1_code 11 = .ok (.iconst 0, 1) := by decide +kernel
theorem d1_12 : decode prog_33_method_1_code 12 = .ok (.istore_n 2, 1) := by decide +kernel
theorem d1_13 : decode prog_33_method_1_code 13 = .ok (.iload_n 2, 1) := by decide +kernel
theorem d1_14 : decode prog_33_method_1_code 14 = .ok (.iload_n 1, 1) := by decide +kernel
theorem d1_15 : decode prog_33_method_1_code 15 = .ok (.if_icmp .ge 16, 3) := by decide +kernel
theorem d1_18 : decode prog_33_method_1_code 18 = .ok (.aload_n 0, 1) := by decide +kernel
theorem d1_19 : decode prog_33_method_1_code 19 = .ok (.getfield 7, 3) := by decide +kernel
theorem d1_22 : decode prog_33_method_1_code 22 = .ok (.iload_n 2, 1) := by decide +kernel
theorem d1_23 : decode prog_33_method_1_code 23 = .ok (.iload_n 2, 1) := by decide +kernel
theorem d1_24 : decode prog_33_method_1_code 24 = .ok (.iastore, 1) := by decide +kernel
theorem d1_25 : decode prog_33_method_1_code 25 = .ok (.iinc 2 1, 3) := by decide +kernel
theorem d1_28 : decode prog_33_method_1_code 28 = .ok (.goto (-15), 3) := by decide +kernel
theorem d1_31 : decode prog_33_method_1_code 31 = .ok (.return_, 1) := by decide +kernel
theorem d3_0 : decode method_3_code 0 = .ok (.aload_n 1, 1) := by decide +kernel
theorem d3_1 : decode method_3_code 1 = .ok (.iload_n 2, 1) := by decide +kernel
theorem d3_2 : decode method_3_code 2 = .ok (.iaload, 1) := by decide +kernel
theorem d3_3 : decode method_3_code 3 = .ok (.istore 4, 2) := by decide +kernel
theorem d3_5 : decode method_3_code 5 = .ok (.aload_n 1, 1) := by decide +kernel
theorem d3_6 : decode method_3_code 6 = .ok (.iload_n 3, 1) := by decide +kernel
theorem d3_7 : decode method_3_code 7 = .ok (.iaload, 1) := by decide +kernel
theorem d3_8 : decode method_3_code 8 = .ok (.istore 5, 2) := by decide +kernel
theorem d3_10 : decode method_3_code 10 = .ok (.aload_n 0, 1) := by decide +kernel
theorem d3_11 : decode method_3_code 11 = .ok (.iload_n 2, 1) := by decide +kernel
theorem d3_12 : decode method_3_code 12 = .ok (.iload_n 3, 1) := by decide +kernel
theorem d3_13 : decode method_3_code 13 = .ok (.invokevirtual 22, 3) := by decide +kernel
theorem d3_16 : decode method_3_code 16 = .ok (.istore 6, 2) := by decide +kernel
theorem d3_18 : decode method_3_code 18 = .ok (.iload 4, 2) := by decide +kernel
theorem d3_20 : decode method_3_code 20 = .ok (.iload 5, 2) := by decide +kernel
theorem d3_22 : decode method_3_code 22 = .ok (.if_icmp .eq 11, 3) := by decide +kernel
theorem d3_25 : decode method_3_code 25 = .ok (.aload_n 1, 1) := by decide +kernel
theorem d3_26 : decode method_3_code 26 = .ok (.iload 4, 2) := by decide +kernel
theorem d3_28 : decode method_3_code 28 = .ok (.iload 5, 2) := by decide +kernel
theorem d3_30 : decode method_3_code 30 = .ok (.invokestatic 26, 3) := by decide +kernel
theorem d3_33 : decode method_3_code 33 = .ok (.iload 6, 2) := by decide +kernel
theorem d3_35 : decode method_3_code 35 = .ok (.iload 4, 2) := by decide +kernel
theorem d3_37 : decode method_3_code 37 = .ok (.iload 5, 2) := by decide +kernel
theorem d3_39 : decode method_3_code 39 = .ok (.if_icmp .eq 7, 3) := by decide +kernel
theorem d3_42 : decode method_3_code 42 = .ok (.iconst 1, 1) := by decide +kernel
theorem d3_43 : decode method_3_code 43 = .ok (.goto 4, 3) := by decide +kernel
theorem d3_46 : decode method_3_code 46 = .ok (.iconst 0, 1) := by decide +kernel
theorem d3_47 : decode method_3_code 47 = .ok (.if_icmp .ne 7, 3) := by decide +kernel
theorem d3_50 : decode method_3_code 50 = .ok (.iconst 1, 1) := by decide +kernel
theorem d3_51 : decode method_3_code 51 = .ok (.goto 4, 3) := by decide +kernel
theorem d3_55 : decode method_3_code 55 = .ok (.ireturn, 1) := by decide +kernel
theorem d4_0 : decode prog_33_method_3_code 0 = .ok (.aload_n 0, 1) := by decide +kernel
theorem d4_1 : decode prog_33_method_3_code 1 = .ok (.iload_n 1, 1) := by decide +kernel
theorem d4_2 : decode prog_33_method_3_code 2 = .ok (.invokevirtual 13, 3) := by decide +kernel
theorem d4_5 : decode prog_33_method_3_code 5 = .ok (.istore_n 3, 1) := by decide +kernel
theorem d4_6 : decode prog_33_method_3_code 6 = .ok (.aload_n 0, 1) := by decide +kernel
theorem d4_7 : decode prog_33_method_3_code 7 = .ok (.iload_n 2, 1) := by decide +kernel
theorem d4_8 : decode prog_33_method_3_code 8 = .ok (.invokevirtual 13, 3) := by decide +kernel
theorem d4_11 : decode prog_33_method_3_code 11 = .ok (.istore 4, 2) := by decide +kernel
theorem d4_13 : decode prog_33_method_3_code 13 = .ok (.iload_n 3, 1) := by decide +kernel
theorem d4_14 : decode prog_33_method_3_code 14 = .ok (.iload 4, 2) := by decide +kernel
theorem d4_16 : decode prog_33_method_3_code 16 = .ok (.if_icmp .ne 5, 3) := by decide +kernel
theorem d4_19 : decode prog_33_method_3_code 19 = .ok (.iconst 0, 1) := by decide +kernel
theorem d4_20 : decode prog_33_method_3_code 20 = .ok (.ireturn, 1) := by decide +kernel
theorem d4_21 : decode prog_33_method_3_code 21 = .ok (.aload_n 0, 1) := by decide +kernel
theorem d4_22 : decode prog_33_method_3_code 22 = .ok (.getfield 7, 3) := by decide +kernel
theorem d4_25 : decode prog_33_method_3_code 25 = .ok (.iload_n 3, 1) := by decide +kernel
theorem d4_26 : decode prog_33_method_3_code 26 = .ok (.iload 4, 2) := by decide +kernel
theorem d4_28 : decode prog_33_method_3_code 28 = .ok (.iastore, 1) := by decide +kernel
theorem d4_29 : decode prog_33_method_3_code 29 = .ok (.iconst 1, 1) := by decide +kernel
theorem d4_30 : decode prog_33_method_3_code 30 = .ok (.ireturn, 1) := by decide +kernel
theorem d5_0 : decode prog_33_method_2_code 0 = .ok (.iload_n 1, 1) := by decide +kernel
theorem d5_1 : decode prog_33_method_2_code 1 = .ok (.istore_n 2, 1) := by decide +kernel
theorem d5_2 : decode prog_33_method_2_code 2 = .ok (.aload_n 0, 1) := by decide +kernel
theorem d5_3 : decode prog_33_method_2_code 3 = .ok (.getfield 7, 3) := by decide +kernel
theorem d5_6 : decode prog_33_method_2_code 6 = .ok (.iload_n 2, 1) := by decide +kernel
theorem d5_7 : decode prog_33_method_2_code 7 = .ok (.iaload, 1) := by decide +kernel
theorem d5_8 : decode prog_33_method_2_code 8 = .ok (.iload_n 2, 1) := by decide +kernel
theorem d5_9 : decode prog_33_method_2_code 9 = .ok (.if_icmp .eq 30, 3) := by decide +kernel
theorem d5_12 : decode prog_33_method_2_code 12 = .ok (.aload_n 0, 1) := by decide +kernel
theorem d5_13 : decode prog_33_method_2_code 13 = .ok (.getfield 7, 3) := by decide +kernel
theorem d5_16 : decode prog_33_method_2_code 16 = .ok (.iload_n 2, 1) := by decide +kernel
theorem d5_17 : decode prog_33_method_2_code 17 = .ok (.aload_n 0, 1) := by decide +kernel
theorem d5_18 : decode prog_33_method_2_code 18 = .ok (.getfield 7, 3) := by decide +kernel
theorem d5_21 : decode prog_33_method_2_code 21 = .ok (.aload_n 0, 1) := by decide +kernel
theorem d5_22 : decode prog_33_method_2_code 22 = .ok (.getfield 7, 3) := by decide +kernel
theorem d5_25 : decode prog_33_method_2_code 25 = .ok (.iload_n 2, 1) := by decide +kernel
theorem d5_26 : decode prog_33_method_2_code 26 = .ok (.iaload, 1) := by decide +kernel
theorem d5_27 : decode prog_33_method_2_code 27 = .ok (.iaload, 1) := by decide +kernel
theorem d5_28 : decode prog_33_method_2_code 28 = .ok (.iastore, 1) := by decide +kernel
theorem d5_29 : decode prog_33_method_2_code 29 = .ok (.aload_n 0, 1) := by decide +kernel
theorem d5_30 : decode prog_33_method_2_code 30 = .ok (.getfield 7, 3) := by decide +kernel
theorem d5_33 : decode prog_33_method_2_code 33 = .ok (.iload_n 2, 1) := by decide +kernel
theorem d5_34 : decode prog_33_method_2_code 34 = .ok (.iaload, 1) := by decide +kernel
theorem d5_35 : decode prog_33_method_2_code 35 = .ok (.istore_n 2, 1) := by decide +kernel
theorem d5_36 : decode prog_33_method_2_code 36 = .ok (.goto (-34), 3) := by decide +kernel
theorem d5_39 : decode prog_33_method_2_code 39 = .ok (.iload_n 2, 1) := by decide +kernel
theorem d5_40 : decode prog_33_method_2_code 40 = .ok (.ireturn, 1) := by decide +kernel
theorem d6_0 : decode method_4_code 0 = .ok (.aload_n 0, 1) := by decide +kernel
theorem d6_1 : decode method_4_code 1 = .ok (.iconst 0, 1) := by decide +kernel
theorem d6_2 : decode method_4_code 2 = .ok (.iaload, 1) := by decide +kernel
theorem d6_3 : decode method_4_code 3 = .ok (.iload_n 1, 1) := by decide +kernel
theorem d6_4 : decode method_4_code 4 = .ok (.if_icmp .ne 7, 3) := by decide +kernel
theorem d6_7 : decode method_4_code 7 = .ok (.aload_n 0, 1) := by decide +kernel
theorem d6_8 : decode method_4_code 8 = .ok (.iconst 0, 1) := by decide +kernel
theorem d6_9 : decode method_4_code 9 = .ok (.iload_n 2, 1) := by decide +kernel
theorem d6_10 : decode method_4_code 10 = .ok (.iastore, 1) := by decide +kernel
theorem d6_11 : decode method_4_code 11 = .ok (.aload_n 0, 1) := by decide +kernel
theorem d6_12 : decode method_4_code 12 = .ok (.iconst 1, 1) := by decide +kernel
theorem d6_13 : decode method_4_code 13 = .ok (.iaload, 1) := by decide +kernel
theorem d6_14 : decode method_4_code 14 = .ok (.iload_n 1, 1) := by decide +kernel
theorem d6_15 : decode method_4_code 15 = .ok (.if_icmp .ne 7, 3) := by decide +kernel
theorem d6_18 : decode method_4_code 18 = .ok (.aload_n 0, 1) := by decide +kernel
theorem d6_19 : decode method_4_code 19 = .ok (.iconst 1, 1) := by decide +kernel
theorem d6_20 : decode method_4_code 20 = .ok (.iload_n 2, 1) := by decide +kernel
theorem d6_21 : decode method_4_code 21 = .ok (.iastore, 1) := by decide +kernel
theorem d6_22 : decode method_4_code 22 = .ok (.aload_n 0, 1) := by decide +kernel
theorem d6_23 : decode method_4_code 23 = .ok (.iconst 2, 1) := by decide +kernel
theorem d6_24 : decode method_4_code 24 = .ok (.iaload, 1) := by decide +kernel
theorem d6_25 : decode method_4_code 25 = .ok (.iload_n 1, 1) := by decide +kernel
theorem d6_26 : decode method_4_code 26 = .ok (.if_icmp .ne 7, 3) := by decide +kernel
theorem d6_29 : decode method_4_code 29 = .ok (.aload_n 0, 1) := by decide +kernel
theorem d6_30 : decode method_4_code 30 = .ok (.iconst 2, 1) := by decide +kernel
theorem d6_31 : decode method_4_code 31 = .ok (.iload_n 2, 1) := by decide +kernel
theorem d6_32 : decode method_4_code 32 = .ok (.iastore, 1) := by decide +kernel
theorem d6_33 : decode method_4_code 33 = .ok (.aload_n 0, 1) := by decide +kernel
theorem d6_34 : decode method_4_code 34 = .ok (.iconst 3, 1) := by decide +kernel
theorem d6_35 : decode method_4_code 35 = .ok (.iaload, 1) := by decide +kernel
theorem d6_36 : decode method_4_code 36 = .ok (.iload_n 1, 1) := by decide +kernel
theorem d6_37 : decode method_4_code 37 = .ok (.if_icmp .ne 7, 3) := by decide +kernel
theorem d6_40 : decode method_4_code 40 = .ok (.aload_n 0, 1) := by decide +kernel
theorem d6_41 : decode method_4_code 41 = .ok (.iconst 3, 1) := by decide +kernel
theorem d6_42 : decode method_4_code 42 = .ok (.iload_n 2, 1) := by decide +kernel
theorem d6_43 : decode method_4_code 43 = .ok (.iastore, 1) := by decide +kernel
theorem d6_44 : decode method_4_code 44 = .ok (.return_, 1) := by decide +kernel
theorem d7_0 : decode method_5_code 0 = .ok (.aload_n 0, 1) := by decide +kernel
theorem d7_1 : decode method_5_code 1 = .ok (.iload_n 2, 1) := by decide +kernel
theorem d7_2 : decode method_5_code 2 = .ok (.invokevirtual 30, 3) := by decide +kernel
theorem d7_5 : decode method_5_code 5 = .ok (.istore_n 3, 1) := by decide +kernel
theorem d7_6 : decode method_5_code 6 = .ok (.iload_n 3, 1) := by decide +kernel
theorem d7_7 : decode method_5_code 7 = .ok (.aload_n 1, 1) := by decide +kernel
theorem d7_8 : decode method_5_code 8 = .ok (.iload_n 2, 1) := by decide +kernel
theorem d7_9 : decode method_5_code 9 = .ok (.iaload, 1) := by decide +kernel
theorem d7_10 : decode method_5_code 10 = .ok (.if_icmp .ne 7, 3) := by decide +kernel
theorem d7_13 : decode method_5_code 13 = .ok (.iconst 1, 1) := by decide +kernel
theorem d7_14 : decode method_5_code 14 = .ok (.goto 4, 3) := by decide +kernel
theorem d7_18 : decode method_5_code 18 = .ok (.ireturn, 1) := by decide +kernel
theorem w0 {Z : State} {a0 : Array Value} (hw : ∀ d ∈ tables_1, d.before a0 Z = true) : (Jvm.Cond.arrayClass Jvm.ClassFile.FieldType.int).before a0 Z = true := hw _ (List.mem_of_getElem? (i := 0) rfl)
theorem w1 {Z : State} {a0 : Array Value} (hw : ∀ d ∈ tables_1, d.before a0 Z = true) : (Jvm.Cond.classLink "com/example/copyspan/copyspan/plans/DisjointSetsRootPinLaw" (7 : Nat) "com/example/copyspan/copyspan/plans/DisjointSets").before a0 Z = true := hw _ (List.mem_of_getElem? (i := 1) rfl)
theorem w2 {Z : State} {a0 : Array Value} (hw : ∀ d ∈ tables_1, d.before a0 Z = true) : (Jvm.Cond.instantiable "com/example/copyspan/copyspan/plans/DisjointSets" (1 : Nat)).before a0 Z = true := hw _ (List.mem_of_getElem? (i := 2) rfl)
theorem w3 {Z : State} {a0 : Array Value} (hw : ∀ d ∈ tables_1, d.before a0 Z = true) : (Jvm.Cond.initialized "com/example/copyspan/copyspan/plans/DisjointSets").before a0 Z = true := hw _ (List.mem_of_getElem? (i := 3) rfl)
theorem w4 {Z : State} {a0 : Array Value} (hw : ∀ d ∈ tables_1, d.before a0 Z = true) : (Jvm.Cond.methodLink "com/example/copyspan/copyspan/plans/DisjointSetsRootPinLaw" (9 : Nat) ({ cls := "com/example/copyspan/copyspan/plans/DisjointSets", name := "<init>", desc := "(I)V" } : Jvm.MethodName)).before a0 Z = true := hw _ (List.mem_of_getElem? (i := 4) rfl)
theorem w5 {Z : State} {a0 : Array Value} (hw : ∀ d ∈ tables_1, d.before a0 Z = true) : (Jvm.Cond.instanceMethod ({ cls := "com/example/copyspan/copyspan/plans/DisjointSets", name := "<init>", desc := "(I)V" } : Jvm.MethodName)).before a0 Z = true := hw _ (List.mem_of_getElem? (i := 5) rfl)
theorem w6 {Z : State} {a0 : Array Value} (hw : ∀ d ∈ tables_1, d.before a0 Z = true) : (Jvm.Cond.code ({ cls := "com/example/copyspan/copyspan/plans/DisjointSets", name := "<init>", desc := "(I)V" } : Jvm.MethodName) prog_33_method_1_code (3 : Nat) (Option.none : Option Jvm.ClassFile.FieldType)).before a0 Z = true := hw _ (List.mem_of_getElem? (i := 6) rfl)
theorem w7 {Z : State} {a0 : Array Value} (hw : ∀ d ∈ tables_1, d.before a0 Z = true) : (Jvm.Cond.methodLink "com/example/copyspan/copyspan/plans/DisjointSets" (1 : Nat) ({ cls := "java/lang/Object", name := "<init>", desc := "()V" } : Jvm.MethodName)).before a0 Z = true := hw _ (List.mem_of_getElem? (i := 7) rfl)
theorem w8 {Z : State} {a0 : Array Value} (hw : ∀ d ∈ tables_1, d.before a0 Z = true) : (Jvm.Cond.instanceMethod ({ cls := "java/lang/Object", name := "<init>", desc := "()V" } : Jvm.MethodName)).before a0 Z = true := hw _ (List.mem_of_getElem? (i := 8) rfl)
theorem w9 {Z : State} {a0 : Array Value} (hw : ∀ d ∈ tables_1, d.before a0 Z = true) : (Jvm.Cond.code ({ cls := "java/lang/Object", name := "<init>", desc := "()V" } : Jvm.MethodName) object_method_1_code (1 : Nat) (Option.none : Option Jvm.ClassFile.FieldType)).before a0 Z = true := hw _ (List.mem_of_getElem? (i := 9) rfl)
theorem w10 {Z : State} {a0 : Array Value} (hw : ∀ d ∈ tables_1, d.before a0 Z = true) : (Jvm.Cond.fieldLink "com/example/copyspan/copyspan/plans/DisjointSets" (7 : Nat) "com/example/copyspan/copyspan/plans/DisjointSets" "joinedTo" "[I").before a0 Z = true := hw _ (List.mem_of_getElem? (i := 10) rfl)
theorem w11 {Z : State} {a0 : Array Value} (hw : ∀ d ∈ tables_1, d.before a0 Z = true) : (Jvm.Cond.laysFinal "com/example/copyspan/copyspan/plans/DisjointSets" "com/example/copyspan/copyspan/plans/DisjointSets" "joinedTo" "[I").before a0 Z = true := hw _ (List.mem_of_getElem? (i := 11) rfl)
theorem w12 {Z : State} {a0 : Array Value} (hw : ∀ d ∈ tables_1, d.before a0 Z = true) : (Jvm.Cond.methodLink "com/example/copyspan/copyspan/plans/DisjointSetsRootPinLaw" (12 : Nat) ({ cls := "com/example/copyspan/copyspan/plans/DisjointSetsRootPinLaw", name := "step", desc := "(Lcom/example/copyspan/copyspan/plans/DisjointSets;[III)Z" } : Jvm.MethodName)).before a0 Z = true := hw _ (List.mem_of_getElem? (i := 12) rfl)
theorem w13 {Z : State} {a0 : Array Value} (hw : ∀ d ∈ tables_1, d.before a0 Z = true) : (Jvm.Cond.static ({ cls := "com/example/copyspan/copyspan/plans/DisjointSetsRootPinLaw", name := "step", desc := "(Lcom/example/copyspan/copyspan/plans/DisjointSets;[III)Z" } : Jvm.MethodName)).before a0 Z = true := hw _ (List.mem_of_getElem? (i := 13) rfl)
theorem w14 {Z : State} {a0 : Array Value} (hw : ∀ d ∈ tables_1, d.before a0 Z = true) : (Jvm.Cond.initialized "com/example/copyspan/copyspan/plans/DisjointSetsRootPinLaw").before a0 Z = true := hw _ (List.mem_of_getElem? (i := 14) rfl)
theorem w15 {Z : State} {a0 : Array Value} (hw : ∀ d ∈ tables_1, d.before a0 Z = true) : (Jvm.Cond.code ({ cls := "com/example/copyspan/copyspan/plans/DisjointSetsRootPinLaw", name := "step", desc := "(Lcom/example/copyspan/copyspan/plans/DisjointSets;[III)Z" } : Jvm.MethodName) method_3_code (7 : Nat) (Option.some Jvm.ClassFile.FieldType.boolean)).before a0 Z = true := hw _ (List.mem_of_getElem? (i := 15) rfl)
theorem w16 {Z : State} {a0 : Array Value} (hw : ∀ d ∈ tables_1, d.before a0 Z = true) : (Jvm.Cond.methodLink "com/example/copyspan/copyspan/plans/DisjointSetsRootPinLaw" (22 : Nat) ({ cls := "com/example/copyspan/copyspan/plans/DisjointSets", name := "join", desc := "(II)Z" } : Jvm.MethodName)).before a0 Z = true := hw _ (List.mem_of_getElem? (i := 16) rfl)
theorem w17 {Z : State} {a0 : Array Value} (hw : ∀ d ∈ tables_1, d.before a0 Z = true) : (Jvm.Cond.declares ({ cls := "com/example/copyspan/copyspan/plans/DisjointSets", name := "join", desc := "(II)Z" } : Jvm.MethodName)).before a0 Z = true := hw _ (List.mem_of_getElem? (i := 17) rfl)
theorem w18 {Z : State} {a0 : Array Value} (hw : ∀ d ∈ tables_1, d.before a0 Z = true) : (Jvm.Cond.instanceMethod ({ cls := "com/example/copyspan/copyspan/plans/DisjointSets", name := "join", desc := "(II)Z" } : Jvm.MethodName)).before a0 Z = true := hw _ (List.mem_of_getElem? (i := 18) rfl)
theorem w19 {Z : State} {a0 : Array Value} (hw : ∀ d ∈ tables_1, d.before a0 Z = true) : (Jvm.Cond.selects "com/example/copyspan/copyspan/plans/DisjointSets" ({ cls := "com/example/copyspan/copyspan/plans/DisjointSets", name := "join", desc := "(II)Z" } : Jvm.MethodName) ({ cls := "com/example/copyspan/copyspan/plans/DisjointSets", name := "join", desc := "(II)Z" } : Jvm.MethodName)).before a0 Z = true := hw _ (List.mem_of_getElem? (i := 19) rfl)
theorem w20 {Z : State} {a0 : Array Value} (hw : ∀ d ∈ tables_1, d.before a0 Z = true) : (Jvm.Cond.code ({ cls := "com/example/copyspan/copyspan/plans/DisjointSets", name := "join", desc := "(II)Z" } : Jvm.MethodName) prog_33_method_3_code (5 : Nat) (Option.some Jvm.ClassFile.FieldType.boolean)).before a0 Z = true := hw _ (List.mem_of_getElem? (i := 20) rfl)
theorem w21 {Z : State} {a0 : Array Value} (hw : ∀ d ∈ tables_1, d.before a0 Z = true) : (Jvm.Cond.methodLink "com/example/copyspan/copyspan/plans/DisjointSets" (13 : Nat) ({ cls := "com/example/copyspan/copyspan/plans/DisjointSets", name := "root", desc := "(I)I" } : Jvm.MethodName)).before a0 Z = true := hw _ (List.mem_of_getElem? (i := 21) rfl)
theorem w22 {Z : State} {a0 : Array Value} (hw : ∀ d ∈ tables_1, d.before a0 Z = true) : (Jvm.Cond.declares ({ cls := "com/example/copyspan/copyspan/plans/DisjointSets", name := "root", desc := "(I)I" } : Jvm.MethodName)).before a0 Z = true := hw _ (List.mem_of_getElem? (i := 22) rfl)
theorem w23 {Z : State} {a0 : Array Value} (hw : ∀ d ∈ tables_1, d.before a0 Z = true) : (Jvm.Cond.instanceMethod ({ cls := "com/example/copyspan/copyspan/plans/DisjointSets", name := "root", desc := "(I)I" } : Jvm.MethodName)).before a0 Z = true := hw _ (List.mem_of_getElem? (i := 23) rfl)
theorem w24 {Z : State} {a0 : Array Value} (hw : ∀ d ∈ tables_1, d.before a0 Z = true) : (Jvm.Cond.selects "com/example/copyspan/copyspan/plans/DisjointSets" ({ cls := "com/example/copyspan/copyspan/plans/DisjointSets", name := "root", desc := "(I)I" } : Jvm.MethodName) ({ cls := "com/example/copyspan/copyspan/plans/DisjointSets", name := "root", desc := "(I)I" } : Jvm.MethodName)).before a0 Z = true := hw _ (List.mem_of_getElem? (i := 24) rfl)
theorem w25 {Z : State} {a0 : Array Value} (hw : ∀ d ∈ tables_1, d.before a0 Z = true) : (Jvm.Cond.code ({ cls := "com/example/copyspan/copyspan/plans/DisjointSets", name := "root", desc := "(I)I" } : Jvm.MethodName) prog_33_method_2_code (3 : Nat) (Option.some Jvm.ClassFile.FieldType.int)).before a0 Z = true := hw _ (List.mem_of_getElem? (i := 25) rfl)
theorem w26 {Z : State} {a0 : Array Value} (hw : ∀ d ∈ tables_1, d.before a0 Z = true) : (Jvm.Cond.methodLink "com/example/copyspan/copyspan/plans/DisjointSetsRootPinLaw" (26 : Nat) ({ cls := "com/example/copyspan/copyspan/plans/DisjointSetsRootPinLaw", name := "relabel", desc := "([III)V" } : Jvm.MethodName)).before a0 Z = true := hw _ (List.mem_of_getElem? (i := 26) rfl)
theorem w27 {Z : State} {a0 : Array Value} (hw : ∀ d ∈ tables_1, d.before a0 Z = true) : (Jvm.Cond.static ({ cls := "com/example/copyspan/copyspan/plans/DisjointSetsRootPinLaw", name := "relabel", desc := "([III)V" } : Jvm.MethodName)).before a0 Z = true := hw _ (List.mem_of_getElem? (i := 27) rfl)
theorem w28 {Z : State} {a0 : Array Value} (hw : ∀ d ∈ tables_1, d.before a0 Z = true) : (Jvm.Cond.code ({ cls := "com/example/copyspan/copyspan/plans/DisjointSetsRootPinLaw", name := "relabel", desc := "([III)V" } : Jvm.MethodName) method_4_code (3 : Nat) (Option.none : Option Jvm.ClassFile.FieldType)).before a0 Z = true := hw _ (List.mem_of_getElem? (i := 28) rfl)
theorem w29 {Z : State} {a0 : Array Value} (hw : ∀ d ∈ tables_1, d.before a0 Z = true) : (Jvm.Cond.methodLink "com/example/copyspan/copyspan/plans/DisjointSetsRootPinLaw" (18 : Nat) ({ cls := "com/example/copyspan/copyspan/plans/DisjointSetsRootPinLaw", name := "check", desc := "(Lcom/example/copyspan/copyspan/plans/DisjointSets;[II)Z" } : Jvm.MethodName)).before a0 Z = true := hw _ (List.mem_of_getElem? (i := 29) rfl)
theorem w30 {Z : State} {a0 : Array Value} (hw : ∀ d ∈ tables_1, d.before a0 Z = true) : (Jvm.Cond.static ({ cls := "com/example/copyspan/copyspan/plans/DisjointSetsRootPinLaw", name := "check", desc := "(Lcom/example/copyspan/copyspan/plans/DisjointSets;[II)Z" } : Jvm.MethodName)).before a0 Z = true := hw _ (List.mem_of_getElem? (i := 30) rfl)
theorem w31 {Z : State} {a0 : Array Value} (hw : ∀ d ∈ tables_1, d.before a0 Z = true) : (Jvm.Cond.code ({ cls := "com/example/copyspan/copyspan/plans/DisjointSetsRootPinLaw", name := "check", desc := "(Lcom/example/copyspan/copyspan/plans/DisjointSets;[II)Z" } : Jvm.MethodName) method_5_code (4 : Nat) (Option.some Jvm.ClassFile.FieldType.boolean)).before a0 Z = true := hw _ (List.mem_of_getElem? (i := 31) rfl)
theorem w32 {Z : State} {a0 : Array Value} (hw : ∀ d ∈ tables_1, d.before a0 Z = true) : (Jvm.Cond.methodLink "com/example/copyspan/copyspan/plans/DisjointSetsRootPinLaw" (30 : Nat) ({ cls := "com/example/copyspan/copyspan/plans/DisjointSets", name := "root", desc := "(I)I" } : Jvm.MethodName)).before a0 Z = true := hw _ (List.mem_of_getElem? (i := 32) rfl)
theorem pd_0 : parseMethodDescriptor "(I)I" = some ⟨[.int], some (.int)⟩ := by decide +kernel
theorem pd_1 : parseMethodDescriptor "(II)Z" = some ⟨[.int, .int], some (.boolean)⟩ := by decide +kernel
theorem pd_2 : parseMethodDescriptor "([III)V" = some ⟨[.array (.int), .int, .int], none⟩ := by decide +kernel
theorem pd_3 : parseMethodDescriptor "(Lcom/example/copyspan/copyspan/plans/DisjointSets;[II)Z" = some ⟨[.object "com/example/copyspan/copyspan/plans/DisjointSets", .array (.int), .int], some (.boolean)⟩ := by decide +kernel
theorem pd_4 : parseMethodDescriptor "(I)V" = some ⟨[.int], none⟩ := by decide +kernel
theorem pd_5 : parseMethodDescriptor "(Lcom/example/copyspan/copyspan/plans/DisjointSets;[III)Z" = some ⟨[.object "com/example/copyspan/copyspan/plans/DisjointSets", .array (.int), .int, .int], some (.boolean)⟩ := by decide +kernel
def own_mk (a b c d : Fin 4) : Fin 4 → Fin 4 := fun i => if i = 0 then a else if i = 1 then b else if i = 2 then c else d
theorem own_mk_all (g : Fin 4 → Fin 4) : g = own_mk (g 0) (g 1) (g 2) (g 3) := by
  funext i
  match i with
  | 0 => rfl
  | 1 => rfl
  | 2 => rfl
  | 3 => rfl
def own_up (g : Fin 4 → Fin 4) (x y : Fin 4) : Fin 4 → Fin 4 := fun i => if i = x then y else g i
def own_rt (g : Fin 4 → Fin 4) (x : Fin 4) : Fin 4 := g (g (g x))
def own_ok (g : Fin 4 → Fin 4) : Bool := decide (∀ x : Fin 4, g (g (g (g x))) = g (g (g x)))
def own_dp (g : Fin 4 → Fin 4) (x : Fin 4) : Nat := if g x = x then 0 else if g (g x) = g x then 1 else if g (g (g x)) = g (g x) then 2 else 3
set_option maxRecDepth 65536 in
theorem own_half0 : ∀ a b c d x : Fin 4, own_ok (own_mk a b c d) = true → own_mk a b c d x ≠ x → own_ok (own_up (own_mk a b c d) x (own_mk a b c d (own_mk a b c d x))) = true ∧ (∀ y, own_rt (own_up (own_mk a b c d) x (own_mk a b c d (own_mk a b c d x))) y = own_rt (own_mk a b c d) y) ∧ own_dp (own_up (own_mk a b c d) x (own_mk a b c d (own_mk a b c d x))) (own_mk a b c d (own_mk a b c d x)) < own_dp (own_mk a b c d) x ∧ own_rt (own_mk a b c d) (own_mk a b c d (own_mk a b c d x)) = own_rt (own_mk a b c d) x := by decide +kernel
theorem own_half (g : Fin 4 → Fin 4) (x : Fin 4) (hg : own_ok g = true) (hx : g x ≠ x) : own_ok (own_up g x (g (g x))) = true ∧ (∀ y, own_rt (own_up g x (g (g x))) y = own_rt g y) ∧ own_dp (own_up g x (g (g x))) (g (g x)) < own_dp g x ∧ own_rt g (g (g x)) = own_rt g x := by
  rw [own_mk_all g] at hg hx ⊢
  exact own_half0 _ _ _ _ _ hg hx
set_option maxRecDepth 65536 in
theorem own_join0 : ∀ a b c d x y : Fin 4, own_ok (own_mk a b c d) = true → own_rt (own_mk a b c d) x ≠ own_rt (own_mk a b c d) y → own_ok (own_up (own_mk a b c d) (own_rt (own_mk a b c d) x) (own_rt (own_mk a b c d) y)) = true ∧ ∀ w, own_rt (own_up (own_mk a b c d) (own_rt (own_mk a b c d) x) (own_rt (own_mk a b c d) y)) w = if own_rt (own_mk a b c d) w = own_rt (own_mk a b c d) x then own_rt (own_mk a b c d) y else own_rt (own_mk a b c d) w := by decide +kernel
theorem own_join (g : Fin 4 → Fin 4) (x y : Fin 4) (hg : own_ok g = true) (hx : own_rt g x ≠ own_rt g y) : own_ok (own_up g (own_rt g x) (own_rt g y)) = true ∧ ∀ w, own_rt (own_up g (own_rt g x) (own_rt g y)) w = if own_rt g w = own_rt g x then own_rt g y else own_rt g w := by
  rw [own_mk_all g] at hg hx ⊢
  exact own_join0 _ _ _ _ _ _ hg hx
theorem own_top (g : Fin 4 → Fin 4) (x : Fin 4) (hx : g x = x) : own_rt g x = x := by simp only [own_rt, hx]
def I4 (x : Fin 4) : Int32 := Int32.ofNat x.val
theorem I4_int : ∀ x : Fin 4, (I4 x).toInt = (x.val : Int) := by decide +kernel
theorem I4_inj : ∀ x y : Fin 4, I4 x = I4 y ↔ x = y := by decide +kernel
theorem I4_rng (x : Fin 4) : 0 ≤ (I4 x).toInt ∧ (I4 x).toInt < ((4 : Nat) : Int) := by rw [I4_int]; omega
theorem I4_mask (a : Int32) : ∃ x : Fin 4, a &&& 3 = I4 x := by
  have m := c_mask a 3 2 (by decide) (by decide)
  refine ⟨⟨(a &&& 3).toInt.toNat, by omega⟩, Int32.toInt_inj.mp ?_⟩
  rw [I4_int]; show _ = (((a &&& 3).toInt.toNat : Nat) : Int); omega
def t4 (g : Fin 4 → Fin 4) : Nat → Int32 := fun i => if h : i < 4 then I4 (g ⟨i, h⟩) else 0
theorem t4_at (g : Fin 4 → Fin 4) (x : Fin 4) : t4 g (I4 x).toInt.toNat = I4 (g x) := by
  rw [I4_int, Int.toNat_natCast]; simp [t4]
theorem t4_up (g : Fin 4 → Fin 4) (x y : Fin 4) : upd (t4 g) (I4 x).toInt.toNat (I4 y) = t4 (own_up g x y) := by
  rw [I4_int, Int.toNat_natCast]
  funext i
  simp only [upd, t4, own_up]
  by_cases h : i < 4
  · by_cases q : i = x.val
    · subst q; simp
    · have : ¬ ((⟨i, h⟩ : Fin 4) = x) := fun e => q (by rw [← e])
      simp [h, q, this]
  · have : i ≠ x.val := by omega
    simp [h, this]
theorem t4_id {Z : State} {h : Heap} {a : Addr} {w : Nat → Int32} (A : AI Z h a 4 w) (q0 : w 0 = 0) (q1 : w 1 = 1) (q2 : w 2 = 2) (q3 : w 3 = 3) : AI Z h a 4 (t4 fun x => x) := A.congr fun i hi => by
  match i, hi with
  | 0, _ => rw [q0]; rfl
  | 1, _ => rw [q1]; rfl
  | 2, _ => rw [q2]; rfl
  | 3, _ => rw [q3]; rfl
def own_DS (Z : State) (n0 : Nat) (h : Heap) (o aj : Addr) (g : Fin 4 → Fin 4) : Prop := own_ok g = true ∧ Exa Z h o "com/example/copyspan/copyspan/plans/DisjointSets" ∧ Fld Z h o "com/example/copyspan/copyspan/plans/DisjointSets" "joinedTo" "[I" (.ref aj) ∧ AI Z h aj 4 (t4 g) ∧ o ≠ aj ∧ n0 ≤ aj
def own_INV (Z : State) (n0 : Nat) (h : Heap) (o al : Addr) : Prop := ∃ aj g, own_DS Z n0 h o aj g ∧ AI Z h al 4 (t4 (own_rt g)) ∧ al ≠ aj ∧ o ≠ al ∧ n0 ≤ al
theorem own_DS_wr {Z : State} {n0 : Nat} {h h' : Heap} {o aj : Addr} {g g' : Fin 4 → Fin 4} {sl : Nat} {v : Value} (D : own_DS Z n0 h o aj g) (W : Wr h h' aj sl v) (A : AI Z h' aj 4 (t4 g')) (hg : own_ok g' = true) : own_DS Z n0 h' o aj g' :=
  ⟨hg, D.2.1.wr W, D.2.2.1.other W (Or.inl D.2.2.2.2.1), A, D.2.2.2.2.1, D.2.2.2.2.2⟩
set_option maxRecDepth 65536 in
set_option maxHeartbeats 4000000 in
theorem rm1 (l : Launch) (Z : State) (a0 : Array Value) (hw : ∀ d ∈ tables_1, d.before a0 Z = true) (n0 : Nat) (h : Heap) (Z0 : n0 ≤ h.size) (o : Addr) (go : n0 ≤ o) (E : Exa Z h o "com/example/copyspan/copyspan/plans/DisjointSets") (F : Fld Z h o "com/example/copyspan/copyspan/plans/DisjointSets" "joinedTo" "[I" .null) : Con l (⟨"com/example/copyspan/copyspan/plans/DisjointSets", "<init>", "(I)V"⟩ : MethodName) prog_33_method_1_code 3 none [] ({ frames := 1, cells := 1, slots := 4, locals := 14 } : Room) Z n0 #[.ref o, .int 4] h (qV fun h' => ∃ aj, own_DS Z n0 h' o aj (fun x => x) ∧ h.size ≤ aj ∧ Keep h h' [o]) := by
  refine con_of_go (Ls := [.val (.ref o), .val (.int 4), .unset]) (plainFor_of_name (by first | (simp [plainName, overriddenIn]; done) | decide +kernel)) (fun m => by first | (simp [entryFrame, mkF, argsToLocals, Value.category]; done) | rfl) ?_
  intro K hl hK
  subst hl
  change Cx K Z "com/example/copyspan/copyspan/plans/DisjointSets" prog_33_method_1_code 3 none "<init>" at hK
  refine g_aloadN (pc := 0) hK d1_0 rfl ?_
  refine g_objinit (pc := 1) hK 2 (w7 hw) (w8 hw) (w9 hw) d1_1 rfl rfl ?_
  refine g_aloadN (pc := 4) hK d1_4 rfl ?_
  refine g_iloadN (pc := 5) hK d1_5 rfl ?_
  refine gA_newI (pc := 6) hK 4 (w0 hw) d1_6 (by decide) (by decide) rfl (fun h6 o6 ea6 X6 A6 => ?_)
  have gj : n0 ≤ o6 := ea6 ▸ Z0
  have hj : h.size ≤ o6 := Nat.le_of_eq ea6.symm
  have oj : o ≠ o6 := fun e => absurd E.lt (by rw [e, ea6]; exact Nat.lt_irrefl _)
  have F := F.ext X6
  have E := E.ext X6
  have A : AI Z h6 o6 4 (fun _ => 0) := A6
  have Kp : Keep h h6 [o] := (Keep.refl h [o]).ext X6
  refine g_put (pc := 8) (ty := .array (.int)) hK (w10 hw) (Or.inr ⟨(w11 hw), rfl, rfl⟩) (w2 hw) d1_8 (by assumption) (by assumption) (by assumption) (by decide) rfl rfl (fun h8 W8 => ?_)
  have A := A.other W8 (Ne.symm oj)
  have F := F.same W8
  have E := E.wr W8
  have Kp := Kp.wr W8 (Or.inl (List.mem_singleton.mpr rfl))
  refine g_iconst (pc := 11) (z := (0 : Int32)) hK d1_11 (by decide) ?_
  refine g_istore_2 (pc := 12) hK d1_12 rfl ?_
  refine g_iloadN (pc := 13) hK d1_13 rfl ?_
  refine g_iloadN (pc := 14) hK d1_14 rfl ?_
  refine gN_icmp_ge (pc := 15) hK d1_15 (by decide) ?_
  refine g_aloadN (pc := 18) hK d1_18 rfl ?_
  refine g_get (pc := 19) hK (w10 hw) d1_19 (by assumption) ?_
  refine g_iloadN (pc := 22) hK d1_22 rfl ?_
  refine g_iloadN (pc := 23) hK d1_23 rfl ?_
  refine gA_iastore (pc := 24) hK A (by decide) gj d1_24 (fun h24_1 W24_1 A24 => ?_)
  have A := A24
  have F := F.other W24_1 (Or.inl oj)
  have E := E.wr W24_1
  have Kp := Kp.wr W24_1 (Or.inr hj)
  refine g_iinc_2 (pc := 25) (z := (1 : Int32)) hK d1_25 (by decide) ?_
  refine g_goto (pc := 28) (pc' := 13) hK d1_28 (by decide) ?_
  refine g_iloadN (pc := 13) hK d1_13 rfl ?_
  refine g_iloadN (pc := 14) hK d1_14 rfl ?_
  refine gN_icmp_ge (pc := 15) hK d1_15 (by decide) ?_
  refine g_aloadN (pc := 18) hK d1_18 rfl ?_
  refine g_get (pc := 19) hK (w10 hw) d1_19 (by assumption) ?_
  refine g_iloadN (pc := 22) hK d1_22 rfl ?_
  refine g_iloadN (pc := 23) hK d1_23 rfl ?_
  refine gA_iastore (pc := 24) hK A (by decide) gj d1_24 (fun h24_2 W24_2 A24 => ?_)
  have A := A24
  have F := F.other W24_2 (Or.inl oj)
  have E := E.wr W24_2
  have Kp := Kp.wr W24_2 (Or.inr hj)
  refine g_iinc_2 (pc := 25) (z := (1 : Int32)) hK d1_25 (by decide) ?_
  refine g_goto (pc := 28) (pc' := 13) hK d1_28 (by decide) ?_
  refine g_iloadN (pc := 13) hK d1_13 rfl ?_
  refine g_iloadN (pc := 14) hK d1_14 rfl ?_
  refine gN_icmp_ge (pc := 15) hK d1_15 (by decide) ?_
  refine g_aloadN (pc := 18) hK d1_18 rfl ?_
  refine g_get (pc := 19) hK (w10 hw) d1_19 (by assumption) ?_
  refine g_iloadN (pc := 22) hK d1_22 rfl ?_
  refine g_iloadN (pc := 23) hK d1_23 rfl ?_
  refine gA_iastore (pc := 24) hK A (by decide) gj d1_24 (fun h24_3 W24_3 A24 => ?_)
  have A := A24
  have F := F.other W24_3 (Or.inl oj)
  have E := E.wr W24_3
  have Kp := Kp.wr W24_3 (Or.inr hj)
  refine g_iinc_2 (pc := 25) (z := (1 : Int32)) hK d1_25 (by decide) ?_
  refine g_goto (pc := 28) (pc' := 13) hK d1_28 (by decide) ?_
  refine g_iloadN (pc := 13) hK d1_13 rfl ?_
  refine g_iloadN (pc := 14) hK d1_14 rfl ?_
  refine gN_icmp_ge (pc := 15) hK d1_15 (by decide) ?_
  refine g_aloadN (pc := 18) hK d1_18 rfl ?_
  refine g_get (pc := 19) hK (w10 hw) d1_19 (by assumption) ?_
  refine g_iloadN (pc := 22) hK d1_22 rfl ?_
  refine g_iloadN (pc := 23) hK d1_23 rfl ?_
  refine gA_iastore (pc := 24) hK A (by decide) gj d1_24 (fun h24_4 W24_4 A24 => ?_)
  have A := A24
  have F := F.other W24_4 (Or.inl oj)
  have E := E.wr W24_4
  have Kp := Kp.wr W24_4 (Or.inr hj)
  refine g_iinc_2 (pc := 25) (z := (1 : Int32)) hK d1_25 (by decide) ?_
  refine g_goto (pc := 28) (pc' := 13) hK d1_28 (by decide) ?_
  refine g_iloadN (pc := 13) hK d1_13 rfl ?_
  refine g_iloadN (pc := 14) hK d1_14 rfl ?_
  refine gY_icmp_ge (pc := 15) (pc' := 31) hK d1_15 (by decide) (by decide) ?_
  exact g_return (pc := 31) hK d1_31 rfl ⟨o6, ⟨by decide, E, F, t4_id A (by decide) (by decide) (by decide) (by decide), oj, gj⟩, hj, Kp⟩
set_option maxRecDepth 65536 in
set_option maxHeartbeats 4000000 in
theorem rm2 (l : Launch) (Z : State) (a0 : Array Value) (hw : ∀ d ∈ tables_1, d.before a0 Z = true) (n0 : Nat) (h : Heap) (o aj : Addr) (g0 : Fin 4 → Fin 4) (x0 : Fin 4) (D0 : own_DS Z n0 h o aj g0) : Con l (⟨"com/example/copyspan/copyspan/plans/DisjointSets", "root", "(I)I"⟩ : MethodName) prog_33_method_2_code 3 (some .int) [] ({ frames := 0, cells := 0, slots := 0, locals := 0 } : Room) Z n0 #[.ref o, .int (I4 x0)] h (qI fun z h' => z = I4 (own_rt g0 x0) ∧ ∃ g', own_DS Z n0 h' o aj g' ∧ (∀ y, own_rt g' y = own_rt g0 y) ∧ Keep h h' [aj]) := by
  refine con_of_go (Ls := [.val (.ref o), .val (.int (I4 x0)), .unset]) (plainFor_of_name (by first | (simp [plainName, overriddenIn]; done) | decide +kernel)) (fun m => by first | (simp [entryFrame, mkF, argsToLocals, Value.category]; done) | rfl) ?_
  intro K hl hK
  subst hl
  change Cx K Z "com/example/copyspan/copyspan/plans/DisjointSets" prog_33_method_2_code 3 (some .int) "root" at hK
  have LP : ∀ (n : Nat) (h1 : Heap) (g : Fin 4 → Fin 4) (x : Fin 4), own_dp g x < n → own_DS Z n0 h1 o aj g → Keep h h1 [aj] → (∀ y, own_rt g y = own_rt g0 y) → own_rt g x = own_rt g0 x0 → Go K ({ frames := 0, cells := 0, slots := 0, locals := 0 } : Room) n0 (nB (kS K) ({ frames := 0, cells := 0, slots := 0, locals := 0 } : Room)) (qI fun z h' => z = I4 (own_rt g0 x0) ∧ ∃ g', own_DS Z n0 h' o aj g' ∧ (∀ y, own_rt g' y = own_rt g0 y) ∧ Keep h h' [aj]) h1 0 0 2 [.val (.ref o), .val (.int (I4 x0)), .val (.int (I4 x))] [] := by
    intro n
    induction n with
    | zero => intro h1 g x hd; exact absurd hd (Nat.not_lt_zero _)
    | succ n ih =>
      intro h1 g x hd D Kp hr hx
      have E := D.2.1
      have F := D.2.2.1
      have A := D.2.2.2.1
      refine g_aloadN (pc := 2) hK d5_2 rfl ?_
      refine g_get (pc := 3) hK (w10 hw) d5_3 (by assumption) ?_
      refine g_iloadN (pc := 6) hK d5_6 rfl ?_
      refine gA_iaload (pc := 7) hK A (I4_rng _) (t4_at _ _) d5_7 ?_
      refine g_iloadN (pc := 8) hK d5_8 rfl ?_
      refine g_icmp_eq (pc := 9) (pc' := 39) hK d5_9 (by decide) (fun b9 => ?_) (fun b9 => ?_)
      · refine g_iloadN (pc := 39) hK d5_39 rfl ?_
        exact g_ireturn (pc := 40) hK d5_40 rfl ⟨by rw [← hx, own_top g x ((I4_inj _ _).mp b9)], g, D, hr, Kp⟩
      · refine g_aloadN (pc := 12) hK d5_12 rfl ?_
        refine g_get (pc := 13) hK (w10 hw) d5_13 (by assumption) ?_
        refine g_iloadN (pc := 16) hK d5_16 rfl ?_
        refine g_aloadN (pc := 17) hK d5_17 rfl ?_
        refine g_get (pc := 18) hK (w10 hw) d5_18 (by assumption) ?_
        refine g_aloadN (pc := 21) hK d5_21 rfl ?_
        refine g_get (pc := 22) hK (w10 hw) d5_22 (by assumption) ?_
        refine g_iloadN (pc := 25) hK d5_25 rfl ?_
        refine gA_iaload (pc := 26) hK A (I4_rng _) (t4_at _ _) d5_26 ?_
        refine gA_iaload (pc := 27) hK A (I4_rng _) (t4_at _ _) d5_27 ?_
        refine gA_iastore (pc := 28) hK A (I4_rng _) D.2.2.2.2.2 d5_28 (fun h28 W28 A28 => ?_)
        have hgx : g x ≠ x := fun q => b9 ((I4_inj _ _).mpr q)
        obtain ⟨k1, k2, k3, k4⟩ := own_half g x D.1 hgx
        rw [t4_up] at A28
        have D := own_DS_wr D W28 A28 k1
        have Kp := Kp.wr W28 (Or.inl (List.mem_singleton.mpr rfl))
        have F := D.2.2.1
        have A := D.2.2.2.1
        refine g_aloadN (pc := 29) hK d5_29 rfl ?_
        refine g_get (pc := 30) hK (w10 hw) d5_30 (by assumption) ?_
        refine g_iloadN (pc := 33) hK d5_33 rfl ?_
        refine gA_iaload (pc := 34) hK A (I4_rng _) (show t4 _ _ = I4 (g (g x)) by rw [t4_at]; simp [own_up]) d5_34 ?_
        refine g_istore_2 (pc := 35) hK d5_35 rfl ?_
        refine g_goto (pc := 36) (pc' := 2) hK d5_36 (by decide) ?_
        exact ih _ _ _ (by omega) D Kp (fun y => (k2 y).trans (hr y)) ((k2 _).trans (k4.trans hx))
  refine g_iloadN (pc := 0) hK d5_0 rfl ?_
  refine g_istore_2 (pc := 1) hK d5_1 rfl ?_
  exact LP _ h g0 x0 (Nat.lt_succ_self _) D0 (Keep.refl h [aj]) (fun _ => rfl) rfl
set_option maxRecDepth 65536 in
set_option maxHeartbeats 4000000 in
theorem rm3 (l : Launch) (Z : State) (a0 : Array Value) (hw : ∀ d ∈ tables_1, d.before a0 Z = true) (n0 : Nat) (h : Heap) (o aj : Addr) (g0 : Fin 4 → Fin 4) (x y : Fin 4) (D0 : own_DS Z n0 h o aj g0) : Con l (⟨"com/example/copyspan/copyspan/plans/DisjointSets", "join", "(II)Z"⟩ : MethodName) prog_33_method_3_code 5 (some .boolean) [] ({ frames := 1, cells := 0, slots := 0, locals := 20 } : Room) Z n0 #[.ref o, .int (I4 x), .int (I4 y)] h (qI fun z h' => ∃ g', own_DS Z n0 h' o aj g' ∧ Keep h h' [aj] ∧ ((own_rt g0 x = own_rt g0 y ∧ z = 0 ∧ ∀ w, own_rt g' w = own_rt g0 w) ∨ (own_rt g0 x ≠ own_rt g0 y ∧ z = 1 ∧ ∀ w, own_rt g' w = if own_rt g0 w = own_rt g0 x then own_rt g0 y else own_rt g0 w))) := by
  refine con_of_go (Ls := [.val (.ref o), .val (.int (I4 x)), .val (.int (I4 y)), .unset, .unset]) (plainFor_of_name (by first | (simp [plainName, overriddenIn]; done) | decide +kernel)) (fun m => by first | (simp [entryFrame, mkF, argsToLocals, Value.category]; done) | rfl) ?_
  intro K hl hK
  subst hl
  change Cx K Z "com/example/copyspan/copyspan/plans/DisjointSets" prog_33_method_3_code 5 (some .boolean) "join" at hK
  refine g_aloadN (pc := 0) hK d4_0 rfl ?_
  refine g_iloadN (pc := 1) hK d4_1 rfl ?_
  refine g_virtual_1I (pc := 2) hK 4 d4_2 (w21 hw) (w22 hw) (w24 hw) (w23 hw) (w3 hw) (w25 hw) (by decide) D0.2.1 (rm2 _ Z a0 hw n0 _ o aj g0 x D0) pd_0 rfl rfl rfl (fun z2 h2 q2 gr2 => ?_)
  obtain ⟨rfl, g1, D1, r1, K1⟩ := q2
  refine g_istore_3 (pc := 5) hK d4_5 rfl ?_
  refine g_aloadN (pc := 6) hK d4_6 rfl ?_
  refine g_iloadN (pc := 7) hK d4_7 rfl ?_
  refine g_virtual_1I (pc := 8) hK 4 d4_8 (w21 hw) (w22 hw) (w24 hw) (w23 hw) (w3 hw) (w25 hw) (by decide) D1.2.1 (rm2 _ Z a0 hw n0 _ o aj g1 y D1) pd_0 rfl rfl rfl (fun z8 h8 q8 gr8 => ?_)
  obtain ⟨rfl, g2, D2, r2, K2⟩ := q8
  have K12 := K1.trans K2 (fun x hx => Or.inl hx)
  rw [r1]
  have r3 : ∀ w, own_rt g2 w = own_rt g0 w := fun w => (r2 w).trans (r1 w)
  refine g_istore_4 (pc := 11) hK d4_11 rfl ?_
  refine g_iloadN (pc := 13) hK d4_13 rfl ?_
  refine g_iload (pc := 14) hK d4_14 rfl ?_
  refine g_icmp_ne (pc := 16) (pc' := 21) hK d4_16 (by decide) (fun b16 => ?_) (fun b16 => ?_)
  · refine g_aloadN (pc := 21) hK d4_21 rfl ?_
    refine g_get (pc := 22) hK (w10 hw) d4_22 D2.2.2.1 ?_
    refine g_iloadN (pc := 25) hK d4_25 rfl ?_
    refine g_iload (pc := 26) hK d4_26 rfl ?_
    have hne : own_rt g2 x ≠ own_rt g2 y := fun q => b16 ((I4_inj _ _).mpr (by rw [← r3, ← r3]; exact q))
    obtain ⟨k1, k2⟩ := own_join g2 x y D2.1 hne
    refine gA_iastore (pc := 28) hK D2.2.2.2.1 (I4_rng _) D2.2.2.2.2.2 d4_28 (fun h28 W28 A28 => ?_)
    rw [t4_up, ← r3 x, ← r3 y] at A28
    have D3 := own_DS_wr D2 W28 A28 k1
    have K3 := K12.wr W28 (Or.inl (List.mem_singleton.mpr rfl))
    refine g_iconst (pc := 29) (z := (1 : Int32)) hK d4_29 (by decide) ?_
    exact g_zreturn (pc := 30) hK d4_30 (by first | rfl | decide) rfl ⟨_, D3, K3, Or.inr ⟨fun q => b16 ((I4_inj _ _).mpr q), rfl, fun w => by rw [k2 w, r3, r3, r3]⟩⟩
  · refine g_iconst (pc := 19) (z := (0 : Int32)) hK d4_19 (by decide) ?_
    exact g_zreturn (pc := 20) hK d4_20 (by first | rfl | decide) rfl ⟨g2, D2, K12, Or.inl ⟨(I4_inj _ _).mp b16, rfl, r3⟩⟩
def own_rl (n : Nat) (g : Fin 4 → Fin 4) (fr to : Fin 4) : Fin 4 → Fin 4 := fun k => if k.val < n ∧ g k = fr then to else g k
theorem own_rl_zero (g : Fin 4 → Fin 4) (fr to : Fin 4) : own_rl 0 g fr to = g := by funext k; simp [own_rl]
theorem own_rl_self (i : Fin 4) (g : Fin 4 → Fin 4) (fr to : Fin 4) : own_rl i.val g fr to i = g i := by simp [own_rl]
theorem own_rl_no (i : Fin 4) (g : Fin 4 → Fin 4) (fr to : Fin 4) (q : g i ≠ fr) : own_rl (i.val + 1) g fr to = own_rl i.val g fr to := by
  funext k
  simp only [own_rl]
  by_cases e : k = i
  · subst e; simp [q]
  · have : k.val ≠ i.val := fun z => e (Fin.ext z)
    have e2 : k.val < i.val + 1 ↔ k.val < i.val := by omega
    simp only [e2]
theorem own_rl_yes (i : Fin 4) (g : Fin 4 → Fin 4) (fr to : Fin 4) (q : g i = fr) : own_up (own_rl i.val g fr to) i to = own_rl (i.val + 1) g fr to := by
  funext k
  simp only [own_rl, own_up]
  by_cases e : k = i
  · subst e; simp [q]
  · have : k.val ≠ i.val := fun z => e (Fin.ext z)
    have e2 : k.val < i.val + 1 ↔ k.val < i.val := by omega
    simp only [e2, e, if_false]
set_option maxRecDepth 65536 in
set_option maxHeartbeats 4000000 in
theorem rm4 (l : Launch) (Z : State) (a0 : Array Value) (hw : ∀ d ∈ tables_1, d.before a0 Z = true) (n0 : Nat) (h : Heap) (al : Addr) (gl : n0 ≤ al) (g : Fin 4 → Fin 4) (fr to : Fin 4) (A0 : AI Z h al 4 (t4 g)) : Con l (⟨"com/example/copyspan/copyspan/plans/DisjointSetsRootPinLaw", "relabel", "([III)V"⟩ : MethodName) method_4_code 3 none [] ({ frames := 0, cells := 0, slots := 0, locals := 0 } : Room) Z n0 #[.ref al, .int (I4 fr), .int (I4 to)] h (qV fun h' => AI Z h' al 4 (t4 (own_rl 4 g fr to)) ∧ Keep h h' [al]) := by
  refine con_of_go (Ls := [.val (.ref al), .val (.int (I4 fr)), .val (.int (I4 to))]) (plainFor_of_name (by first | (simp [plainName, overriddenIn]; done) | decide +kernel)) (fun m => by first | (simp [entryFrame, mkF, argsToLocals, Value.category]; done) | rfl) ?_
  intro K hl hK
  subst hl
  change Cx K Z "com/example/copyspan/copyspan/plans/DisjointSetsRootPinLaw" method_4_code 3 none "relabel" at hK
  have J4 : ∀ h1, AI Z h1 al 4 (t4 (own_rl 4 g fr to)) → Keep h h1 [al] → Go K ({ frames := 0, cells := 0, slots := 0, locals := 0 } : Room) n0 (nB (kS K) ({ frames := 0, cells := 0, slots := 0, locals := 0 } : Room)) (qV fun h' => AI Z h' al 4 (t4 (own_rl 4 g fr to)) ∧ Keep h h' [al]) h1 0 0 44 [.val (.ref al), .val (.int (I4 fr)), .val (.int (I4 to))] [] := by
    intro h1 A Kp
    exact g_return (pc := 44) hK d6_44 rfl ⟨A, Kp⟩
  have J3 : ∀ h1, AI Z h1 al 4 (t4 (own_rl 3 g fr to)) → Keep h h1 [al] → Go K ({ frames := 0, cells := 0, slots := 0, locals := 0 } : Room) n0 (nB (kS K) ({ frames := 0, cells := 0, slots := 0, locals := 0 } : Room)) (qV fun h' => AI Z h' al 4 (t4 (own_rl 4 g fr to)) ∧ Keep h h' [al]) h1 0 0 33 [.val (.ref al), .val (.int (I4 fr)), .val (.int (I4 to))] [] := by
    intro h1 A Kp
    refine g_aloadN (pc := 33) hK d6_33 rfl ?_
    refine g_iconst (pc := 34) (z := (3 : Int32)) hK d6_34 (by decide) ?_
    refine gA_iaload (pc := 35) hK A (I4_rng 3) (show t4 _ (I4 3).toInt.toNat = I4 (g 3) by rw [t4_at]; exact congrArg I4 (own_rl_self 3 g fr to)) d6_35 ?_
    refine g_iloadN (pc := 36) hK d6_36 rfl ?_
    refine g_icmp_ne (pc := 37) (pc' := 44) hK d6_37 (by decide) (fun b37 => ?_) (fun b37 => ?_)
    · have q : own_rl 4 g fr to = own_rl 3 g fr to := own_rl_no 3 g fr to (fun e => b37 ((I4_inj _ _).mpr e))
      exact J4 _ (by rw [q]; exact A) Kp
    · refine g_aloadN (pc := 40) hK d6_40 rfl ?_
      refine g_iconst (pc := 41) (z := (3 : Int32)) hK d6_41 (by decide) ?_
      refine g_iloadN (pc := 42) hK d6_42 rfl ?_
      refine gA_iastore (pc := 43) hK A (I4_rng 3) gl d6_43 (fun h43 W43 A43 => ?_)
      have q : own_up (own_rl 3 g fr to) 3 to = own_rl 4 g fr to := own_rl_yes 3 g fr to ((I4_inj _ _).mp b37)
      have A : AI Z h43 al 4 (upd (t4 (own_rl 3 g fr to)) (I4 3).toInt.toNat (I4 to)) := A43
      rw [t4_up, q] at A
      exact J4 _ A (Kp.wr W43 (Or.inl (List.mem_singleton.mpr rfl)))
  have J2 : ∀ h1, AI Z h1 al 4 (t4 (own_rl 2 g fr to)) → Keep h h1 [al] → Go K ({ frames := 0, cells := 0, slots := 0, locals := 0 } : Room) n0 (nB (kS K) ({ frames := 0, cells := 0, slots := 0, locals := 0 } : Room)) (qV fun h' => AI Z h' al 4 (t4 (own_rl 4 g fr to)) ∧ Keep h h' [al]) h1 0 0 22 [.val (.ref al), .val (.int (I4 fr)), .val (.int (I4 to))] [] := by
    intro h1 A Kp
    refine g_aloadN (pc := 22) hK d6_22 rfl ?_
    refine g_iconst (pc := 23) (z := (2 : Int32)) hK d6_23 (by decide) ?_
    refine gA_iaload (pc := 24) hK A (I4_rng 2) (show t4 _ (I4 2).toInt.toNat = I4 (g 2) by rw [t4_at]; exact congrArg I4 (own_rl_self 2 g fr to)) d6_24 ?_
    refine g_iloadN (pc := 25) hK d6_25 rfl ?_
    refine g_icmp_ne (pc := 26) (pc' := 33) hK d6_26 (by decide) (fun b26 => ?_) (fun b26 => ?_)
    · have q : own_rl 3 g fr to = own_rl 2 g fr to := own_rl_no 2 g fr to (fun e => b26 ((I4_inj _ _).mpr e))
      exact J3 _ (by rw [q]; exact A) Kp
    · refine g_aloadN (pc := 29) hK d6_29 rfl ?_
      refine g_iconst (pc := 30) (z := (2 : Int32)) hK d6_30 (by decide) ?_
      refine g_iloadN (pc := 31) hK d6_31 rfl ?_
      refine gA_iastore (pc := 32) hK A (I4_rng 2) gl d6_32 (fun h32 W32 A32 => ?_)
      have q : own_up (own_rl 2 g fr to) 2 to = own_rl 3 g fr to := own_rl_yes 2 g fr to ((I4_inj _ _).mp b26)
      have A : AI Z h32 al 4 (upd (t4 (own_rl 2 g fr to)) (I4 2).toInt.toNat (I4 to)) := A32
      rw [t4_up, q] at A
      exact J3 _ A (Kp.wr W32 (Or.inl (List.mem_singleton.mpr rfl)))
  have J1 : ∀ h1, AI Z h1 al 4 (t4 (own_rl 1 g fr to)) → Keep h h1 [al] → Go K ({ frames := 0, cells := 0, slots := 0, locals := 0 } : Room) n0 (nB (kS K) ({ frames := 0, cells := 0, slots := 0, locals := 0 } : Room)) (qV fun h' => AI Z h' al 4 (t4 (own_rl 4 g fr to)) ∧ Keep h h' [al]) h1 0 0 11 [.val (.ref al), .val (.int (I4 fr)), .val (.int (I4 to))] [] := by
    intro h1 A Kp
    refine g_aloadN (pc := 11) hK d6_11 rfl ?_
    refine g_iconst (pc := 12) (z := (1 : Int32)) hK d6_12 (by decide) ?_
    refine gA_iaload (pc := 13) hK A (I4_rng 1) (show t4 _ (I4 1).toInt.toNat = I4 (g 1) by rw [t4_at]; exact congrArg I4 (own_rl_self 1 g fr to)) d6_13 ?_
    refine g_iloadN (pc := 14) hK d6_14 rfl ?_
    refine g_icmp_ne (pc := 15) (pc' := 22) hK d6_15 (by decide) (fun b15 => ?_) (fun b15 => ?_)
    · have q : own_rl 2 g fr to = own_rl 1 g fr to := own_rl_no 1 g fr to (fun e => b15 ((I4_inj _ _).mpr e))
      exact J2 _ (by rw [q]; exact A) Kp
    · refine g_aloadN (pc := 18) hK d6_18 rfl ?_
      refine g_iconst (pc := 19) (z := (1 : Int32)) hK d6_19 (by decide) ?_
      refine g_iloadN (pc := 20) hK d6_20 rfl ?_
      refine gA_iastore (pc := 21) hK A (I4_rng 1) gl d6_21 (fun h21 W21 A21 => ?_)
      have q : own_up (own_rl 1 g fr to) 1 to = own_rl 2 g fr to := own_rl_yes 1 g fr to ((I4_inj _ _).mp b15)
      have A : AI Z h21 al 4 (upd (t4 (own_rl 1 g fr to)) (I4 1).toInt.toNat (I4 to)) := A21
      rw [t4_up, q] at A
      exact J2 _ A (Kp.wr W21 (Or.inl (List.mem_singleton.mpr rfl)))
  have J0 : ∀ h1, AI Z h1 al 4 (t4 (own_rl 0 g fr to)) → Keep h h1 [al] → Go K ({ frames := 0, cells := 0, slots := 0, locals := 0 } : Room) n0 (nB (kS K) ({ frames := 0, cells := 0, slots := 0, locals := 0 } : Room)) (qV fun h' => AI Z h' al 4 (t4 (own_rl 4 g fr to)) ∧ Keep h h' [al]) h1 0 0 0 [.val (.ref al), .val (.int (I4 fr)), .val (.int (I4 to))] [] := by
    intro h1 A Kp
    refine g_aloadN (pc := 0) hK d6_0 rfl ?_
    refine g_iconst (pc := 1) (z := (0 : Int32)) hK d6_1 (by decide) ?_
    refine gA_iaload (pc := 2) hK A (I4_rng 0) (show t4 _ (I4 0).toInt.toNat = I4 (g 0) by rw [t4_at]; exact congrArg I4 (own_rl_self 0 g fr to)) d6_2 ?_
    refine g_iloadN (pc := 3) hK d6_3 rfl ?_
    refine g_icmp_ne (pc := 4) (pc' := 11) hK d6_4 (by decide) (fun b4 => ?_) (fun b4 => ?_)
    · have q : own_rl 1 g fr to = own_rl 0 g fr to := own_rl_no 0 g fr to (fun e => b4 ((I4_inj _ _).mpr e))
      exact J1 _ (by rw [q]; exact A) Kp
    · refine g_aloadN (pc := 7) hK d6_7 rfl ?_
      refine g_iconst (pc := 8) (z := (0 : Int32)) hK d6_8 (by decide) ?_
      refine g_iloadN (pc := 9) hK d6_9 rfl ?_
      refine gA_iastore (pc := 10) hK A (I4_rng 0) gl d6_10 (fun h10 W10 A10 => ?_)
      have q : own_up (own_rl 0 g fr to) 0 to = own_rl 1 g fr to := own_rl_yes 0 g fr to ((I4_inj _ _).mp b4)
      have A : AI Z h10 al 4 (upd (t4 (own_rl 0 g fr to)) (I4 0).toInt.toNat (I4 to)) := A10
      rw [t4_up, q] at A
      exact J1 _ A (Kp.wr W10 (Or.inl (List.mem_singleton.mpr rfl)))
  exact J0 h (by rw [own_rl_zero]; exact A0) (Keep.refl h [al])
set_option maxRecDepth 65536 in
set_option maxHeartbeats 4000000 in
theorem rm5 (l : Launch) (Z : State) (a0 : Array Value) (hw : ∀ d ∈ tables_1, d.before a0 Z = true) (n0 : Nat) (h : Heap) (o al : Addr) (x y : Fin 4) (hI : own_INV Z n0 h o al) : Con l (⟨"com/example/copyspan/copyspan/plans/DisjointSetsRootPinLaw", "step", "(Lcom/example/copyspan/copyspan/plans/DisjointSets;[III)Z"⟩ : MethodName) method_3_code 7 (some .boolean) [] ({ frames := 2, cells := 0, slots := 0, locals := 44 } : Room) Z n0 #[.ref o, .ref al, .int (I4 x), .int (I4 y)] h (qI fun z h' => z = 1 ∧ own_INV Z n0 h' o al) := by
  refine con_of_go (Ls := [.val (.ref o), .val (.ref al), .val (.int (I4 x)), .val (.int (I4 y)), .unset, .unset, .unset]) (plainFor_of_name (by first | (simp [plainName, overriddenIn]; done) | decide +kernel)) (fun m => by first | (simp [entryFrame, mkF, argsToLocals, Value.category]; done) | rfl) ?_
  intro K hl hK
  subst hl
  change Cx K Z "com/example/copyspan/copyspan/plans/DisjointSetsRootPinLaw" method_3_code 7 (some .boolean) "step" at hK
  obtain ⟨aj, g, D, A, laj, lo, gl⟩ := hI
  refine g_aloadN (pc := 0) hK d3_0 rfl ?_
  refine g_iloadN (pc := 1) hK d3_1 rfl ?_
  refine gA_iaload (pc := 2) hK A (I4_rng _) (t4_at _ _) d3_2 ?_
  refine g_istore_4 (pc := 3) hK d3_3 rfl ?_
  refine g_aloadN (pc := 5) hK d3_5 rfl ?_
  refine g_iloadN (pc := 6) hK d3_6 rfl ?_
  refine gA_iaload (pc := 7) hK A (I4_rng _) (t4_at _ _) d3_7 ?_
  refine g_istore_5 (pc := 8) hK d3_8 rfl ?_
  refine g_aloadN (pc := 10) hK d3_10 rfl ?_
  refine g_iloadN (pc := 11) hK d3_11 rfl ?_
  refine g_iloadN (pc := 12) hK d3_12 rfl ?_
  refine g_virtual_2I (pc := 13) hK 4 d3_13 (w16 hw) (w17 hw) (w19 hw) (w18 hw) (w3 hw) (w20 hw) (by decide) D.2.1 (rm3 _ Z a0 hw n0 _ o aj g x y D) pd_1 rfl rfl rfl (fun z13 h13 q13 gr13 => ?_)
  obtain ⟨g1, D1, K1, q13⟩ := q13
  have A1 := A.keep K1 (ninS laj nin0)
  refine g_istore_6 (pc := 16) hK d3_16 rfl ?_
  refine g_iload (pc := 18) hK d3_18 rfl ?_
  refine g_iload (pc := 20) hK d3_20 rfl ?_
  refine g_icmp_eq (pc := 22) (pc' := 33) hK d3_22 (by decide) (fun b22 => ?_) (fun b22 => ?_)
  · refine g_iload (pc := 33) hK d3_33 rfl ?_
    refine g_iload (pc := 35) hK d3_35 rfl ?_
    refine g_iload (pc := 37) hK d3_37 rfl ?_
    refine gY_icmp_eq (pc := 39) (pc' := 46) hK d3_39 (by decide) b22 ?_
    refine g_iconst (pc := 46) (z := (0 : Int32)) hK d3_46 (by decide) ?_
    refine gN_icmp_ne (pc := 47) hK d3_47 (by
        rcases q13 with ⟨q, e, r⟩ | ⟨q, e, r⟩
        · exact e
        · exact absurd ((I4_inj _ _).mp b22) q) ?_
    refine g_iconst (pc := 50) (z := (1 : Int32)) hK d3_50 (by decide) ?_
    refine g_goto (pc := 51) (pc' := 55) hK d3_51 (by decide) ?_
    exact g_zreturn (pc := 55) hK d3_55 (by first | rfl | decide) rfl ⟨rfl, by
        rcases q13 with ⟨q, e, r⟩ | ⟨q, e, r⟩
        · exact ⟨aj, g1, D1, (funext r : own_rt g1 = own_rt g) ▸ A1, laj, lo, gl⟩
        · exact absurd ((I4_inj _ _).mp b22) q⟩
  · refine g_aloadN (pc := 25) hK d3_25 rfl ?_
    refine g_iload (pc := 26) hK d3_26 rfl ?_
    refine g_iload (pc := 28) hK d3_28 rfl ?_
    refine g_static_3V (pc := 30) hK 4 d3_30 (w26 hw) (w27 hw) (w14 hw) (w28 hw) (by decide) (rm4 _ Z a0 hw n0 _ al gl _ _ _ A1) pd_2 rfl rfl rfl (fun h30 q30 gr30 => ?_)
    obtain ⟨A2, K2⟩ := q30
    refine g_iload (pc := 33) hK d3_33 rfl ?_
    refine g_iload (pc := 35) hK d3_35 rfl ?_
    refine g_iload (pc := 37) hK d3_37 rfl ?_
    refine gN_icmp_eq (pc := 39) hK d3_39 b22 ?_
    refine g_iconst (pc := 42) (z := (1 : Int32)) hK d3_42 (by decide) ?_
    refine g_goto (pc := 43) (pc' := 47) hK d3_43 (by decide) ?_
    refine gN_icmp_ne (pc := 47) hK d3_47 (by
        rcases q13 with ⟨q, e, r⟩ | ⟨q, e, r⟩
        · exact absurd ((I4_inj _ _).mpr q) b22
        · exact e) ?_
    refine g_iconst (pc := 50) (z := (1 : Int32)) hK d3_50 (by decide) ?_
    refine g_goto (pc := 51) (pc' := 55) hK d3_51 (by decide) ?_
    exact g_zreturn (pc := 55) hK d3_55 (by first | rfl | decide) rfl ⟨rfl, by
        rcases q13 with ⟨q, e, r⟩ | ⟨q, e, r⟩
        · exact absurd ((I4_inj _ _).mpr q) b22
        · have e2 : own_rl 4 (own_rt g) (own_rt g x) (own_rt g y) = own_rt g1 := by
            funext k; rw [r k]; simp [own_rl, k.isLt]
          rw [e2] at A2
          exact ⟨aj, g1, ⟨D1.1, D1.2.1.keep K2, D1.2.2.1.keep K2 (ninS lo nin0), D1.2.2.2.1.keep K2 (ninS (Ne.symm laj) nin0), D1.2.2.2.2.1, D1.2.2.2.2.2⟩, A2, laj, lo, gl⟩⟩
set_option maxRecDepth 65536 in
set_option maxHeartbeats 4000000 in
theorem rm6 (l : Launch) (Z : State) (a0 : Array Value) (hw : ∀ d ∈ tables_1, d.before a0 Z = true) (n0 : Nat) (h : Heap) (o al : Addr) (x : Fin 4) (hI : own_INV Z n0 h o al) : Con l (⟨"com/example/copyspan/copyspan/plans/DisjointSetsRootPinLaw", "check", "(Lcom/example/copyspan/copyspan/plans/DisjointSets;[II)Z"⟩ : MethodName) method_5_code 4 (some .boolean) [] ({ frames := 1, cells := 0, slots := 0, locals := 20 } : Room) Z n0 #[.ref o, .ref al, .int (I4 x)] h (qI fun z h' => z = 1 ∧ own_INV Z n0 h' o al) := by
  refine con_of_go (Ls := [.val (.ref o), .val (.ref al), .val (.int (I4 x)), .unset]) (plainFor_of_name (by first | (simp [plainName, overriddenIn]; done) | decide +kernel)) (fun m => by first | (simp [entryFrame, mkF, argsToLocals, Value.category]; done) | rfl) ?_
  intro K hl hK
  subst hl
  change Cx K Z "com/example/copyspan/copyspan/plans/DisjointSetsRootPinLaw" method_5_code 4 (some .boolean) "check" at hK
  obtain ⟨aj, g, D, A, laj, lo, gl⟩ := hI
  refine g_aloadN (pc := 0) hK d7_0 rfl ?_
  refine g_iloadN (pc := 1) hK d7_1 rfl ?_
  refine g_virtual_1I (pc := 2) hK 4 d7_2 (w32 hw) (w22 hw) (w24 hw) (w23 hw) (w3 hw) (w25 hw) (by decide) D.2.1 (rm2 _ Z a0 hw n0 _ o aj g x D) pd_0 rfl rfl rfl (fun z2 h2 q2 gr2 => ?_)
  obtain ⟨rfl, g1, D1, r1, K1⟩ := q2
  have A1 := A.keep K1 (ninS laj nin0)
  refine g_istore_3 (pc := 5) hK d7_5 rfl ?_
  refine g_iloadN (pc := 6) hK d7_6 rfl ?_
  refine g_aloadN (pc := 7) hK d7_7 rfl ?_
  refine g_iloadN (pc := 8) hK d7_8 rfl ?_
  refine gA_iaload (pc := 9) hK A1 (I4_rng _) (t4_at _ _) d7_9 ?_
  refine gN_icmp_ne (pc := 10) hK d7_10 rfl ?_
  refine g_iconst (pc := 13) (z := (1 : Int32)) hK d7_13 (by decide) ?_
  refine g_goto (pc := 14) (pc' := 18) hK d7_14 (by decide) ?_
  exact g_zreturn (pc := 18) hK d7_18 (by first | rfl | decide) rfl ⟨rfl, aj, g1, D1, (funext r1 : own_rt g1 = own_rt g) ▸ A1, laj, lo, gl⟩
set_option maxRecDepth 65536 in
set_option maxHeartbeats 4000000 in
theorem rm0 (l : Launch) (Z : State) (a0 : Array Value) (hw : ∀ d ∈ tables_1, d.before a0 Z = true) (n0 : Nat) (h : Heap) (Z0 : n0 ≤ h.size) (i0 i1 i2 i3 : Int32) : Con l x code maxLocals ret tables_1 room_1 Z n0 #[.int i0, .int i1, .int i2, .int i3] h (qI fun z _ => z = 1) := by
  refine con_of_go (Ls := [.val (.int i0), .val (.int i1), .val (.int i2), .val (.int i3), .unset, .unset, .unset, .unset, .unset, .unset, .unset, .unset, .unset, .unset, .unset]) (plainFor_of_name (by first | (simp [plainName, overriddenIn]; done) | decide +kernel)) (fun m => by first | (simp [entryFrame, mkF, argsToLocals, Value.category, maxLocals]; done) | rfl) ?_
  intro K hl hK
  subst hl
  change Cx K Z "com/example/copyspan/copyspan/plans/DisjointSetsRootPinLaw" code 15 (some .boolean) "law" at hK
  refine g_iconst (pc := 0) (z := (4 : Int32)) hK at_0 (by decide) ?_
  refine gA_newI (pc := 1) hK 4 (w0 hw) at_1 (by decide) (by decide) rfl (fun h1 o1 ea1 X1 A1 => ?_)
  have gl : n0 ≤ o1 := ea1 ▸ Z0
  have A : AI Z h1 o1 4 (fun _ => 0) := A1
  refine g_dup (pc := 3) hK at_3 rfl ?_
  refine g_iconst (pc := 4) (z := (0 : Int32)) hK at_4 (by decide) ?_
  refine g_iconst (pc := 5) (z := (0 : Int32)) hK at_5 (by decide) ?_
  refine gA_iastore (pc := 6) hK A (by decide) gl at_6 (fun h6 W6 A6 => ?_)
  have A := A6
  refine g_dup (pc := 7) hK at_7 rfl ?_
  refine g_iconst (pc := 8) (z := (1 : Int32)) hK at_8 (by decide) ?_
  refine g_iconst (pc := 9) (z := (1 : Int32)) hK at_9 (by decide) ?_
  refine gA_iastore (pc := 10) hK A (by decide) gl at_10 (fun h10 W10 A10 => ?_)
  have A := A10
  refine g_dup (pc := 11) hK at_11 rfl ?_
  refine g_iconst (pc := 12) (z := (2 : Int32)) hK at_12 (by decide) ?_
  refine g_iconst (pc := 13) (z := (2 : Int32)) hK at_13 (by decide) ?_
  refine gA_iastore (pc := 14) hK A (by decide) gl at_14 (fun h14 W14 A14 => ?_)
  have A := A14
  refine g_dup (pc := 15) hK at_15 rfl ?_
  refine g_iconst (pc := 16) (z := (3 : Int32)) hK at_16 (by decide) ?_
  refine g_iconst (pc := 17) (z := (3 : Int32)) hK at_17 (by decide) ?_
  refine gA_iastore (pc := 18) hK A (by decide) gl at_18 (fun h18 W18 A18 => ?_)
  have A := t4_id A18 (by decide) (by decide) (by decide) (by decide)
  refine g_astore_4 (pc := 19) hK at_19 rfl ?_
  refine g_new (pc := 21) hK (w1 hw) (w2 hw) (w3 hw) at_21 rfl (fun h21 o21 ea21 X21 E21 D21 => ?_)
  have F21_joinedTo : Fld Z h21 o21 "com/example/copyspan/copyspan/plans/DisjointSets" "joinedTo" "[I" .null := D21 (Or.inr (w11 hw)) (ty := .array (.int)) (by decide)
  have A := A.ext X21
  have go : n0 ≤ o21 := by rw [ea21]; exact Nat.le_trans gl (Nat.le_of_lt A18.lt)
  have lo : o21 ≠ o1 := fun e => by have q := A18.lt; rw [← e, ea21] at q; exact Nat.lt_irrefl _ q
  refine g_dup (pc := 24) hK at_24 rfl ?_
  refine g_iconst (pc := 25) (z := (4 : Int32)) hK at_25 (by decide) ?_
  refine g_special_1V (pc := 26) hK 4 at_26 rfl (w4 hw) (w5 hw) (w3 hw) (w6 hw) (by decide) (rm1 _ Z a0 hw n0 _ (Nat.le_trans go (Nat.le_of_lt E21.lt)) _ go E21 F21_joinedTo) pd_4 rfl rfl rfl (fun h26 q26 gr26 => ?_)
  obtain ⟨aj, D, hj, Kp⟩ := q26
  have A2 := A.keep Kp (ninS (Ne.symm lo) nin0)
  have hI : own_INV Z n0 h26 o21 o1 := ⟨aj, _, D, A2, Nat.ne_of_lt (Nat.lt_of_lt_of_le A.lt hj), lo, gl⟩
  obtain ⟨x1, e1⟩ := I4_mask i0
  obtain ⟨y1, f1⟩ := I4_mask ((i0.toUInt32 >>> ((2 : Int32) &&& 31).toUInt32).toInt32)
  obtain ⟨x2, e2⟩ := I4_mask i1
  obtain ⟨y2, f2⟩ := I4_mask ((i1.toUInt32 >>> ((2 : Int32) &&& 31).toUInt32).toInt32)
  obtain ⟨x3, e3⟩ := I4_mask i2
  obtain ⟨y3, f3⟩ := I4_mask ((i2.toUInt32 >>> ((2 : Int32) &&& 31).toUInt32).toInt32)
  obtain ⟨x4, e4⟩ := I4_mask i3
  refine g_astore_5 (pc := 29) hK at_29 rfl ?_
  refine g_aload (pc := 31) hK at_31 rfl ?_
  refine g_aload (pc := 33) hK at_33 rfl ?_
  refine g_iloadN (pc := 35) hK at_35 rfl ?_
  refine g_iconst (pc := 36) (z := (3 : Int32)) hK at_36 (by decide) ?_
  refine g_iand (pc := 37) hK at_37 ?_
  refine g_iloadN (pc := 38) hK at_38 rfl ?_
  refine g_iconst (pc := 39) (z := (2 : Int32)) hK at_39 (by decide) ?_
  refine g_iushr (pc := 40) hK at_40 ?_
  refine g_iconst (pc := 41) (z := (3 : Int32)) hK at_41 (by decide) ?_
  refine g_iand (pc := 42) hK at_42 ?_
  rw [e1, f1]
  refine g_static_4I (pc := 43) hK 4 at_43 (w12 hw) (w13 hw) (w14 hw) (w15 hw) (by decide) (rm5 _ Z a0 hw n0 _ _ _ _ _ hI) pd_5 rfl rfl rfl (fun z43 h43 q43 gr43 => ?_)
  obtain ⟨rfl, hI⟩ := q43
  refine g_istore_6 (pc := 46) hK at_46 rfl ?_
  refine g_aload (pc := 48) hK at_48 rfl ?_
  refine g_aload (pc := 50) hK at_50 rfl ?_
  refine g_iloadN (pc := 52) hK at_52 rfl ?_
  refine g_iconst (pc := 53) (z := (3 : Int32)) hK at_53 (by decide) ?_
  refine g_iand (pc := 54) hK at_54 ?_
  refine g_iloadN (pc := 55) hK at_55 rfl ?_
  refine g_iconst (pc := 56) (z := (2 : Int32)) hK at_56 (by decide) ?_
  refine g_iushr (pc := 57) hK at_57 ?_
  refine g_iconst (pc := 58) (z := (3 : Int32)) hK at_58 (by decide) ?_
  refine g_iand (pc := 59) hK at_59 ?_
  rw [e2, f2]
  refine g_static_4I (pc := 60) hK 4 at_60 (w12 hw) (w13 hw) (w14 hw) (w15 hw) (by decide) (rm5 _ Z a0 hw n0 _ _ _ _ _ hI) pd_5 rfl rfl rfl (fun z60 h60 q60 gr60 => ?_)
  obtain ⟨rfl, hI⟩ := q60
  refine g_istore_7 (pc := 63) hK at_63 rfl ?_
  refine g_aload (pc := 65) hK at_65 rfl ?_
  refine g_aload (pc := 67) hK at_67 rfl ?_
  refine g_iloadN (pc := 69) hK at_69 rfl ?_
  refine g_iconst (pc := 70) (z := (3 : Int32)) hK at_70 (by decide) ?_
  refine g_iand (pc := 71) hK at_71 ?_
  refine g_iloadN (pc := 72) hK at_72 rfl ?_
  refine g_iconst (pc := 73) (z := (2 : Int32)) hK at_73 (by decide) ?_
  refine g_iushr (pc := 74) hK at_74 ?_
  refine g_iconst (pc := 75) (z := (3 : Int32)) hK at_75 (by decide) ?_
  refine g_iand (pc := 76) hK at_76 ?_
  rw [e3, f3]
  refine g_static_4I (pc := 77) hK 4 at_77 (w12 hw) (w13 hw) (w14 hw) (w15 hw) (by decide) (rm5 _ Z a0 hw n0 _ _ _ _ _ hI) pd_5 rfl rfl rfl (fun z77 h77 q77 gr77 => ?_)
  obtain ⟨rfl, hI⟩ := q77
  refine g_istore_8 (pc := 80) hK at_80 rfl ?_
  refine g_iloadN (pc := 82) hK at_82 rfl ?_
  refine g_iconst (pc := 83) (z := (3 : Int32)) hK at_83 (by decide) ?_
  refine g_iand (pc := 84) hK at_84 ?_
  rw [e4]
  refine g_istore_9 (pc := 85) hK at_85 rfl ?_
  refine g_iloadN (pc := 87) hK at_87 rfl ?_
  refine g_iconst (pc := 88) (z := (2 : Int32)) hK at_88 (by decide) ?_
  refine g_iushr (pc := 89) hK at_89 ?_
  refine g_iconst (pc := 90) (z := (1 : Int32)) hK at_90 (by decide) ?_
  refine g_iand (pc := 91) hK at_91 ?_
  have J : ∀ d : Int32, Go K room_1 n0 (nB (kS K) room_1) (qI fun z _ => z = 1) h77 3 9 102 [.val (.int i0), .val (.int i1), .val (.int i2), .val (.int i3), .val (.ref o1), .val (.ref o21), .val (.int 1), .val (.int 1), .val (.int 1), .val (.int (I4 x4)), .val (.int d), .unset, .unset, .unset, .unset] [] := by
    intro d
    refine g_aload (pc := 102) hK at_102 rfl ?_
    refine g_aload (pc := 104) hK at_104 rfl ?_
    refine g_iload (pc := 106) hK at_106 rfl ?_
    refine g_static_3I (pc := 108) hK 4 at_108 (w29 hw) (w30 hw) (w14 hw) (w31 hw) (by decide) (rm6 _ Z a0 hw n0 _ _ _ _ hI) pd_3 rfl rfl rfl (fun z108 h108 q108 gr108 => ?_)
    obtain ⟨rfl, hI⟩ := q108
    refine g_istore_11 (pc := 111) hK at_111 rfl ?_
    refine g_aload (pc := 113) hK at_113 rfl ?_
    refine g_aload (pc := 115) hK at_115 rfl ?_
    refine g_iload (pc := 117) hK at_117 rfl ?_
    refine g_iload (pc := 119) hK at_119 rfl ?_
    refine g_iadd (pc := 121) hK at_121 ?_
    refine g_iconst (pc := 122) (z := (3 : Int32)) hK at_122 (by decide) ?_
    refine g_iand (pc := 123) hK at_123 ?_
    obtain ⟨u1, v1⟩ := I4_mask (I4 x4 + d)
    rw [v1]
    refine g_static_3I (pc := 124) hK 4 at_124 (w29 hw) (w30 hw) (w14 hw) (w31 hw) (by decide) (rm6 _ Z a0 hw n0 _ _ _ _ hI) pd_3 rfl rfl rfl (fun z124 h124 q124 gr124 => ?_)
    obtain ⟨rfl, hI⟩ := q124
    refine g_istore_12 (pc := 127) hK at_127 rfl ?_
    refine g_aload (pc := 129) hK at_129 rfl ?_
    refine g_aload (pc := 131) hK at_131 rfl ?_
    refine g_iload (pc := 133) hK at_133 rfl ?_
    refine g_iconst (pc := 135) (z := (2 : Int32)) hK at_135 (by decide) ?_
    refine g_iload (pc := 136) hK at_136 rfl ?_
    refine g_imul (pc := 138) hK at_138 ?_
    refine g_iadd (pc := 139) hK at_139 ?_
    refine g_iconst (pc := 140) (z := (3 : Int32)) hK at_140 (by decide) ?_
    refine g_iand (pc := 141) hK at_141 ?_
    obtain ⟨u2, v2⟩ := I4_mask (I4 x4 + 2 * d)
    rw [v2]
    refine g_static_3I (pc := 142) hK 4 at_142 (w29 hw) (w30 hw) (w14 hw) (w31 hw) (by decide) (rm6 _ Z a0 hw n0 _ _ _ _ hI) pd_3 rfl rfl rfl (fun z142 h142 q142 gr142 => ?_)
    obtain ⟨rfl, hI⟩ := q142
    refine g_istore_13 (pc := 145) hK at_145 rfl ?_
    refine g_aload (pc := 147) hK at_147 rfl ?_
    refine g_aload (pc := 149) hK at_149 rfl ?_
    refine g_iload (pc := 151) hK at_151 rfl ?_
    refine g_iconst (pc := 153) (z := (3 : Int32)) hK at_153 (by decide) ?_
    refine g_iload (pc := 154) hK at_154 rfl ?_
    refine g_imul (pc := 156) hK at_156 ?_
    refine g_iadd (pc := 157) hK at_157 ?_
    refine g_iconst (pc := 158) (z := (3 : Int32)) hK at_158 (by decide) ?_
    refine g_iand (pc := 159) hK at_159 ?_
    obtain ⟨u3, v3⟩ := I4_mask (I4 x4 + 3 * d)
    rw [v3]
    refine g_static_3I (pc := 160) hK 4 at_160 (w29 hw) (w30 hw) (w14 hw) (w31 hw) (by decide) (rm6 _ Z a0 hw n0 _ _ _ _ hI) pd_3 rfl rfl rfl (fun z160 h160 q160 gr160 => ?_)
    obtain ⟨rfl, hI⟩ := q160
    refine g_istore_14 (pc := 163) hK at_163 rfl ?_
    refine g_iload (pc := 165) hK at_165 rfl ?_
    refine gN_if_eq (pc := 167) hK at_167 (by decide) ?_
    refine g_iload (pc := 170) hK at_170 rfl ?_
    refine gN_if_eq (pc := 172) hK at_172 (by decide) ?_
    refine g_iload (pc := 175) hK at_175 rfl ?_
    refine gN_if_eq (pc := 177) hK at_177 (by decide) ?_
    refine g_iload (pc := 180) hK at_180 rfl ?_
    refine gN_if_eq (pc := 182) hK at_182 (by decide) ?_
    refine g_iload (pc := 185) hK at_185 rfl ?_
    refine gN_if_eq (pc := 187) hK at_187 (by decide) ?_
    refine g_iload (pc := 190) hK at_190 rfl ?_
    refine gN_if_eq (pc := 192) hK at_192 (by decide) ?_
    refine g_iload (pc := 195) hK at_195 rfl ?_
    refine gN_if_eq (pc := 197) hK at_197 (by decide) ?_
    refine g_iconst (pc := 200) (z := (1 : Int32)) hK at_200 (by decide) ?_
    refine g_goto (pc := 201) (pc' := 205) hK at_201 (by decide) ?_
    exact g_zreturn (pc := 205) hK at_205 (by first | rfl | decide) rfl rfl
  refine g_if_ne (pc := 92) (pc' := 99) hK at_92 (by decide) (fun _ => ?_) (fun _ => ?_)
  · refine g_iconst (pc := 99) (z := (3 : Int32)) hK at_99 (by decide) ?_
    refine g_istore_10 (pc := 100) hK at_100 rfl ?_
    exact J _
  · refine g_iconst (pc := 95) (z := (1 : Int32)) hK at_95 (by decide) ?_
    refine g_goto (pc := 96) (pc' := 100) hK at_96 (by decide) ?_
    refine g_istore_10 (pc := 100) hK at_100 rfl ?_
    exact J _
set_option maxRecDepth 65536 in
set_option maxHeartbeats 40000000 in
theorem comes_1 {Post : Tables → Env → Array Value → State → Outcome → State → Prop} (hpost : ∀ tb e args s v u, (limb_1_1.after args s (.returned v) u = true ∧ limb_1_2.after args s (.returned v) u = true ∧ True) → FrameEnd s (.returned v) u (Jvm.fieldLocs frame_1_writes args s ++ Jvm.arrayLocs frame_1_arrays args s ++ Jvm.staticLocs frame_1_statics s) 16 128 → Post tb e args s (.returned v) u) :
    ArmFor flags0 classFile x code maxLocals ret World_1 tables_1 room_1 Calls_1 rest_1 Pre_1 Post := by
  intro l hfl _ _ p e ha hc hk s m args below hf hA hF happ hP
  obtain ⟨hcalls, hrest, hpre⟩ := hP
  obtain ⟨-, -, -, hnamed, -, -, -, hat⟩ := (Spec.applies_iff hf).mp happ
  obtain ⟨hg, hn⟩ := and_e (Cond.before_iff.mp (show (Jvm.Cond.and given_1 narrow_1).before args s = true from hpre))
  obtain ⟨gc, g0⟩ := and_e hg
  obtain ⟨u0, g1⟩ := and_e g0
  obtain ⟨u1, g2⟩ := and_e g1
  obtain ⟨u2, g3⟩ := and_e g2
  obtain ⟨v0, v1, v2, v3, rfl⟩ : ∃ v0 v1 v2 v3 : Value, args = #[v0, v1, v2, v3] := by
    have hs : args.size = 4 := by simpa [Cond.value, given_1] using gc
    obtain ⟨L⟩ := args
    match L, hs with
    | [v0, v1, v2, v3], _ => exact ⟨v0, v1, v2, v3, rfl⟩
  have hw := fun d (hd : d ∈ tables_1) => atoms_spec (ws := Jvm.Cond.code x code maxLocals ret :: tables_1) hat d (List.mem_cons_of_mem _ hd)
  obtain ⟨i0, ei0⟩ := is_v u0
  obtain rfl : v0 = (.int i0) := Option.some.inj ei0
  obtain ⟨i1, ei1⟩ := is_v u1
  obtain rfl : v1 = (.int i1) := Option.some.inj ei1
  obtain ⟨i2, ei2⟩ := is_v u2
  obtain rfl : v2 = (.int i2) := Option.some.inj ei2
  obtain ⟨i3, ei3⟩ := is_v g3
  obtain rfl : v3 = (.int i3) := Option.some.inj ei3
  obtain ⟨n, o, h1, h2, h3, _, L, rfl, ⟨⟨_, rfl, rfl⟩, N, _⟩, hq⟩ := rm0 l s _ hw s.heap.size s.heap (Nat.le_refl _) i0 i1 i2 i3 p e ha hc hk s m _ below hf ((Spec.applies_iff_loose hf).mp happ).1 ⟨rfl, State.Warmed39.refl s, rfl⟩ trivial
  refine ⟨n, _, h1, h2, h3, hpost _ _ _ _ _ _ ⟨Cond.after_iff.mpr rfl, Cond.after_iff.mpr (eq_i res_at (Term.int_eval (1)) rfl), trivial⟩ ⟨hq.1, hq.2.1, (hq.2.2.sift fun y hy => Or.inr (N y hy)).mono (by decide) (by decide)⟩⟩
theorem main_1_1 : Claimed_1_1 := comes_1 fun _ _ _ _ _ _ h hF => ⟨h.1, hF⟩
theorem main_1_2 : Claimed_1_2 := comes_1 fun _ _ _ _ _ _ h hF => ⟨h.2.1, hF⟩
end Jvm.Pilot.@@N@@
namespace Jvm.Pilot.@@N@@
open Jvm Jvm.ClassFile Sem Op Lib Jvm.Free Jvm.Stand Jvm.Pilot.@@N@@.Jvm.D
/-! MADE BY PROGRAM (witnessworld.py) out of the Statement's table words and the real class files: 9 classes; the members and pool entries that the words name. The judged class is class 1, her method 1. -/
namespace start1
open Jvm.ClassFile
def u (s : String) : CpInfo := .utf8 (stringToUtf16 s)
/-- a pool by its gaps: so many unusable entries, then the entry; so many at the end -/
def gap : Nat → List CpInfo → List CpInfo
  | 0, r => r
  | n + 1, r => .unusable :: gap n r
def poolList (es : List (Nat × CpInfo)) (last : Nat) : List CpInfo := es.foldr (fun e r => gap e.1 (e.2 :: r)) (gap last [])
def pool (es : List (Nat × CpInfo)) (last : Nat) : Array CpInfo := ⟨poolList es last⟩
def fileOf (pool : Array CpInfo) (this : Nat) (attrs : Array Attribute := #[]) (ms : Array MethodInfo := #[]) (fl : Nat := 33) (sup : Nat := 0) (ifs : Array Nat := #[]) (fds : Array FieldInfo := #[]) : ClassFile where
  minorVersion := 0
  majorVersion := 65
  constantPool := pool
  accessFlags := fl
  thisClass := this
  superClass := sup
  interfaces := ifs
  fields := fds
  methods := ms
  attributes := attrs
def plain (name : String) (sup : Option ClassId) : Class where
  name := name
  kind := .ordinary
  loader := none
  accessFlags := 33
  super := sup
  interfaces := #[]
  cf := none
  fields := #[]
  methods := #[]
  instanceTypes := #[]
  staticTypes := #[]
  resolved := #[]
  callSites := []
  init := .initialized
  statics := none
  mirror := none

def pool0 : Array CpInfo := pool [(5, u "<init>"), (0, u "()V"), (1, .class_ 10), (1, u "java/lang/Object")] 113

def k0c0 : Code := { maxStack := 0, maxLocals := 1, code := object_method_1_code, exceptionTable := #[], attributes := #[] }
def k0m0 : Method := { name := "<init>", desc := "()V", sig := { parameters := [], returnType := none }, accessFlags := 1, code := some k0c0 }
/-- java/lang/Object -/
def k0 : Class := { plain "java/lang/Object" none with
  accessFlags := 33
  interfaces := #[]
  cf := some (fileOf pool0 8 #[] #[{ accessFlags := 1, nameIndex := 5, descriptorIndex := 6, attributes := #[] }] 33 0 #[] #[])
  fields := #[]
  methods := #[k0m0]
  instanceTypes := #[]
  staticTypes := #[]
  resolved := Array.replicate 124 none
  statics := none }

def pool1 : Array CpInfo := pool [(2, .class_ 4), (1, u "java/lang/Object"), (0, u "<init>"), (0, u "()V"), (0, .class_ 8), (0, u "com/example/copyspan/copyspan/plans/DisjointSets"), (0, .methodref 7 10), (0, .nameAndType 5 11), (0, u "(I)V"), (0, .methodref 13 14), (0, .class_ 15), (0, .nameAndType 16 17), (0, u "com/example/copyspan/copyspan/plans/DisjointSetsRootPinLaw"), (0, u "step"), (0, u "(Lcom/example/copyspan/copyspan/plans/DisjointSets;[III)Z"), (0, .methodref 13 19), (0, .nameAndType 20 21), (0, u "check"), (0, u "(Lcom/example/copyspan/copyspan/plans/DisjointSets;[II)Z"), (0, .methodref 7 23), (0, .nameAndType 24 25), (0, u "join"), (0, u "(II)Z"), (0, .methodref 13 27), (0, .nameAndType 28 29), (0, u "relabel"), (0, u "([III)V"), (0, .methodref 7 31), (0, .nameAndType 32 33), (0, u "root"), (0, u "(I)I"), (2, u "law"), (0, u "(IIII)Z")] 5

def k1m0 : Method := { name := "<init>", desc := "()V", sig := { parameters := [], returnType := none }, accessFlags := 1, code := none }
def k1c1 : Code := { maxStack := 5, maxLocals := 15, code := code, exceptionTable := #[], attributes := #[] }
def k1m1 : Method := { name := "law", desc := "(IIII)Z", sig := { parameters := [.int, .int, .int, .int], returnType := some .boolean }, accessFlags := 9, code := some k1c1 }
def k1c2 : Code := { maxStack := 3, maxLocals := 7, code := method_3_code, exceptionTable := #[], attributes := #[] }
def k1m2 : Method := { name := "step", desc := "(Lcom/example/copyspan/copyspan/plans/DisjointSets;[III)Z", sig := { parameters := [(.object "com/example/copyspan/copyspan/plans/DisjointSets"), (.array .int), .int, .int], returnType := some .boolean }, accessFlags := 10, code := some k1c2 }
def k1c3 : Code := { maxStack := 3, maxLocals := 3, code := method_4_code, exceptionTable := #[], attributes := #[] }
def k1m3 : Method := { name := "relabel", desc := "([III)V", sig := { parameters := [(.array .int), .int, .int], returnType := none }, accessFlags := 10, code := some k1c3 }
def k1c4 : Code := { maxStack := 3, maxLocals := 4, code := method_5_code, exceptionTable := #[], attributes := #[] }
def k1m4 : Method := { name := "check", desc := "(Lcom/example/copyspan/copyspan/plans/DisjointSets;[II)Z", sig := { parameters := [(.object "com/example/copyspan/copyspan/plans/DisjointSets"), (.array .int), .int], returnType := some .boolean }, accessFlags := 10, code := some k1c4 }
/-- com/example/copyspan/copyspan/plans/DisjointSetsRootPinLaw -/
def k1 : Class := { plain "com/example/copyspan/copyspan/plans/DisjointSetsRootPinLaw" (some 0) with
  accessFlags := 49
  interfaces := #[]
  cf := some (fileOf pool1 13 #[] #[{ accessFlags := 1, nameIndex := 5, descriptorIndex := 6, attributes := #[] }, { accessFlags := 9, nameIndex := 36, descriptorIndex := 37, attributes := #[] }, { accessFlags := 10, nameIndex := 16, descriptorIndex := 17, attributes := #[] }, { accessFlags := 10, nameIndex := 28, descriptorIndex := 29, attributes := #[] }, { accessFlags := 10, nameIndex := 20, descriptorIndex := 21, attributes := #[] }] 49 2 #[] #[])
  fields := #[]
  methods := #[k1m0, k1m1, k1m2, k1m3, k1m4]
  instanceTypes := #[]
  staticTypes := #[]
  resolved := Array.replicate 43 none
  statics := none }

def pool2 : Array CpInfo := pool [(1, .methodref 2 3), (0, .class_ 4), (0, .nameAndType 5 6), (0, u "java/lang/Object"), (0, u "<init>"), (0, u "()V"), (0, .fieldref 8 9), (0, .class_ 10), (0, .nameAndType 11 12), (0, u "com/example/copyspan/copyspan/plans/DisjointSets"), (0, u "joinedTo"), (0, u "[I"), (0, .methodref 8 14), (0, .nameAndType 15 16), (0, u "root"), (0, u "(I)I"), (0, u "(I)V"), (3, u "join"), (0, u "(II)Z")] 2

def k2c0 : Code := { maxStack := 3, maxLocals := 3, code := prog_33_method_1_code, exceptionTable := #[], attributes := #[] }
def k2m0 : Method := { name := "<init>", desc := "(I)V", sig := { parameters := [.int], returnType := none }, accessFlags := 0, code := some k2c0 }
def k2c1 : Code := { maxStack := 5, maxLocals := 3, code := prog_33_method_2_code, exceptionTable := #[], attributes := #[] }
def k2m1 : Method := { name := "root", desc := "(I)I", sig := { parameters := [.int], returnType := some .int }, accessFlags := 0, code := some k2c1 }
def k2c2 : Code := { maxStack := 3, maxLocals := 5, code := prog_33_method_3_code, exceptionTable := #[], attributes := #[] }
def k2m2 : Method := { name := "join", desc := "(II)Z", sig := { parameters := [.int, .int], returnType := some .boolean }, accessFlags := 0, code := some k2c2 }
/-- com/example/copyspan/copyspan/plans/DisjointSets -/
def k2 : Class := { plain "com/example/copyspan/copyspan/plans/DisjointSets" (some 0) with
  accessFlags := 48
  interfaces := #[]
  cf := some (fileOf pool2 8 #[] #[{ accessFlags := 0, nameIndex := 5, descriptorIndex := 17, attributes := #[] }, { accessFlags := 0, nameIndex := 15, descriptorIndex := 16, attributes := #[] }, { accessFlags := 0, nameIndex := 21, descriptorIndex := 22, attributes := #[] }] 48 2 #[] #[{ accessFlags := 18, nameIndex := 11, descriptorIndex := 12, attributes := #[] }])
  fields := #[{ name := "joinedTo", type := (.array .int), accessFlags := 18, slot := 0, constantValue := 0 }]
  methods := #[k2m0, k2m1, k2m2]
  instanceTypes := #[(.array .int)]
  staticTypes := #[]
  resolved := Array.replicate 25 none
  statics := none }

def pool3 : Array CpInfo := pool [(1, u "java/lang/Cloneable"), (0, .class_ 1), (0, u "java/lang/Object"), (0, .class_ 3)] 3

/-- java/lang/Cloneable -/
def k3 : Class := { plain "java/lang/Cloneable" (some 0) with
  accessFlags := 1537
  interfaces := #[]
  cf := some (fileOf pool3 2 #[] #[] 1537 4 #[] #[])
  fields := #[]
  methods := #[]
  instanceTypes := #[]
  staticTypes := #[]
  resolved := Array.replicate 8 none
  statics := none }

def pool4 : Array CpInfo := pool [(1, u "java/io/Serializable"), (0, .class_ 1), (0, u "java/lang/Object"), (0, .class_ 3)] 3

/-- java/io/Serializable -/
def k4 : Class := { plain "java/io/Serializable" (some 0) with
  accessFlags := 1537
  interfaces := #[]
  cf := some (fileOf pool4 2 #[] #[] 1537 4 #[] #[])
  fields := #[]
  methods := #[]
  instanceTypes := #[]
  staticTypes := #[]
  resolved := Array.replicate 8 none
  statics := none }

/-- the primitive byte -/
def k5 : Class := { plain "byte" none with kind := .primitive 'B', accessFlags := 0x411 }
/-- [B -/
def k6 : Class := { plain "[B" (some 0) with kind := .array 5 .byte, interfaces := #[3, 4], accessFlags := 1041 }

/-- the primitive int -/
def k7 : Class := { plain "int" none with kind := .primitive 'I', accessFlags := 0x411 }
/-- [I -/
def k8 : Class := { plain "[I" (some 0) with kind := .array 7 .int, interfaces := #[3, 4], accessFlags := 1041 }

def heap : Heap := #[]
def classes : Array Class := #[k0, k1, k2, k3, k4, k5, k6, k7, k8]
def interned : List (Array UInt16 × Addr) := []
def slotsUsed : Nat := 0
def theMethod : MethodId := ⟨1, 1⟩
def args0 : Array Value := #[.int 97, .int 3, .int 1, .int 2]
def aboutOver (below : List Frame) : State where
  vm := { classes := classes, interned := interned.toArray }
  heap := heap
  slotsUsed := slotsUsed
  threads := #[{ frames := .invoking theMethod args0 :: below }]
def below0 : List Frame := [.native { method := ⟨0, 0⟩, args := #[] }]
def about1 : State := aboutOver below0
def p0 : Program := .bare "" "" ""
def e0 : Env := launch0.env 0 0 0
theorem w_frames : about1.frames = Frame.invoking theMethod args0 :: below0 := rfl
set_option maxRecDepth 65536 in
theorem w_args : argsFit about1.vm theMethod args0 = true := by decide +kernel
set_option maxRecDepth 65536 in
theorem w_heap : heapFits about1 = true := by decide +kernel
set_option maxRecDepth 65536 in
theorem w_runnable : about1.curStatus? = some .runnable := by decide +kernel
set_option maxRecDepth 65536 in
theorem w_alone : about1.alone = true := by decide +kernel
set_option maxRecDepth 65536 in
theorem w_named : about1.methodNamed? x = some theMethod := by decide +kernel
set_option maxRecDepth 65536 in
theorem w_hears : about1.hears theMethod below0 = true := by decide +kernel
set_option maxRecDepth 65536 in
theorem w_ripe : about1.ripe theMethod args0 below0 = true := by decide +kernel
theorem w_running : about1.status = .running := rfl
set_option maxRecDepth 65536 in
theorem w_room : about1.hasRoom e0.platform room_1 = true :=
  launch0.hasRoom_least _ room_1 (by decide +kernel) (by decide +kernel) (by decide +kernel) (by decide +kernel) (by decide +kernel) (by decide +kernel)
theorem allAtoms_all (ts : List Jvm.Cond) (a : Array Jvm.Value) (st : Jvm.State) : (allAtoms ts).before a st = ts.all (fun c => c.before a st) := by
  induction ts with
  | nil => rfl
  | cons c t ih =>
    show (Jvm.Cond.and c (allAtoms t)).before a st = _
    rw [Jvm.Cond.before_and, ih, List.all_cons]
def words1 : List Jvm.Cond := Jvm.Cond.code x code maxLocals ret :: tables_1
/-- a 'code' word, met by the world's own term for the bytes: nothing is compared byte by byte -/
theorem code_word {y : MethodName} {bytes : ByteArray} {mx : Nat} {rt : Option FieldType} {a : Array Value} {s : State} {m : MethodId} {meth : Method} {c : Code} (h1 : s.methodNamed? y = some m) (h2 : s.vm.method? m = some meth) (h3 : meth.code = some c) (h4 : c.code = bytes)
    (h5 : (c.maxLocals == mx && c.exceptionTable.isEmpty && decide (c.maxStack ≤ mostOperands) && decide (meth.sig.returnType = rt) && !meth.locks && decide (parseMethodDescriptor y.desc = some meth.sig)) = true) : (Jvm.Cond.code y bytes mx rt).before a s = true := by
  simp only [Bool.and_eq_true, beq_iff_eq, Bool.not_eq_true', decide_eq_true_eq] at h5
  obtain ⟨⟨⟨⟨⟨g1, g2⟩, g3⟩, g4⟩, g5⟩, g6⟩ := h5
  simp [Cond.before, Cond.holds, Cond.value, h1, h2, h3, h4, g1, g2, g3, g4, g5, g6]
def isCode : Jvm.Cond → Bool
  | .code _ _ _ _ => true
  | _ => false
theorem all_split {L : List Jvm.Cond} {P : Jvm.Cond → Bool} (h1 : L.all (fun c => isCode c || P c) = true) (h2 : ∀ c ∈ L.filter isCode, P c = true) : L.all P = true := by
  refine List.all_eq_true.mpr fun c hc => ?_
  have h := List.all_eq_true.mp h1 c hc
  rcases Bool.eq_false_or_eq_true (isCode c) with hi | hi
  · exact h2 c (List.mem_filter.mpr ⟨hc, hi⟩)
  · simpa [hi] using h
set_option maxRecDepth 65536 in
theorem w_c0 : (Jvm.Cond.code x code maxLocals ret).before args0 about1 = true := code_word (m := ⟨1, 1⟩) (meth := k1m1) (c := k1c1) (by decide +kernel) rfl rfl rfl (by decide +kernel)
set_option maxRecDepth 65536 in
theorem w_c1 : (Jvm.Cond.code ({ cls := "com/example/copyspan/copyspan/plans/DisjointSets", name := "<init>", desc := "(I)V" } : Jvm.MethodName) prog_33_method_1_code (3 : Nat) (Option.none : Option Jvm.ClassFile.FieldType)).before args0 about1 = true := code_word (m := ⟨2, 0⟩) (meth := k2m0) (c := k2c0) (by decide +kernel) rfl rfl rfl (by decide +kernel)
set_option maxRecDepth 65536 in
theorem w_c2 : (Jvm.Cond.code ({ cls := "java/lang/Object", name := "<init>", desc := "()V" } : Jvm.MethodName) object_method_1_code (1 : Nat) (Option.none : Option Jvm.ClassFile.FieldType)).before args0 about1 = true := code_word (m := ⟨0, 0⟩) (meth := k0m0) (c := k0c0) (by decide +kernel) rfl rfl rfl (by decide +kernel)
set_option maxRecDepth 65536 in
theorem w_c3 : (Jvm.Cond.code ({ cls := "com/example/copyspan/copyspan/plans/DisjointSetsRootPinLaw", name := "step", desc := "(Lcom/example/copyspan/copyspan/plans/DisjointSets;[III)Z" } : Jvm.MethodName) method_3_code (7 : Nat) (Option.some Jvm.ClassFile.FieldType.boolean)).before args0 about1 = true := code_word (m := ⟨1, 2⟩) (meth := k1m2) (c := k1c2) (by decide +kernel) rfl rfl rfl (by decide +kernel)
set_option maxRecDepth 65536 in
theorem w_c4 : (Jvm.Cond.code ({ cls := "com/example/copyspan/copyspan/plans/DisjointSets", name := "join", desc := "(II)Z" } : Jvm.MethodName) prog_33_method_3_code (5 : Nat) (Option.some Jvm.ClassFile.FieldType.boolean)).before args0 about1 = true := code_word (m := ⟨2, 2⟩) (meth := k2m2) (c := k2c2) (by decide +kernel) rfl rfl rfl (by decide +kernel)
set_option maxRecDepth 65536 in
theorem w_c5 : (Jvm.Cond.code ({ cls := "com/example/copyspan/copyspan/plans/DisjointSets", name := "root", desc := "(I)I" } : Jvm.MethodName) prog_33_method_2_code (3 : Nat) (Option.some Jvm.ClassFile.FieldType.int)).before args0 about1 = true := code_word (m := ⟨2, 1⟩) (meth := k2m1) (c := k2c1) (by decide +kernel) rfl rfl rfl (by decide +kernel)
set_option maxRecDepth 65536 in
theorem w_c6 : (Jvm.Cond.code ({ cls := "com/example/copyspan/copyspan/plans/DisjointSetsRootPinLaw", name := "relabel", desc := "([III)V" } : Jvm.MethodName) method_4_code (3 : Nat) (Option.none : Option Jvm.ClassFile.FieldType)).before args0 about1 = true := code_word (m := ⟨1, 3⟩) (meth := k1m3) (c := k1c3) (by decide +kernel) rfl rfl rfl (by decide +kernel)
set_option maxRecDepth 65536 in
theorem w_c7 : (Jvm.Cond.code ({ cls := "com/example/copyspan/copyspan/plans/DisjointSetsRootPinLaw", name := "check", desc := "(Lcom/example/copyspan/copyspan/plans/DisjointSets;[II)Z" } : Jvm.MethodName) method_5_code (4 : Nat) (Option.some Jvm.ClassFile.FieldType.boolean)).before args0 about1 = true := code_word (m := ⟨1, 4⟩) (meth := k1m4) (c := k1c4) (by decide +kernel) rfl rfl rfl (by decide +kernel)
def codes1 : List Jvm.Cond := [Jvm.Cond.code x code maxLocals ret, Jvm.Cond.code ({ cls := "com/example/copyspan/copyspan/plans/DisjointSets", name := "<init>", desc := "(I)V" } : Jvm.MethodName) prog_33_method_1_code (3 : Nat) (Option.none : Option Jvm.ClassFile.FieldType), Jvm.Cond.code ({ cls := "java/lang/Object", name := "<init>", desc := "()V" } : Jvm.MethodName) object_method_1_code (1 : Nat) (Option.none : Option Jvm.ClassFile.FieldType), Jvm.Cond.code ({ cls := "com/example/copyspan/copyspan/plans/DisjointSetsRootPinLaw", name := "step", desc := "(Lcom/example/copyspan/copyspan/plans/DisjointSets;[III)Z" } : Jvm.MethodName) method_3_code (7 : Nat) (Option.some Jvm.ClassFile.FieldType.boolean), Jvm.Cond.code ({ cls := "com/example/copyspan/copyspan/plans/DisjointSets", name := "join", desc := "(II)Z" } : Jvm.MethodName) prog_33_method_3_code (5 : Nat) (Option.some Jvm.ClassFile.FieldType.boolean), Jvm.Cond.code ({ cls := "com/example/copyspan/copyspan/plans/DisjointSets", name := "root", desc := "(I)I" } : Jvm.MethodName) prog_33_method_2_code (3 : Nat) (Option.some Jvm.ClassFile.FieldType.int), Jvm.Cond.code ({ cls := "com/example/copyspan/copyspan/plans/DisjointSetsRootPinLaw", name := "relabel", desc := "([III)V" } : Jvm.MethodName) method_4_code (3 : Nat) (Option.none : Option Jvm.ClassFile.FieldType), Jvm.Cond.code ({ cls := "com/example/copyspan/copyspan/plans/DisjointSetsRootPinLaw", name := "check", desc := "(Lcom/example/copyspan/copyspan/plans/DisjointSets;[II)Z" } : Jvm.MethodName) method_5_code (4 : Nat) (Option.some Jvm.ClassFile.FieldType.boolean)]
set_option maxRecDepth 65536 in
theorem codes_eq : words1.filter isCode = codes1 := rfl
theorem w_codes : ∀ c ∈ words1.filter isCode, c.before args0 about1 = true := by
  rw [codes_eq]
  intro c hc
  simp only [codes1, List.mem_cons, List.not_mem_nil, or_false] at hc
  rcases hc with rfl | rfl | rfl | rfl | rfl | rfl | rfl | rfl
  · exact w_c0
  · exact w_c1
  · exact w_c2
  · exact w_c3
  · exact w_c4
  · exact w_c5
  · exact w_c6
  · exact w_c7
set_option maxRecDepth 65536 in
theorem w_t1 : (words1.take 24).all (fun c => isCode c || c.before args0 about1) = true := by decide +kernel
set_option maxRecDepth 65536 in
theorem w_t2 : (words1.drop 24).all (fun c => isCode c || c.before args0 about1) = true := by decide +kernel
theorem w_tables : (allAtoms (Jvm.Cond.code x code maxLocals ret :: tables_1)).before args0 about1 = true := by
  rw [allAtoms_all]
  show words1.all (fun c => c.before args0 about1) = true
  refine all_split ?_ w_codes
  rw [← List.take_append_drop 24 words1, List.all_append, w_t1, w_t2]
  rfl
set_option maxRecDepth 65536 in
theorem w_case : (Jvm.Cond.and given_1 narrow_1).before args0 about1 = true := by decide +kernel
theorem w_applies : (headSpec (Jvm.Cond.code x code maxLocals ret :: tables_1) room_1).applies x e0.platform about1 = true :=
  (Spec.applies_iff w_frames).mpr ⟨w_running, w_runnable, w_alone, w_named, w_hears, w_ripe, w_room, w_tables⟩
theorem atStart : AtStart classFile x code maxLocals ret World_1 tables_1 room_1 Calls_1 rest_1 Pre_1 launch0 p0 e0 about1 theMethod args0 below0 :=
  ⟨lists_1, trivial, launch0.admits_env _ _ _, launch0.least_env, fairChoices_fair.cas, fairChoices_fair.clock, w_frames, w_args, w_heap, w_applies, trivial, trivial, w_case⟩
end start1
theorem witness_1 : WitnessClaimed_1 := ⟨start1.p0, start1.e0, start1.about1, start1.theMethod, start1.args0, start1.below0, start1.atStart⟩
end Jvm.Pilot.@@N@@
