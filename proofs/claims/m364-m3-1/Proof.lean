import JvmDerived
import JvmDerived.Pilot.@@N@@Statement
import JvmDerived.Pilot.@@N@@Code
set_option linter.unusedVariables false
set_option linter.unusedSimpArgs false
namespace Jvm.Pilot.@@N@@
open Jvm Jvm.ClassFile Sem Op Lib Jvm.Free Jvm.Stand Jvm.LawKit Jvm.RoadKit Bundle Jvm.Pilot.@@N@@.Jvm.D

/-! ## own_: from here the walk goes on; said backwards -/
abbrev Ctx := Program × Launch × Env × State × MethodId × Array Value × List Frame × Method × Code
abbrev kP (K : Ctx) : Program := K.1
abbrev kL (K : Ctx) : Launch := K.2.1
abbrev kE (K : Ctx) : Env := K.2.2.1
abbrev kS (K : Ctx) : State := K.2.2.2.1
abbrev kM (K : Ctx) : MethodId := K.2.2.2.2.1
abbrev kA (K : Ctx) : Array Value := K.2.2.2.2.2.1
abbrev kB (K : Ctx) : List Frame := K.2.2.2.2.2.2.1
abbrev kI (K : Ctx) : Method := K.2.2.2.2.2.2.2.1
abbrev kC (K : Ctx) : Code := K.2.2.2.2.2.2.2.2
/-- from pc, with these locals and this stack, over the heap h: the body ends, and Q says what it returns and leaves; only cells from n0 on are written -/
def Go (K : Ctx) (R : Room) (n0 : Nat) (B : State → List Loc → Prop) (Q : Option Value → Heap → Prop) (h : Heap) (cells slots pc : Nat) (Ls : List Slot) (st : List Value) : Prop :=
  ∀ (T : State) (locs : List Loc), Stand (kP K) (kL K) (kE K) R (kS K) (kM K) (kA K) (kB K) (kI K) (kC K) T locs cells slots → Fr n0 locs → T.heap = h →
    ∃ (s₂ : State) (v : Option Value) (L : List Loc), Steps (kP K).tables (kE K) (kB K) (T.setTop (mkF (kM K) pc ⟨Ls⟩ st)) s₂ ∧ s₂.status = .running ∧ Ended s₂ (kB K) (.returned v) ∧ Q v s₂.heap ∧ Fr n0 L ∧ B s₂ L
/-- the frame of an end -/
abbrev nB (s : State) (R : Room) (s₂ : State) (L : List Loc) : Prop := s.WarmedH s₂.vm ∧ s.sameButNew ({ s₂ with vm := s.vm } : State) L R.cells R.slots
def Cx (K : Ctx) (Z : State) (own : String) (bs : ByteArray) (mx : Nat) (rt : Option FieldType) (nm : String) : Prop :=
  (kP K).tables.exec = Jvm.exec ∧ (kC K).code = bs ∧ (kC K).maxLocals = mx ∧ (kS K).vm.findClass own = some (kM K).cls ∧ (kI K).name = nm ∧ (kI K).sig.returnType = rt ∧ (kI K).locks = false ∧ Z.Warmed39 (kS K).vm
/-- a method's contract, at these arguments and this heap -/
def Con (l : Launch) (y : MethodName) (bs : ByteArray) (mx : Nat) (rt : Option FieldType) (ws : List Jvm.Cond) (rm : Room) (Z : State) (n0 : Nat) (as : Array Value) (h : Heap) (Q : Option Value → Heap → Prop) : Prop :=
  MetFree l y (head1 (Jvm.Cond.code y bs mx rt :: ws) rm) (fun a U => a = as ∧ Z.Warmed39 U.vm ∧ U.heap = h) (fun _ _ _ _ _ => True)
    (fun _ U o U' => ∃ v L, o = .returned v ∧ (Q v U'.heap ∧ Fr n0 L ∧ h.size ≤ U'.heap.size) ∧ FrameEnd U o U' L rm.cells rm.slots)
def qI (P : Int32 → Heap → Prop) : Option Value → Heap → Prop := fun v h => ∃ z, v = some (.int z) ∧ P z h
def qJ (P : Int64 → Heap → Prop) : Option Value → Heap → Prop := fun v h => ∃ z, v = some (.long z) ∧ P z h
def qA (P : Addr → Heap → Prop) : Option Value → Heap → Prop := fun v h => ∃ z, v = some (.ref z) ∧ P z h
def qV (P : Heap → Prop) : Option Value → Heap → Prop := fun v h => v = none ∧ P h
theorem con_of_go {l : Launch} {Z : State} {y : MethodName} {bs : ByteArray} {mx : Nat} {rt : Option FieldType} {ws : List Jvm.Cond} {rm : Room} {as : Array Value} {h : Heap} {n0 : Nat} {Q : Option Value → Heap → Prop} {Ls : List Slot}
    (hp : plainFor y = true) (hLs : ∀ m, entryFrame m as mx = mkF m 0 ⟨Ls⟩ []) (G : ∀ K : Ctx, kL K = l → Cx K Z y.cls bs mx rt y.name → Go K rm n0 (nB (kS K) rm) Q h 0 0 0 Ls []) : Con l y bs mx rt ws rm Z n0 as h Q := by
  refine MetFree.of_bodySF hp hisR ?_
  intro p e s m args below meth c s₁ Bd hml hP hK
  obtain ⟨rfl, hZ, hh⟩ := hP
  obtain ⟨s₂, v, L, h1, h2, h3, h4, h5, h6, h7⟩ := G (p, l, e, s, m, args, below, meth, c) rfl ⟨Bd.exec, Bd.bytes, hml, findClass_of_methodNamed Bd.named, (name_of_methodNamed Bd.named Bd.method).1, Bd.returns, Bd.notSynchronized, hZ⟩ s₁ [] (Stand.of_body Bd) (Fr.nil n0) (by rw [← hh, Bd.state]; rfl)
  exact ⟨s₂, .returned v, castTop (hLs m) h1, h2, h3, v, L, rfl, ⟨h4, h5, by rw [← hh]; exact h7.2.1⟩, ⟨v, rfl⟩, h6, h7⟩
theorem Con.mono {l : Launch} {Z : State} {y : MethodName} {bs : ByteArray} {mx : Nat} {rt : Option FieldType} {ws : List Jvm.Cond} {rm : Room} {as : Array Value} {h : Heap} {n0 : Nat} {Q Q' : Option Value → Heap → Prop}
    (C : Con l y bs mx rt ws rm Z n0 as h Q) (q : ∀ v h, Q v h → Q' v h) : Con l y bs mx rt ws rm Z n0 as h Q' := by
  intro p e ha hc hk s m args below hf happ hP hK
  obtain ⟨n, o, h1, h2, h3, v, L, h4, ⟨h5, h6⟩, h7⟩ := C p e ha hc hk s m args below hf happ hP hK
  exact ⟨n, o, h1, h2, h3, v, L, h4, ⟨q _ _ h5, h6⟩, h7⟩
section
variable {K : Ctx} {R : Room} {n0 : Nat} {B : State → List Loc → Prop} {Q : Option Value → Heap → Prop} {h : Heap} {cells slots pc pc' : Nat} {Ls Ls' : List Slot} {st st' rest : List Value} {Z : State} {own : String} {bs : ByteArray} {mx : Nat} {rt : Option FieldType} {nm : String} {a0 : Array Value}
theorem Go.grow {cells' slots' : Nat} (G : Go K R n0 B Q h cells' slots' pc Ls st) (h1 : cells ≤ cells') (h2 : slots ≤ slots') : Go K R n0 B Q h cells slots pc Ls st :=
  fun T locs X N eT => G T locs { X with same := X.same.mono h1 h2 } N eT
theorem Go.step (H : ∀ T : State, At T (kM K) (kC K) (kB K) → ∀ target, Steps (kP K).tables (kE K) (kB K) (T.setTop (mkF (kM K) pc' ⟨Ls'⟩ st')) target → Steps (kP K).tables (kE K) (kB K) (T.setTop (mkF (kM K) pc ⟨Ls⟩ st)) target) (G : Go K R n0 B Q h cells slots pc' Ls' st') : Go K R n0 B Q h cells slots pc Ls st := by
  intro T locs X N eT
  obtain ⟨s₂, v, L, h1, r⟩ := G T locs X N eT
  exact ⟨s₂, v, L, H T X.here _ h1, r⟩
theorem Go.stepX (H : ∀ (T : State) (locs : List Loc), Stand (kP K) (kL K) (kE K) R (kS K) (kM K) (kA K) (kB K) (kI K) (kC K) T locs cells slots → T.heap = h → ∀ target, Steps (kP K).tables (kE K) (kB K) (T.setTop (mkF (kM K) pc' ⟨Ls'⟩ st')) target → Steps (kP K).tables (kE K) (kB K) (T.setTop (mkF (kM K) pc ⟨Ls⟩ st)) target) (G : Go K R n0 B Q h cells slots pc' Ls' st') : Go K R n0 B Q h cells slots pc Ls st := by
  intro T locs X N eT
  obtain ⟨s₂, v, L, h1, r⟩ := G T locs X N eT
  exact ⟨s₂, v, L, H T locs X eT _ h1, r⟩
theorem g_iloadN (hK : Cx K Z own bs mx rt nm) {k : Fin 4} {v : Int32} (hd : decode bs pc = .ok (.iload_n k, 1)) (hl : Ls[k.val]? = some (.val (.int v))) (G : Go K R n0 B Q h cells slots (pc + 1) Ls (.int v :: st)) : Go K R n0 B Q h cells slots pc Ls st :=
  G.step fun T A t S => XS.iloadN A hK.1 rfl (hb hK.2.1 hd) (by simpa using hl) S
theorem g_iload (hK : Cx K Z own bs mx rt nm) {k : Nat} {v : Int32} (hd : decode bs pc = .ok (.iload k, 2)) (hl : Ls[k]? = some (.val (.int v))) (G : Go K R n0 B Q h cells slots (pc + 2) Ls (.int v :: st)) : Go K R n0 B Q h cells slots pc Ls st :=
  G.step fun T A t S => XS.iload A hK.1 rfl (hb hK.2.1 hd) (by simpa using hl) S
theorem g_lloadN (hK : Cx K Z own bs mx rt nm) {k : Fin 4} {v : Int64} (hd : decode bs pc = .ok (.lload_n k, 1)) (hl : Ls[k.val]? = some (.val (.long v))) (G : Go K R n0 B Q h cells slots (pc + 1) Ls (.long v :: st)) : Go K R n0 B Q h cells slots pc Ls st :=
  G.step fun T A t S => XS.lloadN A hK.1 rfl (hb hK.2.1 hd) (by simpa using hl) S
theorem g_lload (hK : Cx K Z own bs mx rt nm) {k : Nat} {v : Int64} (hd : decode bs pc = .ok (.lload k, 2)) (hl : Ls[k]? = some (.val (.long v))) (G : Go K R n0 B Q h cells slots (pc + 2) Ls (.long v :: st)) : Go K R n0 B Q h cells slots pc Ls st :=
  G.step fun T A t S => XS.lload A hK.1 rfl (hb hK.2.1 hd) (by simpa using hl) S
theorem g_aloadN (hK : Cx K Z own bs mx rt nm) {k : Fin 4} {v : Addr} (hd : decode bs pc = .ok (.aload_n k, 1)) (hl : Ls[k.val]? = some (.val (.ref v))) (G : Go K R n0 B Q h cells slots (pc + 1) Ls (.ref v :: st)) : Go K R n0 B Q h cells slots pc Ls st :=
  G.step fun T A t S => XS.aloadN A hK.1 rfl (hb hK.2.1 hd) (by simpa using hl) rfl S
theorem g_aload (hK : Cx K Z own bs mx rt nm) {k : Nat} {v : Addr} (hd : decode bs pc = .ok (.aload k, 2)) (hl : Ls[k]? = some (.val (.ref v))) (G : Go K R n0 B Q h cells slots (pc + 2) Ls (.ref v :: st)) : Go K R n0 B Q h cells slots pc Ls st :=
  G.step fun T A t S => XS.aload A hK.1 rfl (hb hK.2.1 hd) (by simpa using hl) rfl S
theorem g_iconst (hK : Cx K Z own bs mx rt nm) {i : Int} {z : Int32} (hd : decode bs pc = .ok (.iconst i, 1)) (hz : (Int32.ofInt i) = z) (G : Go K R n0 B Q h cells slots (pc + 1) Ls (.int z :: st)) : Go K R n0 B Q h cells slots pc Ls st :=
  G.step fun T A t S => XS.iconst A hK.1 rfl (hb hK.2.1 hd) (by subst hz; exact S)
theorem g_bipush (hK : Cx K Z own bs mx rt nm) {i : Int} {z : Int32} (hd : decode bs pc = .ok (.bipush i, 2)) (hz : (Int8.ofInt i).toInt32 = z) (G : Go K R n0 B Q h cells slots (pc + 2) Ls (.int z :: st)) : Go K R n0 B Q h cells slots pc Ls st :=
  G.step fun T A t S => XS.bipush A hK.1 rfl (hb hK.2.1 hd) (by subst hz; exact S)
theorem g_sipush (hK : Cx K Z own bs mx rt nm) {i : Int} {z : Int32} (hd : decode bs pc = .ok (.sipush i, 3)) (hz : (Int16.ofInt i).toInt32 = z) (G : Go K R n0 B Q h cells slots (pc + 3) Ls (.int z :: st)) : Go K R n0 B Q h cells slots pc Ls st :=
  G.step fun T A t S => XS.sipush A hK.1 rfl (hb hK.2.1 hd) (by subst hz; exact S)
theorem g_lconst (hK : Cx K Z own bs mx rt nm) {k : Fin 2} {z : Int64} (hd : decode bs pc = .ok (.lconst k, 1)) (hz : (Int64.ofNat k) = z) (G : Go K R n0 B Q h cells slots (pc + 1) Ls (.long z :: st)) : Go K R n0 B Q h cells slots pc Ls st :=
  G.step fun T A t S => XS.lconst A hK.1 rfl (hb hK.2.1 hd) (by subst hz; exact S)
theorem g_aconst_null (hK : Cx K Z own bs mx rt nm) (hd : decode bs pc = .ok (.aconst_null, 1)) (G : Go K R n0 B Q h cells slots (pc + 1) Ls (.null :: st)) : Go K R n0 B Q h cells slots pc Ls st :=
  G.step fun T A t S => XS.aconstNull A hK.1 rfl (hb hK.2.1 hd) S
theorem g_iadd (hK : Cx K Z own bs mx rt nm) {x y : Int32} (hd : decode bs pc = .ok (.iadd, 1)) (G : Go K R n0 B Q h cells slots (pc + 1) Ls (.int (x + y) :: rest)) : Go K R n0 B Q h cells slots pc Ls (.int y :: .int x :: rest) :=
  G.step fun T A t S => XS.iadd A hK.1 rfl (hb hK.2.1 hd) rfl S
theorem g_isub (hK : Cx K Z own bs mx rt nm) {x y : Int32} (hd : decode bs pc = .ok (.isub, 1)) (G : Go K R n0 B Q h cells slots (pc + 1) Ls (.int (x - y) :: rest)) : Go K R n0 B Q h cells slots pc Ls (.int y :: .int x :: rest) :=
  G.step fun T A t S => XS.isub A hK.1 rfl (hb hK.2.1 hd) rfl S
theorem g_imul (hK : Cx K Z own bs mx rt nm) {x y : Int32} (hd : decode bs pc = .ok (.imul, 1)) (G : Go K R n0 B Q h cells slots (pc + 1) Ls (.int (x * y) :: rest)) : Go K R n0 B Q h cells slots pc Ls (.int y :: .int x :: rest) :=
  G.step fun T A t S => XS.imul A hK.1 rfl (hb hK.2.1 hd) rfl S
theorem g_iand (hK : Cx K Z own bs mx rt nm) {x y : Int32} (hd : decode bs pc = .ok (.iand, 1)) (G : Go K R n0 B Q h cells slots (pc + 1) Ls (.int (x &&& y) :: rest)) : Go K R n0 B Q h cells slots pc Ls (.int y :: .int x :: rest) :=
  G.step fun T A t S => XS.iand A hK.1 rfl (hb hK.2.1 hd) rfl S
theorem g_ior (hK : Cx K Z own bs mx rt nm) {x y : Int32} (hd : decode bs pc = .ok (.ior, 1)) (G : Go K R n0 B Q h cells slots (pc + 1) Ls (.int (x ||| y) :: rest)) : Go K R n0 B Q h cells slots pc Ls (.int y :: .int x :: rest) :=
  G.step fun T A t S => XS.ior A hK.1 rfl (hb hK.2.1 hd) rfl S
theorem g_ixor (hK : Cx K Z own bs mx rt nm) {x y : Int32} (hd : decode bs pc = .ok (.ixor, 1)) (G : Go K R n0 B Q h cells slots (pc + 1) Ls (.int (x ^^^ y) :: rest)) : Go K R n0 B Q h cells slots pc Ls (.int y :: .int x :: rest) :=
  G.step fun T A t S => XS.ixor A hK.1 rfl (hb hK.2.1 hd) rfl S
theorem g_ishl (hK : Cx K Z own bs mx rt nm) {x y : Int32} (hd : decode bs pc = .ok (.ishl, 1)) (G : Go K R n0 B Q h cells slots (pc + 1) Ls (.int (x <<< (y &&& 31)) :: rest)) : Go K R n0 B Q h cells slots pc Ls (.int y :: .int x :: rest) :=
  G.step fun T A t S => XS.ishl A hK.1 rfl (hb hK.2.1 hd) rfl S
theorem g_ishr (hK : Cx K Z own bs mx rt nm) {x y : Int32} (hd : decode bs pc = .ok (.ishr, 1)) (G : Go K R n0 B Q h cells slots (pc + 1) Ls (.int (x >>> (y &&& 31)) :: rest)) : Go K R n0 B Q h cells slots pc Ls (.int y :: .int x :: rest) :=
  G.step fun T A t S => XS.ishr A hK.1 rfl (hb hK.2.1 hd) rfl S
theorem g_iushr (hK : Cx K Z own bs mx rt nm) {x y : Int32} (hd : decode bs pc = .ok (.iushr, 1)) (G : Go K R n0 B Q h cells slots (pc + 1) Ls (.int ((x.toUInt32 >>> (y &&& 31).toUInt32).toInt32) :: rest)) : Go K R n0 B Q h cells slots pc Ls (.int y :: .int x :: rest) :=
  G.step fun T A t S => XS.iushr A hK.1 rfl (hb hK.2.1 hd) rfl S
theorem irem_mod (x y : Int32) : x - (x / y) * y = x % y := by
  apply Int32.toInt_inj.mp
  have h1 := Int32.le_toInt (x % y)
  have h2 := Int32.toInt_lt (x % y)
  rw [Int32.toInt_sub, Int32.toInt_mul, Int32.toInt_div, Int.bmod_mul_bmod, Int.sub_bmod_bmod, Int.mul_comm (x.toInt.tdiv y.toInt), ← Int.tmod_def, ← Int32.toInt_mod]
  exact Int.bmod_eq_of_le_mul_two (by omega) (by omega)
theorem g_idiv (hK : Cx K Z own bs mx rt nm) {x y : Int32} (hd : decode bs pc = .ok (.idiv, 1)) (hy : y ≠ 0) (G : Go K R n0 B Q h cells slots (pc + 1) Ls (.int (x / y) :: rest)) : Go K R n0 B Q h cells slots pc Ls (.int y :: .int x :: rest) :=
  G.step fun T A t S => XS.idiv A hK.1 rfl (hb hK.2.1 hd) rfl hy S
theorem g_irem (hK : Cx K Z own bs mx rt nm) {x y : Int32} (hd : decode bs pc = .ok (.irem, 1)) (hy : y ≠ 0) (G : Go K R n0 B Q h cells slots (pc + 1) Ls (.int (x % y) :: rest)) : Go K R n0 B Q h cells slots pc Ls (.int y :: .int x :: rest) :=
  G.step fun T A t S => XS.irem A hK.1 rfl (hb hK.2.1 hd) rfl hy (by rw [irem_mod]; exact S)
theorem g_ineg (hK : Cx K Z own bs mx rt nm) {x : Int32} (hd : decode bs pc = .ok (.ineg, 1)) (G : Go K R n0 B Q h cells slots (pc + 1) Ls (.int (-x) :: rest)) : Go K R n0 B Q h cells slots pc Ls (.int x :: rest) :=
  G.step fun T A t S => XS.ineg A hK.1 rfl (hb hK.2.1 hd) rfl S
theorem g_ladd (hK : Cx K Z own bs mx rt nm) {x y : Int64} (hd : decode bs pc = .ok (.ladd, 1)) (G : Go K R n0 B Q h cells slots (pc + 1) Ls (.long (x + y) :: rest)) : Go K R n0 B Q h cells slots pc Ls (.long y :: .long x :: rest) :=
  G.step fun T A t S => XS.ladd A hK.1 rfl (hb hK.2.1 hd) rfl S
theorem g_lsub (hK : Cx K Z own bs mx rt nm) {x y : Int64} (hd : decode bs pc = .ok (.lsub, 1)) (G : Go K R n0 B Q h cells slots (pc + 1) Ls (.long (x - y) :: rest)) : Go K R n0 B Q h cells slots pc Ls (.long y :: .long x :: rest) :=
  G.step fun T A t S => XS.lsub A hK.1 rfl (hb hK.2.1 hd) rfl S
theorem g_lmul (hK : Cx K Z own bs mx rt nm) {x y : Int64} (hd : decode bs pc = .ok (.lmul, 1)) (G : Go K R n0 B Q h cells slots (pc + 1) Ls (.long (x * y) :: rest)) : Go K R n0 B Q h cells slots pc Ls (.long y :: .long x :: rest) :=
  G.step fun T A t S => XS.lmul A hK.1 rfl (hb hK.2.1 hd) rfl S
theorem g_land (hK : Cx K Z own bs mx rt nm) {x y : Int64} (hd : decode bs pc = .ok (.land, 1)) (G : Go K R n0 B Q h cells slots (pc + 1) Ls (.long (x &&& y) :: rest)) : Go K R n0 B Q h cells slots pc Ls (.long y :: .long x :: rest) :=
  G.step fun T A t S => XS.land A hK.1 rfl (hb hK.2.1 hd) rfl S
theorem g_lor (hK : Cx K Z own bs mx rt nm) {x y : Int64} (hd : decode bs pc = .ok (.lor, 1)) (G : Go K R n0 B Q h cells slots (pc + 1) Ls (.long (x ||| y) :: rest)) : Go K R n0 B Q h cells slots pc Ls (.long y :: .long x :: rest) :=
  G.step fun T A t S => XS.lor A hK.1 rfl (hb hK.2.1 hd) rfl S
theorem g_lxor (hK : Cx K Z own bs mx rt nm) {x y : Int64} (hd : decode bs pc = .ok (.lxor, 1)) (G : Go K R n0 B Q h cells slots (pc + 1) Ls (.long (x ^^^ y) :: rest)) : Go K R n0 B Q h cells slots pc Ls (.long y :: .long x :: rest) :=
  G.step fun T A t S => XS.lxor A hK.1 rfl (hb hK.2.1 hd) rfl S
theorem g_ldiv (hK : Cx K Z own bs mx rt nm) {x y : Int64} (hd : decode bs pc = .ok (.ldiv, 1)) (hy : y ≠ 0) (G : Go K R n0 B Q h cells slots (pc + 1) Ls (.long (x / y) :: rest)) : Go K R n0 B Q h cells slots pc Ls (.long y :: .long x :: rest) :=
  G.step fun T A t S => XS.ldiv A hK.1 rfl (hb hK.2.1 hd) rfl hy S
theorem g_lshl (hK : Cx K Z own bs mx rt nm) {x : Int64} {y : Int32} (hd : decode bs pc = .ok (.lshl, 1)) (G : Go K R n0 B Q h cells slots (pc + 1) Ls (.long (x <<< (y &&& 0x3f).toInt64) :: rest)) : Go K R n0 B Q h cells slots pc Ls (.int y :: .long x :: rest) :=
  G.step fun T A t S => XS.lshl A hK.1 rfl (hb hK.2.1 hd) rfl S
theorem g_lshr (hK : Cx K Z own bs mx rt nm) {x : Int64} {y : Int32} (hd : decode bs pc = .ok (.lshr, 1)) (G : Go K R n0 B Q h cells slots (pc + 1) Ls (.long (x >>> (y &&& 0x3f).toInt64) :: rest)) : Go K R n0 B Q h cells slots pc Ls (.int y :: .long x :: rest) :=
  G.step fun T A t S => XS.lshr A hK.1 rfl (hb hK.2.1 hd) rfl S
theorem g_lushr (hK : Cx K Z own bs mx rt nm) {x : Int64} {y : Int32} (hd : decode bs pc = .ok (.lushr, 1)) (G : Go K R n0 B Q h cells slots (pc + 1) Ls (.long ((x.toUInt64 >>> (y &&& 0x3f).toInt64.toUInt64).toInt64) :: rest)) : Go K R n0 B Q h cells slots pc Ls (.int y :: .long x :: rest) :=
  G.step fun T A t S => XS.lushr A hK.1 rfl (hb hK.2.1 hd) rfl S
theorem g_i2l (hK : Cx K Z own bs mx rt nm) {x : Int32} (hd : decode bs pc = .ok (.i2l, 1)) (G : Go K R n0 B Q h cells slots (pc + 1) Ls (.long x.toInt64 :: rest)) : Go K R n0 B Q h cells slots pc Ls (.int x :: rest) :=
  G.step fun T A t S => XS.i2l A hK.1 rfl (hb hK.2.1 hd) rfl S
theorem g_l2i (hK : Cx K Z own bs mx rt nm) {x : Int64} (hd : decode bs pc = .ok (.l2i, 1)) (G : Go K R n0 B Q h cells slots (pc + 1) Ls (.int x.toInt32 :: rest)) : Go K R n0 B Q h cells slots pc Ls (.long x :: rest) :=
  G.step fun T A t S => XS.l2i A hK.1 rfl (hb hK.2.1 hd) rfl S
theorem g_i2b (hK : Cx K Z own bs mx rt nm) {x : Int32} (hd : decode bs pc = .ok (.i2b, 1)) (G : Go K R n0 B Q h cells slots (pc + 1) Ls (.int x.toInt8.toInt32 :: rest)) : Go K R n0 B Q h cells slots pc Ls (.int x :: rest) :=
  G.step fun T A t S => XS.i2b A hK.1 rfl (hb hK.2.1 hd) rfl S
theorem g_dup (hK : Cx K Z own bs mx rt nm) {x : Value} (hd : decode bs pc = .ok (.dup, 1)) (hc : x.category = 1) (G : Go K R n0 B Q h cells slots (pc + 1) Ls (x :: x :: rest)) : Go K R n0 B Q h cells slots pc Ls (x :: rest) :=
  G.step fun T A t S => XS.dup A hK.1 rfl (hb hK.2.1 hd) rfl hc S
theorem g_pop (hK : Cx K Z own bs mx rt nm) {x : Value} (hd : decode bs pc = .ok (.pop, 1)) (hc : x.category = 1) (G : Go K R n0 B Q h cells slots (pc + 1) Ls rest) : Go K R n0 B Q h cells slots pc Ls (x :: rest) :=
  G.step fun T A t S => XS.pop A hK.1 rfl (hb hK.2.1 hd) rfl hc S
theorem g_dup_x1 (hK : Cx K Z own bs mx rt nm) {x y : Value} (hd : decode bs pc = .ok (.dup_x1, 1)) (hc : x.category = 1) (hc2 : y.category = 1) (G : Go K R n0 B Q h cells slots (pc + 1) Ls (x :: y :: x :: rest)) : Go K R n0 B Q h cells slots pc Ls (x :: y :: rest) :=
  G.step fun T A t S => XS.dupX1 A hK.1 rfl (hb hK.2.1 hd) rfl hc hc2 S
theorem g_dup2 (hK : Cx K Z own bs mx rt nm) {x y : Value} (hd : decode bs pc = .ok (.dup2, 1)) (hc : x.category = 1) (hc2 : y.category = 1) (G : Go K R n0 B Q h cells slots (pc + 1) Ls (x :: y :: x :: y :: rest)) : Go K R n0 B Q h cells slots pc Ls (x :: y :: rest) :=
  G.step fun T A t S => XT.dup2 A hK.1 rfl (hb hK.2.1 hd) rfl hc hc2 S
theorem g_goto (hK : Cx K Z own bs mx rt nm) {o : Int} (hd : decode bs pc = .ok (.goto o, 3)) (ho : 0 ≤ (pc : Int) + o ∧ ((pc : Int) + o).toNat = pc') (G : Go K R n0 B Q h cells slots pc' Ls st) : Go K R n0 B Q h cells slots pc Ls st :=
  G.step fun T A t S => XS.goto A hK.1 rfl rfl (hb hK.2.1 hd) ho.1 ho.2 S
theorem ih_eq (x y : Int32) : if_icmp.holds .eq x y = decide (x = y) := by by_cases q : x = y <;> simp [if_icmp.holds, q]
theorem ih_ne (x y : Int32) : if_icmp.holds .ne x y = decide (x ≠ y) := by by_cases q : x = y <;> simp [if_icmp.holds, q]
theorem ih_lt (x y : Int32) : if_icmp.holds .lt x y = decide (x.toInt < y.toInt) := by by_cases q : x.toInt < y.toInt <;> simp [if_icmp.holds, Int32.lt_iff_toInt_lt, Int32.le_iff_toInt_le, q]
theorem ih_ge (x y : Int32) : if_icmp.holds .ge x y = decide (y.toInt ≤ x.toInt) := by by_cases q : y.toInt ≤ x.toInt <;> simp [if_icmp.holds, Int32.lt_iff_toInt_lt, Int32.le_iff_toInt_le, q]
theorem ih_gt (x y : Int32) : if_icmp.holds .gt x y = decide (y.toInt < x.toInt) := by by_cases q : y.toInt < x.toInt <;> simp [if_icmp.holds, Int32.lt_iff_toInt_lt, Int32.le_iff_toInt_le, q]
theorem ih_le (x y : Int32) : if_icmp.holds .le x y = decide (x.toInt ≤ y.toInt) := by by_cases q : x.toInt ≤ y.toInt <;> simp [if_icmp.holds, Int32.lt_iff_toInt_lt, Int32.le_iff_toInt_le, q]
theorem gY_icmp_eq (hK : Cx K Z own bs mx rt nm) {o : Int} {x y : Int32} (hd : decode bs pc = .ok (.if_icmp .eq o, 3)) (ho : 0 ≤ (pc : Int) + o ∧ ((pc : Int) + o).toNat = pc') (q : x = y) (G : Go K R n0 B Q h cells slots pc' Ls rest) : Go K R n0 B Q h cells slots pc Ls (.int y :: .int x :: rest) :=
  G.step fun T A t S => XS.icmpYes A hK.1 rfl rfl (hb hK.2.1 hd) rfl (by rw [ih_eq]; exact decide_eq_true q) ho.1 ho.2 S
theorem gN_icmp_eq (hK : Cx K Z own bs mx rt nm) {o : Int} {x y : Int32} (hd : decode bs pc = .ok (.if_icmp .eq o, 3)) (q : x ≠ y) (G : Go K R n0 B Q h cells slots (pc + 3) Ls rest) : Go K R n0 B Q h cells slots pc Ls (.int y :: .int x :: rest) :=
  G.step fun T A t S => XS.icmpNo A hK.1 rfl (hb hK.2.1 hd) rfl (by rw [ih_eq]; exact decide_eq_false (q)) S
theorem g_icmp_eq (hK : Cx K Z own bs mx rt nm) {o : Int} {x y : Int32} (hd : decode bs pc = .ok (.if_icmp .eq o, 3)) (ho : 0 ≤ (pc : Int) + o ∧ ((pc : Int) + o).toNat = pc') (G1 : x = y → Go K R n0 B Q h cells slots pc' Ls rest) (G2 : x ≠ y → Go K R n0 B Q h cells slots (pc + 3) Ls rest) : Go K R n0 B Q h cells slots pc Ls (.int y :: .int x :: rest) :=
  (Decidable.em (x = y)).elim (fun z => gY_icmp_eq hK hd ho z (G1 z)) (fun z => gN_icmp_eq hK hd (z) ((fun z => G2 z) z))
theorem gY_icmp_ne (hK : Cx K Z own bs mx rt nm) {o : Int} {x y : Int32} (hd : decode bs pc = .ok (.if_icmp .ne o, 3)) (ho : 0 ≤ (pc : Int) + o ∧ ((pc : Int) + o).toNat = pc') (q : x ≠ y) (G : Go K R n0 B Q h cells slots pc' Ls rest) : Go K R n0 B Q h cells slots pc Ls (.int y :: .int x :: rest) :=
  G.step fun T A t S => XS.icmpYes A hK.1 rfl rfl (hb hK.2.1 hd) rfl (by rw [ih_ne]; exact decide_eq_true q) ho.1 ho.2 S
theorem gN_icmp_ne (hK : Cx K Z own bs mx rt nm) {o : Int} {x y : Int32} (hd : decode bs pc = .ok (.if_icmp .ne o, 3)) (q : x = y) (G : Go K R n0 B Q h cells slots (pc + 3) Ls rest) : Go K R n0 B Q h cells slots pc Ls (.int y :: .int x :: rest) :=
  G.step fun T A t S => XS.icmpNo A hK.1 rfl (hb hK.2.1 hd) rfl (by rw [ih_ne]; exact decide_eq_false (fun z => z q)) S
theorem g_icmp_ne (hK : Cx K Z own bs mx rt nm) {o : Int} {x y : Int32} (hd : decode bs pc = .ok (.if_icmp .ne o, 3)) (ho : 0 ≤ (pc : Int) + o ∧ ((pc : Int) + o).toNat = pc') (G1 : x ≠ y → Go K R n0 B Q h cells slots pc' Ls rest) (G2 : x = y → Go K R n0 B Q h cells slots (pc + 3) Ls rest) : Go K R n0 B Q h cells slots pc Ls (.int y :: .int x :: rest) :=
  (Decidable.em (x ≠ y)).elim (fun z => gY_icmp_ne hK hd ho z (G1 z)) (fun z => gN_icmp_ne hK hd (Decidable.not_not.mp z) ((fun z => G2 (Decidable.not_not.mp z)) z))
theorem gY_icmp_lt (hK : Cx K Z own bs mx rt nm) {o : Int} {x y : Int32} (hd : decode bs pc = .ok (.if_icmp .lt o, 3)) (ho : 0 ≤ (pc : Int) + o ∧ ((pc : Int) + o).toNat = pc') (q : x.toInt < y.toInt) (G : Go K R n0 B Q h cells slots pc' Ls rest) : Go K R n0 B Q h cells slots pc Ls (.int y :: .int x :: rest) :=
  G.step fun T A t S => XS.icmpYes A hK.1 rfl rfl (hb hK.2.1 hd) rfl (by rw [ih_lt]; exact decide_eq_true q) ho.1 ho.2 S
theorem gN_icmp_lt (hK : Cx K Z own bs mx rt nm) {o : Int} {x y : Int32} (hd : decode bs pc = .ok (.if_icmp .lt o, 3)) (q : y.toInt ≤ x.toInt) (G : Go K R n0 B Q h cells slots (pc + 3) Ls rest) : Go K R n0 B Q h cells slots pc Ls (.int y :: .int x :: rest) :=
  G.step fun T A t S => XS.icmpNo A hK.1 rfl (hb hK.2.1 hd) rfl (by rw [ih_lt]; exact decide_eq_false (Int.not_lt.mpr q)) S
theorem g_icmp_lt (hK : Cx K Z own bs mx rt nm) {o : Int} {x y : Int32} (hd : decode bs pc = .ok (.if_icmp .lt o, 3)) (ho : 0 ≤ (pc : Int) + o ∧ ((pc : Int) + o).toNat = pc') (G1 : x.toInt < y.toInt → Go K R n0 B Q h cells slots pc' Ls rest) (G2 : y.toInt ≤ x.toInt → Go K R n0 B Q h cells slots (pc + 3) Ls rest) : Go K R n0 B Q h cells slots pc Ls (.int y :: .int x :: rest) :=
  (Decidable.em (x.toInt < y.toInt)).elim (fun z => gY_icmp_lt hK hd ho z (G1 z)) (fun z => gN_icmp_lt hK hd (Int.not_lt.mp z) ((fun z => G2 (Int.not_lt.mp z)) z))
theorem gY_icmp_ge (hK : Cx K Z own bs mx rt nm) {o : Int} {x y : Int32} (hd : decode bs pc = .ok (.if_icmp .ge o, 3)) (ho : 0 ≤ (pc : Int) + o ∧ ((pc : Int) + o).toNat = pc') (q : y.toInt ≤ x.toInt) (G : Go K R n0 B Q h cells slots pc' Ls rest) : Go K R n0 B Q h cells slots pc Ls (.int y :: .int x :: rest) :=
  G.step fun T A t S => XS.icmpYes A hK.1 rfl rfl (hb hK.2.1 hd) rfl (by rw [ih_ge]; exact decide_eq_true q) ho.1 ho.2 S
theorem gN_icmp_ge (hK : Cx K Z own bs mx rt nm) {o : Int} {x y : Int32} (hd : decode bs pc = .ok (.if_icmp .ge o, 3)) (q : x.toInt < y.toInt) (G : Go K R n0 B Q h cells slots (pc + 3) Ls rest) : Go K R n0 B Q h cells slots pc Ls (.int y :: .int x :: rest) :=
  G.step fun T A t S => XS.icmpNo A hK.1 rfl (hb hK.2.1 hd) rfl (by rw [ih_ge]; exact decide_eq_false (Int.not_le.mpr q)) S
theorem g_icmp_ge (hK : Cx K Z own bs mx rt nm) {o : Int} {x y : Int32} (hd : decode bs pc = .ok (.if_icmp .ge o, 3)) (ho : 0 ≤ (pc : Int) + o ∧ ((pc : Int) + o).toNat = pc') (G1 : y.toInt ≤ x.toInt → Go K R n0 B Q h cells slots pc' Ls rest) (G2 : x.toInt < y.toInt → Go K R n0 B Q h cells slots (pc + 3) Ls rest) : Go K R n0 B Q h cells slots pc Ls (.int y :: .int x :: rest) :=
  (Decidable.em (y.toInt ≤ x.toInt)).elim (fun z => gY_icmp_ge hK hd ho z (G1 z)) (fun z => gN_icmp_ge hK hd (Int.not_le.mp z) ((fun z => G2 (Int.not_le.mp z)) z))
theorem gY_icmp_gt (hK : Cx K Z own bs mx rt nm) {o : Int} {x y : Int32} (hd : decode bs pc = .ok (.if_icmp .gt o, 3)) (ho : 0 ≤ (pc : Int) + o ∧ ((pc : Int) + o).toNat = pc') (q : y.toInt < x.toInt) (G : Go K R n0 B Q h cells slots pc' Ls rest) : Go K R n0 B Q h cells slots pc Ls (.int y :: .int x :: rest) :=
  G.step fun T A t S => XS.icmpYes A hK.1 rfl rfl (hb hK.2.1 hd) rfl (by rw [ih_gt]; exact decide_eq_true q) ho.1 ho.2 S
theorem gN_icmp_gt (hK : Cx K Z own bs mx rt nm) {o : Int} {x y : Int32} (hd : decode bs pc = .ok (.if_icmp .gt o, 3)) (q : x.toInt ≤ y.toInt) (G : Go K R n0 B Q h cells slots (pc + 3) Ls rest) : Go K R n0 B Q h cells slots pc Ls (.int y :: .int x :: rest) :=
  G.step fun T A t S => XS.icmpNo A hK.1 rfl (hb hK.2.1 hd) rfl (by rw [ih_gt]; exact decide_eq_false (Int.not_lt.mpr q)) S
theorem g_icmp_gt (hK : Cx K Z own bs mx rt nm) {o : Int} {x y : Int32} (hd : decode bs pc = .ok (.if_icmp .gt o, 3)) (ho : 0 ≤ (pc : Int) + o ∧ ((pc : Int) + o).toNat = pc') (G1 : y.toInt < x.toInt → Go K R n0 B Q h cells slots pc' Ls rest) (G2 : x.toInt ≤ y.toInt → Go K R n0 B Q h cells slots (pc + 3) Ls rest) : Go K R n0 B Q h cells slots pc Ls (.int y :: .int x :: rest) :=
  (Decidable.em (y.toInt < x.toInt)).elim (fun z => gY_icmp_gt hK hd ho z (G1 z)) (fun z => gN_icmp_gt hK hd (Int.not_lt.mp z) ((fun z => G2 (Int.not_lt.mp z)) z))
theorem gY_icmp_le (hK : Cx K Z own bs mx rt nm) {o : Int} {x y : Int32} (hd : decode bs pc = .ok (.if_icmp .le o, 3)) (ho : 0 ≤ (pc : Int) + o ∧ ((pc : Int) + o).toNat = pc') (q : x.toInt ≤ y.toInt) (G : Go K R n0 B Q h cells slots pc' Ls rest) : Go K R n0 B Q h cells slots pc Ls (.int y :: .int x :: rest) :=
  G.step fun T A t S => XS.icmpYes A hK.1 rfl rfl (hb hK.2.1 hd) rfl (by rw [ih_le]; exact decide_eq_true q) ho.1 ho.2 S
theorem gN_icmp_le (hK : Cx K Z own bs mx rt nm) {o : Int} {x y : Int32} (hd : decode bs pc = .ok (.if_icmp .le o, 3)) (q : y.toInt < x.toInt) (G : Go K R n0 B Q h cells slots (pc + 3) Ls rest) : Go K R n0 B Q h cells slots pc Ls (.int y :: .int x :: rest) :=
  G.step fun T A t S => XS.icmpNo A hK.1 rfl (hb hK.2.1 hd) rfl (by rw [ih_le]; exact decide_eq_false (Int.not_le.mpr q)) S
theorem g_icmp_le (hK : Cx K Z own bs mx rt nm) {o : Int} {x y : Int32} (hd : decode bs pc = .ok (.if_icmp .le o, 3)) (ho : 0 ≤ (pc : Int) + o ∧ ((pc : Int) + o).toNat = pc') (G1 : x.toInt ≤ y.toInt → Go K R n0 B Q h cells slots pc' Ls rest) (G2 : y.toInt < x.toInt → Go K R n0 B Q h cells slots (pc + 3) Ls rest) : Go K R n0 B Q h cells slots pc Ls (.int y :: .int x :: rest) :=
  (Decidable.em (x.toInt ≤ y.toInt)).elim (fun z => gY_icmp_le hK hd ho z (G1 z)) (fun z => gN_icmp_le hK hd (Int.not_le.mp z) ((fun z => G2 (Int.not_le.mp z)) z))
theorem gY_if_eq (hK : Cx K Z own bs mx rt nm) {o : Int} {x : Int32} (hd : decode bs pc = .ok (.ifCond .eq o, 3)) (ho : 0 ≤ (pc : Int) + o ∧ ((pc : Int) + o).toNat = pc') (q : x = 0) (G : Go K R n0 B Q h cells slots pc' Ls rest) : Go K R n0 B Q h cells slots pc Ls (.int x :: rest) :=
  G.step fun T A t S => XS.ifYes A hK.1 rfl rfl (hb hK.2.1 hd) rfl (by rw [if0, ih_eq]; exact decide_eq_true q) ho.1 ho.2 S
theorem gN_if_eq (hK : Cx K Z own bs mx rt nm) {o : Int} {x : Int32} (hd : decode bs pc = .ok (.ifCond .eq o, 3)) (q : x ≠ 0) (G : Go K R n0 B Q h cells slots (pc + 3) Ls rest) : Go K R n0 B Q h cells slots pc Ls (.int x :: rest) :=
  G.step fun T A t S => XS.ifNo A hK.1 rfl (hb hK.2.1 hd) rfl (by rw [if0, ih_eq]; exact decide_eq_false (q)) S
theorem g_if_eq (hK : Cx K Z own bs mx rt nm) {o : Int} {x : Int32} (hd : decode bs pc = .ok (.ifCond .eq o, 3)) (ho : 0 ≤ (pc : Int) + o ∧ ((pc : Int) + o).toNat = pc') (G1 : x = 0 → Go K R n0 B Q h cells slots pc' Ls rest) (G2 : x ≠ 0 → Go K R n0 B Q h cells slots (pc + 3) Ls rest) : Go K R n0 B Q h cells slots pc Ls (.int x :: rest) :=
  (Decidable.em (x = 0)).elim (fun z => gY_if_eq hK hd ho z (G1 z)) (fun z => gN_if_eq hK hd (z) (G2 (z)))
theorem gY_if_ne (hK : Cx K Z own bs mx rt nm) {o : Int} {x : Int32} (hd : decode bs pc = .ok (.ifCond .ne o, 3)) (ho : 0 ≤ (pc : Int) + o ∧ ((pc : Int) + o).toNat = pc') (q : x ≠ 0) (G : Go K R n0 B Q h cells slots pc' Ls rest) : Go K R n0 B Q h cells slots pc Ls (.int x :: rest) :=
  G.step fun T A t S => XS.ifYes A hK.1 rfl rfl (hb hK.2.1 hd) rfl (by rw [if0, ih_ne]; exact decide_eq_true q) ho.1 ho.2 S
theorem gN_if_ne (hK : Cx K Z own bs mx rt nm) {o : Int} {x : Int32} (hd : decode bs pc = .ok (.ifCond .ne o, 3)) (q : x = 0) (G : Go K R n0 B Q h cells slots (pc + 3) Ls rest) : Go K R n0 B Q h cells slots pc Ls (.int x :: rest) :=
  G.step fun T A t S => XS.ifNo A hK.1 rfl (hb hK.2.1 hd) rfl (by rw [if0, ih_ne]; exact decide_eq_false (fun z => z q)) S
theorem g_if_ne (hK : Cx K Z own bs mx rt nm) {o : Int} {x : Int32} (hd : decode bs pc = .ok (.ifCond .ne o, 3)) (ho : 0 ≤ (pc : Int) + o ∧ ((pc : Int) + o).toNat = pc') (G1 : x ≠ 0 → Go K R n0 B Q h cells slots pc' Ls rest) (G2 : x = 0 → Go K R n0 B Q h cells slots (pc + 3) Ls rest) : Go K R n0 B Q h cells slots pc Ls (.int x :: rest) :=
  (Decidable.em (x ≠ 0)).elim (fun z => gY_if_ne hK hd ho z (G1 z)) (fun z => gN_if_ne hK hd (Decidable.not_not.mp z) (G2 (Decidable.not_not.mp z)))
theorem gY_if_lt (hK : Cx K Z own bs mx rt nm) {o : Int} {x : Int32} (hd : decode bs pc = .ok (.ifCond .lt o, 3)) (ho : 0 ≤ (pc : Int) + o ∧ ((pc : Int) + o).toNat = pc') (q : x.toInt < 0) (G : Go K R n0 B Q h cells slots pc' Ls rest) : Go K R n0 B Q h cells slots pc Ls (.int x :: rest) :=
  G.step fun T A t S => XS.ifYes A hK.1 rfl rfl (hb hK.2.1 hd) rfl (by rw [if0, ih_lt]; exact decide_eq_true q) ho.1 ho.2 S
theorem gN_if_lt (hK : Cx K Z own bs mx rt nm) {o : Int} {x : Int32} (hd : decode bs pc = .ok (.ifCond .lt o, 3)) (q : 0 ≤ x.toInt) (G : Go K R n0 B Q h cells slots (pc + 3) Ls rest) : Go K R n0 B Q h cells slots pc Ls (.int x :: rest) :=
  G.step fun T A t S => XS.ifNo A hK.1 rfl (hb hK.2.1 hd) rfl (by rw [if0, ih_lt]; exact decide_eq_false (Int.not_lt.mpr q)) S
theorem g_if_lt (hK : Cx K Z own bs mx rt nm) {o : Int} {x : Int32} (hd : decode bs pc = .ok (.ifCond .lt o, 3)) (ho : 0 ≤ (pc : Int) + o ∧ ((pc : Int) + o).toNat = pc') (G1 : x.toInt < 0 → Go K R n0 B Q h cells slots pc' Ls rest) (G2 : 0 ≤ x.toInt → Go K R n0 B Q h cells slots (pc + 3) Ls rest) : Go K R n0 B Q h cells slots pc Ls (.int x :: rest) :=
  (Decidable.em (x.toInt < 0)).elim (fun z => gY_if_lt hK hd ho z (G1 z)) (fun z => gN_if_lt hK hd (Int.not_lt.mp z) (G2 (Int.not_lt.mp z)))
theorem gY_if_ge (hK : Cx K Z own bs mx rt nm) {o : Int} {x : Int32} (hd : decode bs pc = .ok (.ifCond .ge o, 3)) (ho : 0 ≤ (pc : Int) + o ∧ ((pc : Int) + o).toNat = pc') (q : 0 ≤ x.toInt) (G : Go K R n0 B Q h cells slots pc' Ls rest) : Go K R n0 B Q h cells slots pc Ls (.int x :: rest) :=
  G.step fun T A t S => XS.ifYes A hK.1 rfl rfl (hb hK.2.1 hd) rfl (by rw [if0, ih_ge]; exact decide_eq_true q) ho.1 ho.2 S
theorem gN_if_ge (hK : Cx K Z own bs mx rt nm) {o : Int} {x : Int32} (hd : decode bs pc = .ok (.ifCond .ge o, 3)) (q : x.toInt < 0) (G : Go K R n0 B Q h cells slots (pc + 3) Ls rest) : Go K R n0 B Q h cells slots pc Ls (.int x :: rest) :=
  G.step fun T A t S => XS.ifNo A hK.1 rfl (hb hK.2.1 hd) rfl (by rw [if0, ih_ge]; exact decide_eq_false (Int.not_le.mpr q)) S
theorem g_if_ge (hK : Cx K Z own bs mx rt nm) {o : Int} {x : Int32} (hd : decode bs pc = .ok (.ifCond .ge o, 3)) (ho : 0 ≤ (pc : Int) + o ∧ ((pc : Int) + o).toNat = pc') (G1 : 0 ≤ x.toInt → Go K R n0 B Q h cells slots pc' Ls rest) (G2 : x.toInt < 0 → Go K R n0 B Q h cells slots (pc + 3) Ls rest) : Go K R n0 B Q h cells slots pc Ls (.int x :: rest) :=
  (Decidable.em (0 ≤ x.toInt)).elim (fun z => gY_if_ge hK hd ho z (G1 z)) (fun z => gN_if_ge hK hd (Int.not_le.mp z) (G2 (Int.not_le.mp z)))
theorem gY_if_gt (hK : Cx K Z own bs mx rt nm) {o : Int} {x : Int32} (hd : decode bs pc = .ok (.ifCond .gt o, 3)) (ho : 0 ≤ (pc : Int) + o ∧ ((pc : Int) + o).toNat = pc') (q : 0 < x.toInt) (G : Go K R n0 B Q h cells slots pc' Ls rest) : Go K R n0 B Q h cells slots pc Ls (.int x :: rest) :=
  G.step fun T A t S => XS.ifYes A hK.1 rfl rfl (hb hK.2.1 hd) rfl (by rw [if0, ih_gt]; exact decide_eq_true q) ho.1 ho.2 S
theorem gN_if_gt (hK : Cx K Z own bs mx rt nm) {o : Int} {x : Int32} (hd : decode bs pc = .ok (.ifCond .gt o, 3)) (q : x.toInt ≤ 0) (G : Go K R n0 B Q h cells slots (pc + 3) Ls rest) : Go K R n0 B Q h cells slots pc Ls (.int x :: rest) :=
  G.step fun T A t S => XS.ifNo A hK.1 rfl (hb hK.2.1 hd) rfl (by rw [if0, ih_gt]; exact decide_eq_false (Int.not_lt.mpr q)) S
theorem g_if_gt (hK : Cx K Z own bs mx rt nm) {o : Int} {x : Int32} (hd : decode bs pc = .ok (.ifCond .gt o, 3)) (ho : 0 ≤ (pc : Int) + o ∧ ((pc : Int) + o).toNat = pc') (G1 : 0 < x.toInt → Go K R n0 B Q h cells slots pc' Ls rest) (G2 : x.toInt ≤ 0 → Go K R n0 B Q h cells slots (pc + 3) Ls rest) : Go K R n0 B Q h cells slots pc Ls (.int x :: rest) :=
  (Decidable.em (0 < x.toInt)).elim (fun z => gY_if_gt hK hd ho z (G1 z)) (fun z => gN_if_gt hK hd (Int.not_lt.mp z) (G2 (Int.not_lt.mp z)))
theorem gY_if_le (hK : Cx K Z own bs mx rt nm) {o : Int} {x : Int32} (hd : decode bs pc = .ok (.ifCond .le o, 3)) (ho : 0 ≤ (pc : Int) + o ∧ ((pc : Int) + o).toNat = pc') (q : x.toInt ≤ 0) (G : Go K R n0 B Q h cells slots pc' Ls rest) : Go K R n0 B Q h cells slots pc Ls (.int x :: rest) :=
  G.step fun T A t S => XS.ifYes A hK.1 rfl rfl (hb hK.2.1 hd) rfl (by rw [if0, ih_le]; exact decide_eq_true q) ho.1 ho.2 S
theorem gN_if_le (hK : Cx K Z own bs mx rt nm) {o : Int} {x : Int32} (hd : decode bs pc = .ok (.ifCond .le o, 3)) (q : 0 < x.toInt) (G : Go K R n0 B Q h cells slots (pc + 3) Ls rest) : Go K R n0 B Q h cells slots pc Ls (.int x :: rest) :=
  G.step fun T A t S => XS.ifNo A hK.1 rfl (hb hK.2.1 hd) rfl (by rw [if0, ih_le]; exact decide_eq_false (Int.not_le.mpr q)) S
theorem g_if_le (hK : Cx K Z own bs mx rt nm) {o : Int} {x : Int32} (hd : decode bs pc = .ok (.ifCond .le o, 3)) (ho : 0 ≤ (pc : Int) + o ∧ ((pc : Int) + o).toNat = pc') (G1 : x.toInt ≤ 0 → Go K R n0 B Q h cells slots pc' Ls rest) (G2 : 0 < x.toInt → Go K R n0 B Q h cells slots (pc + 3) Ls rest) : Go K R n0 B Q h cells slots pc Ls (.int x :: rest) :=
  (Decidable.em (x.toInt ≤ 0)).elim (fun z => gY_if_le hK hd ho z (G1 z)) (fun z => gN_if_le hK hd (Int.not_le.mp z) (G2 (Int.not_le.mp z)))
theorem gY_lif_eq (hK : Cx K Z own bs mx rt nm) {o : Int} {x y : Int64} (hd0 : decode bs pc = .ok (.lcmp, 1)) (hd : decode bs (pc + 1) = .ok (.ifCond .eq o, 3)) (ho : 0 ≤ ((pc + 1 : Nat) : Int) + o ∧ (((pc + 1 : Nat) : Int) + o).toNat = pc') (q : x = y) (G : Go K R n0 B Q h cells slots pc' Ls rest) : Go K R n0 B Q h cells slots pc Ls (.long y :: .long x :: rest) :=
  Go.step (fun T A t S => XS.lcmp A hK.1 rfl (hb hK.2.1 hd0) rfl S) (gY_if_eq (x := lcmpW x y) hK hd ho ((lw_eq x y).mpr q) G)
theorem gN_lif_eq (hK : Cx K Z own bs mx rt nm) {o : Int} {x y : Int64} (hd0 : decode bs pc = .ok (.lcmp, 1)) (hd : decode bs (pc + 1) = .ok (.ifCond .eq o, 3)) (q : x ≠ y) (G : Go K R n0 B Q h cells slots (pc + 4) Ls rest) : Go K R n0 B Q h cells slots pc Ls (.long y :: .long x :: rest) :=
  Go.step (fun T A t S => XS.lcmp A hK.1 rfl (hb hK.2.1 hd0) rfl S) (gN_if_eq (x := lcmpW x y) hK hd (fun z => q ((lw_eq x y).mp z)) G)
theorem g_lif_eq (hK : Cx K Z own bs mx rt nm) {o : Int} {x y : Int64} (hd0 : decode bs pc = .ok (.lcmp, 1)) (hd : decode bs (pc + 1) = .ok (.ifCond .eq o, 3)) (ho : 0 ≤ ((pc + 1 : Nat) : Int) + o ∧ (((pc + 1 : Nat) : Int) + o).toNat = pc') (G1 : x = y → Go K R n0 B Q h cells slots pc' Ls rest) (G2 : x ≠ y → Go K R n0 B Q h cells slots (pc + 4) Ls rest) : Go K R n0 B Q h cells slots pc Ls (.long y :: .long x :: rest) :=
  (Decidable.em (x = y)).elim (fun z => gY_lif_eq hK hd0 hd ho z (G1 z)) (fun z => gN_lif_eq hK hd0 hd (z) (G2 (z)))
theorem gY_lif_ne (hK : Cx K Z own bs mx rt nm) {o : Int} {x y : Int64} (hd0 : decode bs pc = .ok (.lcmp, 1)) (hd : decode bs (pc + 1) = .ok (.ifCond .ne o, 3)) (ho : 0 ≤ ((pc + 1 : Nat) : Int) + o ∧ (((pc + 1 : Nat) : Int) + o).toNat = pc') (q : x ≠ y) (G : Go K R n0 B Q h cells slots pc' Ls rest) : Go K R n0 B Q h cells slots pc Ls (.long y :: .long x :: rest) :=
  Go.step (fun T A t S => XS.lcmp A hK.1 rfl (hb hK.2.1 hd0) rfl S) (gY_if_ne (x := lcmpW x y) hK hd ho (fun z => q ((lw_eq x y).mp z)) G)
theorem gN_lif_ne (hK : Cx K Z own bs mx rt nm) {o : Int} {x y : Int64} (hd0 : decode bs pc = .ok (.lcmp, 1)) (hd : decode bs (pc + 1) = .ok (.ifCond .ne o, 3)) (q : x = y) (G : Go K R n0 B Q h cells slots (pc + 4) Ls rest) : Go K R n0 B Q h cells slots pc Ls (.long y :: .long x :: rest) :=
  Go.step (fun T A t S => XS.lcmp A hK.1 rfl (hb hK.2.1 hd0) rfl S) (gN_if_ne (x := lcmpW x y) hK hd ((lw_eq x y).mpr q) G)
theorem g_lif_ne (hK : Cx K Z own bs mx rt nm) {o : Int} {x y : Int64} (hd0 : decode bs pc = .ok (.lcmp, 1)) (hd : decode bs (pc + 1) = .ok (.ifCond .ne o, 3)) (ho : 0 ≤ ((pc + 1 : Nat) : Int) + o ∧ (((pc + 1 : Nat) : Int) + o).toNat = pc') (G1 : x ≠ y → Go K R n0 B Q h cells slots pc' Ls rest) (G2 : x = y → Go K R n0 B Q h cells slots (pc + 4) Ls rest) : Go K R n0 B Q h cells slots pc Ls (.long y :: .long x :: rest) :=
  (Decidable.em (x ≠ y)).elim (fun z => gY_lif_ne hK hd0 hd ho z (G1 z)) (fun z => gN_lif_ne hK hd0 hd (Decidable.not_not.mp z) (G2 (Decidable.not_not.mp z)))
theorem gY_lif_lt (hK : Cx K Z own bs mx rt nm) {o : Int} {x y : Int64} (hd0 : decode bs pc = .ok (.lcmp, 1)) (hd : decode bs (pc + 1) = .ok (.ifCond .lt o, 3)) (ho : 0 ≤ ((pc + 1 : Nat) : Int) + o ∧ (((pc + 1 : Nat) : Int) + o).toNat = pc') (q : x.toInt < y.toInt) (G : Go K R n0 B Q h cells slots pc' Ls rest) : Go K R n0 B Q h cells slots pc Ls (.long y :: .long x :: rest) :=
  Go.step (fun T A t S => XS.lcmp A hK.1 rfl (hb hK.2.1 hd0) rfl S) (gY_if_lt (x := lcmpW x y) hK hd ho (by have c1 := (c_lcmp x y).1; have c2 := (c_lcmp x y).2.1; have c3 := (c_lcmp x y).2.2; omega) G)
theorem gN_lif_lt (hK : Cx K Z own bs mx rt nm) {o : Int} {x y : Int64} (hd0 : decode bs pc = .ok (.lcmp, 1)) (hd : decode bs (pc + 1) = .ok (.ifCond .lt o, 3)) (q : y.toInt ≤ x.toInt) (G : Go K R n0 B Q h cells slots (pc + 4) Ls rest) : Go K R n0 B Q h cells slots pc Ls (.long y :: .long x :: rest) :=
  Go.step (fun T A t S => XS.lcmp A hK.1 rfl (hb hK.2.1 hd0) rfl S) (gN_if_lt (x := lcmpW x y) hK hd (by have c1 := (c_lcmp x y).1; have c2 := (c_lcmp x y).2.1; have c3 := (c_lcmp x y).2.2; omega) G)
theorem g_lif_lt (hK : Cx K Z own bs mx rt nm) {o : Int} {x y : Int64} (hd0 : decode bs pc = .ok (.lcmp, 1)) (hd : decode bs (pc + 1) = .ok (.ifCond .lt o, 3)) (ho : 0 ≤ ((pc + 1 : Nat) : Int) + o ∧ (((pc + 1 : Nat) : Int) + o).toNat = pc') (G1 : x.toInt < y.toInt → Go K R n0 B Q h cells slots pc' Ls rest) (G2 : y.toInt ≤ x.toInt → Go K R n0 B Q h cells slots (pc + 4) Ls rest) : Go K R n0 B Q h cells slots pc Ls (.long y :: .long x :: rest) :=
  (Decidable.em (x.toInt < y.toInt)).elim (fun z => gY_lif_lt hK hd0 hd ho z (G1 z)) (fun z => gN_lif_lt hK hd0 hd (Int.not_lt.mp z) (G2 (Int.not_lt.mp z)))
theorem gY_lif_ge (hK : Cx K Z own bs mx rt nm) {o : Int} {x y : Int64} (hd0 : decode bs pc = .ok (.lcmp, 1)) (hd : decode bs (pc + 1) = .ok (.ifCond .ge o, 3)) (ho : 0 ≤ ((pc + 1 : Nat) : Int) + o ∧ (((pc + 1 : Nat) : Int) + o).toNat = pc') (q : y.toInt ≤ x.toInt) (G : Go K R n0 B Q h cells slots pc' Ls rest) : Go K R n0 B Q h cells slots pc Ls (.long y :: .long x :: rest) :=
  Go.step (fun T A t S => XS.lcmp A hK.1 rfl (hb hK.2.1 hd0) rfl S) (gY_if_ge (x := lcmpW x y) hK hd ho (by have c1 := (c_lcmp x y).1; have c2 := (c_lcmp x y).2.1; have c3 := (c_lcmp x y).2.2; omega) G)
theorem gN_lif_ge (hK : Cx K Z own bs mx rt nm) {o : Int} {x y : Int64} (hd0 : decode bs pc = .ok (.lcmp, 1)) (hd : decode bs (pc + 1) = .ok (.ifCond .ge o, 3)) (q : x.toInt < y.toInt) (G : Go K R n0 B Q h cells slots (pc + 4) Ls rest) : Go K R n0 B Q h cells slots pc Ls (.long y :: .long x :: rest) :=
  Go.step (fun T A t S => XS.lcmp A hK.1 rfl (hb hK.2.1 hd0) rfl S) (gN_if_ge (x := lcmpW x y) hK hd (by have c1 := (c_lcmp x y).1; have c2 := (c_lcmp x y).2.1; have c3 := (c_lcmp x y).2.2; omega) G)
theorem g_lif_ge (hK : Cx K Z own bs mx rt nm) {o : Int} {x y : Int64} (hd0 : decode bs pc = .ok (.lcmp, 1)) (hd : decode bs (pc + 1) = .ok (.ifCond .ge o, 3)) (ho : 0 ≤ ((pc + 1 : Nat) : Int) + o ∧ (((pc + 1 : Nat) : Int) + o).toNat = pc') (G1 : y.toInt ≤ x.toInt → Go K R n0 B Q h cells slots pc' Ls rest) (G2 : x.toInt < y.toInt → Go K R n0 B Q h cells slots (pc + 4) Ls rest) : Go K R n0 B Q h cells slots pc Ls (.long y :: .long x :: rest) :=
  (Decidable.em (y.toInt ≤ x.toInt)).elim (fun z => gY_lif_ge hK hd0 hd ho z (G1 z)) (fun z => gN_lif_ge hK hd0 hd (Int.not_le.mp z) (G2 (Int.not_le.mp z)))
theorem gY_lif_gt (hK : Cx K Z own bs mx rt nm) {o : Int} {x y : Int64} (hd0 : decode bs pc = .ok (.lcmp, 1)) (hd : decode bs (pc + 1) = .ok (.ifCond .gt o, 3)) (ho : 0 ≤ ((pc + 1 : Nat) : Int) + o ∧ (((pc + 1 : Nat) : Int) + o).toNat = pc') (q : y.toInt < x.toInt) (G : Go K R n0 B Q h cells slots pc' Ls rest) : Go K R n0 B Q h cells slots pc Ls (.long y :: .long x :: rest) :=
  Go.step (fun T A t S => XS.lcmp A hK.1 rfl (hb hK.2.1 hd0) rfl S) (gY_if_gt (x := lcmpW x y) hK hd ho (by have c1 := (c_lcmp x y).1; have c2 := (c_lcmp x y).2.1; have c3 := (c_lcmp x y).2.2; omega) G)
theorem gN_lif_gt (hK : Cx K Z own bs mx rt nm) {o : Int} {x y : Int64} (hd0 : decode bs pc = .ok (.lcmp, 1)) (hd : decode bs (pc + 1) = .ok (.ifCond .gt o, 3)) (q : x.toInt ≤ y.toInt) (G : Go K R n0 B Q h cells slots (pc + 4) Ls rest) : Go K R n0 B Q h cells slots pc Ls (.long y :: .long x :: rest) :=
  Go.step (fun T A t S => XS.lcmp A hK.1 rfl (hb hK.2.1 hd0) rfl S) (gN_if_gt (x := lcmpW x y) hK hd (by have c1 := (c_lcmp x y).1; have c2 := (c_lcmp x y).2.1; have c3 := (c_lcmp x y).2.2; omega) G)
theorem g_lif_gt (hK : Cx K Z own bs mx rt nm) {o : Int} {x y : Int64} (hd0 : decode bs pc = .ok (.lcmp, 1)) (hd : decode bs (pc + 1) = .ok (.ifCond .gt o, 3)) (ho : 0 ≤ ((pc + 1 : Nat) : Int) + o ∧ (((pc + 1 : Nat) : Int) + o).toNat = pc') (G1 : y.toInt < x.toInt → Go K R n0 B Q h cells slots pc' Ls rest) (G2 : x.toInt ≤ y.toInt → Go K R n0 B Q h cells slots (pc + 4) Ls rest) : Go K R n0 B Q h cells slots pc Ls (.long y :: .long x :: rest) :=
  (Decidable.em (y.toInt < x.toInt)).elim (fun z => gY_lif_gt hK hd0 hd ho z (G1 z)) (fun z => gN_lif_gt hK hd0 hd (Int.not_lt.mp z) (G2 (Int.not_lt.mp z)))
theorem gY_lif_le (hK : Cx K Z own bs mx rt nm) {o : Int} {x y : Int64} (hd0 : decode bs pc = .ok (.lcmp, 1)) (hd : decode bs (pc + 1) = .ok (.ifCond .le o, 3)) (ho : 0 ≤ ((pc + 1 : Nat) : Int) + o ∧ (((pc + 1 : Nat) : Int) + o).toNat = pc') (q : x.toInt ≤ y.toInt) (G : Go K R n0 B Q h cells slots pc' Ls rest) : Go K R n0 B Q h cells slots pc Ls (.long y :: .long x :: rest) :=
  Go.step (fun T A t S => XS.lcmp A hK.1 rfl (hb hK.2.1 hd0) rfl S) (gY_if_le (x := lcmpW x y) hK hd ho (by have c1 := (c_lcmp x y).1; have c2 := (c_lcmp x y).2.1; have c3 := (c_lcmp x y).2.2; omega) G)
theorem gN_lif_le (hK : Cx K Z own bs mx rt nm) {o : Int} {x y : Int64} (hd0 : decode bs pc = .ok (.lcmp, 1)) (hd : decode bs (pc + 1) = .ok (.ifCond .le o, 3)) (q : y.toInt < x.toInt) (G : Go K R n0 B Q h cells slots (pc + 4) Ls rest) : Go K R n0 B Q h cells slots pc Ls (.long y :: .long x :: rest) :=
  Go.step (fun T A t S => XS.lcmp A hK.1 rfl (hb hK.2.1 hd0) rfl S) (gN_if_le (x := lcmpW x y) hK hd (by have c1 := (c_lcmp x y).1; have c2 := (c_lcmp x y).2.1; have c3 := (c_lcmp x y).2.2; omega) G)
theorem g_lif_le (hK : Cx K Z own bs mx rt nm) {o : Int} {x y : Int64} (hd0 : decode bs pc = .ok (.lcmp, 1)) (hd : decode bs (pc + 1) = .ok (.ifCond .le o, 3)) (ho : 0 ≤ ((pc + 1 : Nat) : Int) + o ∧ (((pc + 1 : Nat) : Int) + o).toNat = pc') (G1 : x.toInt ≤ y.toInt → Go K R n0 B Q h cells slots pc' Ls rest) (G2 : y.toInt < x.toInt → Go K R n0 B Q h cells slots (pc + 4) Ls rest) : Go K R n0 B Q h cells slots pc Ls (.long y :: .long x :: rest) :=
  (Decidable.em (x.toInt ≤ y.toInt)).elim (fun z => gY_lif_le hK hd0 hd ho z (G1 z)) (fun z => gN_lif_le hK hd0 hd (Int.not_le.mp z) (G2 (Int.not_le.mp z)))
/-! the constants of the pool -/
theorem g_ldc (hK : Cx K Z own bs mx rt nm) {i : Nat} {v : Int32} (w : (Jvm.Cond.constant own i v).before a0 Z = true) (hd : decode bs pc = .ok (.ldc i, 2)) (G : Go K R n0 B Q h cells slots (pc + 2) Ls (.int v :: st)) : Go K R n0 B Q h cells slots pc Ls st :=
  G.stepX fun T locs X e t S => X.ldcInt hK.1 hK.2.2.2.1 (mvT hK.2.2.2.2.2.2.2 w) (g := mkF (kM K) pc ⟨Ls⟩ st) rfl (hb hK.2.1 hd) t S
theorem g_ldc_w (hK : Cx K Z own bs mx rt nm) {i : Nat} {v : Int32} (w : (Jvm.Cond.constant own i v).before a0 Z = true) (hd : decode bs pc = .ok (.ldc_w i, 3)) (G : Go K R n0 B Q h cells slots (pc + 3) Ls (.int v :: st)) : Go K R n0 B Q h cells slots pc Ls st :=
  G.stepX fun T locs X e t S => X.ldcwInt hK.1 hK.2.2.2.1 (mvT hK.2.2.2.2.2.2.2 w) (g := mkF (kM K) pc ⟨Ls⟩ st) rfl (hb hK.2.1 hd) t S
theorem g_ldc2 (hK : Cx K Z own bs mx rt nm) {i : Nat} {v : Int64} (w : (Jvm.Cond.constantLong own i v).before a0 Z = true) (hd : decode bs pc = .ok (.ldc2_w i, 3)) (G : Go K R n0 B Q h cells slots (pc + 3) Ls (.long v :: st)) : Go K R n0 B Q h cells slots pc Ls st :=
  G.stepX fun T locs X e t S => X.ldc2Long hK.1 hK.2.2.2.1 (mvT hK.2.2.2.2.2.2.2 w) (g := mkF (kM K) pc ⟨Ls⟩ st) rfl (hb hK.2.1 hd) t S
/-! fields, objects, arrays -/
theorem g_get (hK : Cx K Z own bs mx rt nm) {C n d : String} {i : Nat} {a : Addr} {v : Value} (w : (Jvm.Cond.fieldLink own i C n d).before a0 Z = true) (hd : decode bs pc = .ok (.getfield i, 3)) (F : Fld Z h a C n d v) (G : Go K R n0 B Q h cells slots (pc + 3) Ls (v :: st)) : Go K R n0 B Q h cells slots pc Ls (.ref a :: st) := by
  intro T locs X N eT
  obtain ⟨T', X', e', S⟩ := getF X hK.1 hK.2.2.2.2.2.2.2 hK.2.2.2.1 (host := "") (Or.inl w) Via.refl eT F (g := mkF (kM K) pc ⟨Ls⟩ (.ref a :: st)) rfl rfl (hb hK.2.1 hd)
  obtain ⟨s₂, v, L, h1, r⟩ := G T' locs X' N e'
  exact ⟨s₂, v, L, S _ h1, r⟩
theorem g_put (hK : Cx K Z own bs mx rt nm) {C n d : String} {i kk : Nat} {ty : FieldType} {a : Addr} {v old : Value} (w : (Jvm.Cond.fieldLink own i C n d).before a0 Z = true) (wl : (Jvm.Cond.lays C C n d).before a0 Z = true ∨ ((Jvm.Cond.laysFinal C C n d).before a0 Z = true ∧ own = C ∧ nm = "<init>")) (wi : (Jvm.Cond.instantiable C kk).before a0 Z = true) (hd : decode bs pc = .ok (.putfield i, 3))
    (F : Fld Z h a C n d old) (E : Exa Z h a C) (hn : n0 ≤ a) (hty : parseFieldDescriptor d = some ty) (h1 : narrow ty v = v) (h2 : fits ty v = true) (G : ∀ h', Wr h h' a (Jvm.RoadKit.slotOf Z C n d) v → Go K R n0 B Q h' cells slots (pc + 3) Ls rest) : Go K R n0 B Q h cells slots pc Ls (v :: .ref a :: rest) := by
  intro T locs X N eT
  obtain ⟨T', h', X', e', W, S⟩ := putF X hK.1 hK.2.2.2.2.2.2.2 hK.2.2.2.1 (host := "") (Or.inl w) Via.refl eT F E (wl.imp id fun q => ⟨q.1, q.2.1, hK.2.2.2.2.1.trans q.2.2⟩) wi hty h1 h2 (g := mkF (kM K) pc ⟨Ls⟩ (v :: .ref a :: rest)) rfl rfl (hb hK.2.1 hd)
  obtain ⟨s₂, v, L, h1, r⟩ := G h' W T' _ X' (Fr.snoc X' N hn) e'
  exact ⟨s₂, v, L, S _ h1, r⟩
theorem g_new (hK : Cx K Z own bs mx rt nm) {C : String} {i n : Nat} (w : (Jvm.Cond.classLink own i C).before a0 Z = true) (wi : (Jvm.Cond.instantiable C n).before a0 Z = true) (wz : (Jvm.Cond.initialized C).before a0 Z = true) (hd : decode bs pc = .ok (.new i, 3)) (hr : (Nat.ble (cells + 1) R.cells && Nat.ble (slots + n) R.slots) = true)
    (G : ∀ h' a, a = h.size → Ext h h' → Exa Z h' a C → (∀ {O nm d : String} {ty : FieldType}, Laid Z a0 C O nm d → parseFieldDescriptor d = some ty → Fld Z h' a O nm d (defaultValue ty)) → Go K R n0 B Q h' (cells + 1) (slots + n) (pc + 3) Ls (.ref a :: st)) : Go K R n0 B Q h cells slots pc Ls st := by
  intro T locs X N eT
  simp only [Bool.and_eq_true] at hr
  obtain ⟨T', h', X', e', E, A, D, -, S⟩ := newO X hK.1 hK.2.2.2.2.2.2.2 hK.2.2.2.1 w wi wz eT (g := mkF (kM K) pc ⟨Ls⟩ st) rfl (hb hK.2.1 hd) (Nat.le_of_ble_eq_true hr.1) (Nat.le_of_ble_eq_true hr.2)
  obtain ⟨s₂, v, L, h1, r⟩ := G h' h.size rfl E A D T' _ X' N e'
  exact ⟨s₂, v, L, S _ h1, r⟩
theorem g_newarray (hK : Cx K Z own bs mx rt nm) {aty : ArrayType} {n : Int32} (cap : Nat) (w : (Jvm.Cond.arrayClass (newarray.typeOf aty)).before a0 Z = true) (hd : decode bs pc = .ok (.newarray aty, 2)) (hn : ¬ n < 0) (hcap : n.toNatClampNeg ≤ cap) (hr : (Nat.ble (cap * 8) 536870912 && Nat.ble (cells + 1) R.cells && Nat.ble (slots + cap) R.slots) = true)
    (G : ∀ h' a cA, a = h.size → Ext h h' → Arr Z h' a (newA cA (newarray.typeOf aty) n) (newarray.typeOf aty) → Go K R n0 B Q h' (cells + 1) (slots + cap) (pc + 2) Ls (.ref a :: rest)) : Go K R n0 B Q h cells slots pc Ls (.int n :: rest) := by
  intro T locs X N eT
  simp only [Bool.and_eq_true] at hr
  obtain ⟨T', h', cA, X', e', E, A, S⟩ := newP X hK.1 hK.2.2.2.2.2.2.2 w eT (g := mkF (kM K) pc ⟨Ls⟩ (.int n :: rest)) rfl (hb hK.2.1 hd) rfl hn hcap (Nat.le_of_ble_eq_true hr.1.1) (Nat.le_of_ble_eq_true hr.1.2) (Nat.le_of_ble_eq_true hr.2)
  obtain ⟨s₂, v, L, h1, r⟩ := G h' h.size cA rfl E A T' _ X' N e'
  exact ⟨s₂, v, L, S _ h1, r⟩
theorem g_arraylength (hK : Cx K Z own bs mx rt nm) {a : Addr} {cl : Cell} {ty : FieldType} {z : Int32} (A : Arr Z h a cl ty) (hz : cl.slots.size.toInt32 = z) (hd : decode bs pc = .ok (.arraylength, 1)) (G : Go K R n0 B Q h cells slots (pc + 1) Ls (.int z :: rest)) : Go K R n0 B Q h cells slots pc Ls (.ref a :: rest) :=
  G.stepX fun T locs X e t S => X.arraylength hK.1 (by rw [e]; exact A.1) (State.isArrayOf_alike hK.2.2.2.2.2.2.2.alike A.2.1) (g := mkF (kM K) pc ⟨Ls⟩ (.ref a :: rest)) rfl rfl (hb hK.2.1 hd) t (by subst hz; exact S)
theorem g_iaload (hK : Cx K Z own bs mx rt nm) {a : Addr} {cl : Cell} {j v : Int32} (A : Arr Z h a cl .int) (hj : ¬ (j < 0 ∨ cl.slots.size ≤ j.toNatClampNeg)) (hv : cl.slots[j.toNatClampNeg]? = some (.int v)) (hd : decode bs pc = .ok (.iaload, 1)) (G : Go K R n0 B Q h cells slots (pc + 1) Ls (.int v :: rest)) : Go K R n0 B Q h cells slots pc Ls (.int j :: .ref a :: rest) :=
  G.stepX fun T locs X e t S => X.iaload hK.1 (by rw [e]; exact A.1) (State.isArrayOf_alike hK.2.2.2.2.2.2.2.alike A.2.1) A.2.2 hj hv (g := mkF (kM K) pc ⟨Ls⟩ (.int j :: .ref a :: rest)) rfl rfl (hb hK.2.1 hd) t S
theorem g_laload (hK : Cx K Z own bs mx rt nm) {a : Addr} {cl : Cell} {j : Int32} {v : Int64} (A : Arr Z h a cl .long) (hj : ¬ (j < 0 ∨ cl.slots.size ≤ j.toNatClampNeg)) (hv : cl.slots[j.toNatClampNeg]? = some (.long v)) (hd : decode bs pc = .ok (.laload, 1)) (G : Go K R n0 B Q h cells slots (pc + 1) Ls (.long v :: rest)) : Go K R n0 B Q h cells slots pc Ls (.int j :: .ref a :: rest) :=
  G.stepX fun T locs X e t S => X.laload hK.1 (by rw [e]; exact A.1) (State.isArrayOf_alike hK.2.2.2.2.2.2.2.alike A.2.1) A.2.2 hj hv (g := mkF (kM K) pc ⟨Ls⟩ (.int j :: .ref a :: rest)) rfl rfl (hb hK.2.1 hd) t S
theorem g_iastore (hK : Cx K Z own bs mx rt nm) {a : Addr} {cl : Cell} {j x : Int32} (A : Arr Z h a cl .int) (hj : ¬ (j < 0 ∨ cl.slots.size ≤ j.toNatClampNeg)) (hn : n0 ≤ a) (hd : decode bs pc = .ok (.iastore, 1)) (G : ∀ h', Wr h h' a j.toNatClampNeg (.int x) → Go K R n0 B Q h' cells slots (pc + 1) Ls rest) : Go K R n0 B Q h cells slots pc Ls (.int x :: .int j :: .ref a :: rest) := by
  intro T locs X N eT
  obtain ⟨T', h', X', e', W, S⟩ := stI X hK.1 hK.2.2.2.2.2.2.2 eT A hj (g := mkF (kM K) pc ⟨Ls⟩ (.int x :: .int j :: .ref a :: rest)) rfl rfl (hb hK.2.1 hd)
  obtain ⟨s₂, v, L, h1, r⟩ := G h' W T' _ X' (Fr.snoc X' N hn) e'
  exact ⟨s₂, v, L, S _ h1, r⟩
theorem g_lastore (hK : Cx K Z own bs mx rt nm) {a : Addr} {cl : Cell} {j : Int32} {x : Int64} (A : Arr Z h a cl .long) (hj : ¬ (j < 0 ∨ cl.slots.size ≤ j.toNatClampNeg)) (hn : n0 ≤ a) (hd : decode bs pc = .ok (.lastore, 1)) (G : ∀ h', Wr h h' a j.toNatClampNeg (.long x) → Go K R n0 B Q h' cells slots (pc + 1) Ls rest) : Go K R n0 B Q h cells slots pc Ls (.long x :: .int j :: .ref a :: rest) := by
  intro T locs X N eT
  obtain ⟨T', h', X', e', W, S⟩ := stJ X hK.1 hK.2.2.2.2.2.2.2 eT A hj (g := mkF (kM K) pc ⟨Ls⟩ (.long x :: .int j :: .ref a :: rest)) rfl rfl (hb hK.2.1 hd)
  obtain ⟨s₂, v, L, h1, r⟩ := G h' W T' _ X' (Fr.snoc X' N hn) e'
  exact ⟨s₂, v, L, S _ h1, r⟩
/-! Object.<init> -/
theorem g_objinit (hK : Cx K Z own bs mx rt nm) {i : Nat} {a : Addr} (W : Nat) (w1 : (Jvm.Cond.methodLink own i Lib.objectInit).before a0 Z = true) (w2 : (Jvm.Cond.instanceMethod Lib.objectInit).before a0 Z = true) (w3 : (Jvm.Cond.code Lib.objectInit ⟨#[0xb1]⟩ 1 none).before a0 Z = true) (hd : decode bs pc = .ok (.invokespecial i, 3)) (hsz : Ls.length = mx)
    (hr : (Nat.ble 1 R.frames && Nat.ble (rest.map fun v => v.category).sum W && Nat.ble (W + 12) R.locals) = true) (G : Go K R n0 B Q h cells slots (pc + 3) Ls rest) : Go K R n0 B Q h cells slots pc Ls (.ref a :: rest) := by
  intro T locs X N eT
  simp only [Bool.and_eq_true] at hr
  obtain ⟨T', X', e', S⟩ := initO X hK.1 hK.2.2.2.2.2.2.2 hK.2.2.2.1 w1 w2 w3 eT (g := mkF (kM K) pc ⟨Ls⟩ (.ref a :: rest)) rfl (by rw [hK.2.2.1]; exact hsz) rfl (hb hK.2.1 hd) (Nat.le_of_ble_eq_true hr.1.1) (W := W) (by show 2 * 0 + _ ≤ _; rw [Nat.mul_zero, Nat.zero_add]; exact Nat.le_of_ble_eq_true hr.1.2) (Nat.le_of_ble_eq_true hr.2)
  obtain ⟨s₂, v, L, h1, r⟩ := G T' locs X' N e'
  exact ⟨s₂, v, L, S _ h1, r⟩
/-! the returns -/
theorem g_ret {w : Value} {t : FieldType} {ins : Instr} (hK : Cx K Z own bs mx (some t) nm) (hn : narrow t w = w) (hi : (ins = .ireturn ∧ (t = .int ∨ t = .boolean ∨ t = .byte ∨ t = .char ∨ t = .short) ∧ ∃ z, w = .int z) ∨ (ins = .lreturn ∧ t = .long ∧ ∃ z, w = .long z) ∨ (ins = .dreturn ∧ t = .double ∧ ∃ z, w = .double z) ∨ (ins = .freturn ∧ t = .float ∧ ∃ z, w = .float z) ∨ (ins = .areturn ∧ t.isReference = true ∧ w.isRef = true))
    (hd : decode bs pc = .ok (ins, 1)) (hr : (Nat.ble cells R.cells && Nat.ble slots R.slots) = true) (q : Q (some w) h) : Go K R n0 (nB (kS K) R) Q h cells slots pc Ls (w :: rest) := by
  intro T locs X N eT
  simp only [Bool.and_eq_true] at hr
  have hlk := hK.2.2.2.2.2.2.1
  obtain ⟨fs, hl, hrun, hended, hW, hsame⟩ := X.leave (v := some w) (fun e => by rw [hK.2.2.2.2.2.1] at e; cases e) hlk
  refine ⟨_, some w, locs, retOut X hK.1 hK.2.2.2.2.2.1 hn hi (hb hK.2.1 hd) hl, hrun, hended, ?_, N, hW, hsame.mono (Nat.le_of_ble_eq_true hr.1) (Nat.le_of_ble_eq_true hr.2)⟩
  show Q (some w) T.heap
  rw [eT]; exact q
theorem g_ireturn {z : Int32} {P : Int32 → Heap → Prop} (hK : Cx K Z own bs mx (some .int) nm) (hd : decode bs pc = .ok (.ireturn, 1)) (hr : (Nat.ble cells R.cells && Nat.ble slots R.slots) = true) (q : P z h) : Go K R n0 (nB (kS K) R) (qI P) h cells slots pc Ls (.int z :: rest) :=
  g_ret hK rfl (Or.inl ⟨rfl, Or.inl rfl, z, rfl⟩) hd hr ⟨z, rfl, q⟩
theorem g_zreturn {z : Int32} {P : Int32 → Heap → Prop} (hK : Cx K Z own bs mx (some .boolean) nm) (hd : decode bs pc = .ok (.ireturn, 1)) (hn : narrow .boolean (.int z) = .int z) (hr : (Nat.ble cells R.cells && Nat.ble slots R.slots) = true) (q : P z h) : Go K R n0 (nB (kS K) R) (qI P) h cells slots pc Ls (.int z :: rest) :=
  g_ret hK hn (Or.inl ⟨rfl, Or.inr (Or.inl rfl), z, rfl⟩) hd hr ⟨z, rfl, q⟩
theorem g_lreturn {z : Int64} {P : Int64 → Heap → Prop} (hK : Cx K Z own bs mx (some .long) nm) (hd : decode bs pc = .ok (.lreturn, 1)) (hr : (Nat.ble cells R.cells && Nat.ble slots R.slots) = true) (q : P z h) : Go K R n0 (nB (kS K) R) (qJ P) h cells slots pc Ls (.long z :: rest) :=
  g_ret hK rfl (Or.inr (Or.inl ⟨rfl, rfl, z, rfl⟩)) hd hr ⟨z, rfl, q⟩
theorem g_areturn {z : Addr} {t : FieldType} {P : Addr → Heap → Prop} (hK : Cx K Z own bs mx (some t) nm) (ht : t.isReference = true) (hn : narrow t (.ref z) = .ref z) (hd : decode bs pc = .ok (.areturn, 1)) (hr : (Nat.ble cells R.cells && Nat.ble slots R.slots) = true) (q : P z h) : Go K R n0 (nB (kS K) R) (qA P) h cells slots pc Ls (.ref z :: rest) :=
  g_ret hK hn (Or.inr (Or.inr (Or.inr (Or.inr ⟨rfl, ht, rfl⟩)))) hd hr ⟨z, rfl, q⟩
theorem g_return {P : Heap → Prop} (hK : Cx K Z own bs mx none nm) (hd : decode bs pc = .ok (.return_, 1)) (hr : (Nat.ble cells R.cells && Nat.ble slots R.slots) = true) (q : P h) : Go K R n0 (nB (kS K) R) (qV P) h cells slots pc Ls [] := by
  intro T locs X N eT
  simp only [Bool.and_eq_true] at hr
  have hlk := hK.2.2.2.2.2.2.1
  obtain ⟨fs, hl, hrun, hended, hW, hsame⟩ := X.leave (v := none) (fun _ => rfl) hlk
  refine ⟨_, none, locs, X.returnOut hK.1 hK.2.2.2.2.2.1 (hb hK.2.1 hd) hl, hrun, hended, ⟨rfl, ?_⟩, N, hW, hsame.mono (Nat.le_of_ble_eq_true hr.1) (Nat.le_of_ble_eq_true hr.2)⟩
  show P T.heap
  rw [eT]; exact q
/-! stores -/
def isOne : Slot → Bool
  | .unset => true
  | .val w => w.category == 1
  | .second => false
theorem isOne_one {o : Slot} (q : isOne o = true) : o = .unset ∨ ∃ w, o = .val w ∧ w.category = 1 := by
  cases o with
  | unset => exact Or.inl rfl
  | second => cases q
  | val w => exact Or.inr ⟨w, rfl, by simpa [isOne] using q⟩
theorem stL1 {pre post : List Slot} {o : Slot} {v : Value} (ho : isOne o = true) (hv : v.category = 1) : storeLocals ⟨pre ++ o :: post⟩ pre.length v = some ⟨pre ++ .val v :: post⟩ := by
  rw [XS.store1 (o := o) (by simp) (isOne_one ho) hv]; simp
theorem g_istoreG (hK : Cx K Z own bs mx rt nm) {pre post : List Slot} {o : Slot} {x : Int32} {k : Nat} (hk : pre.length = k) (hd : decode bs pc = .ok (.istore k, 2)) (ho : isOne o = true) (G : Go K R n0 B Q h cells slots (pc + 2) (pre ++ .val (.int x) :: post) rest) : Go K R n0 B Q h cells slots pc (pre ++ o :: post) (.int x :: rest) :=
  G.step fun T A t S => XS.istore A hK.1 rfl (hb hK.2.1 hd) rfl (by subst hk; exact stL1 ho rfl) S
theorem g_istoreNG (hK : Cx K Z own bs mx rt nm) {pre post : List Slot} {o : Slot} {x : Int32} {k : Fin 4} (hk : pre.length = k.val) (hd : decode bs pc = .ok (.istore_n k, 1)) (ho : isOne o = true) (G : Go K R n0 B Q h cells slots (pc + 1) (pre ++ .val (.int x) :: post) rest) : Go K R n0 B Q h cells slots pc (pre ++ o :: post) (.int x :: rest) :=
  G.step fun T A t S => XS.istoreN A hK.1 rfl (hb hK.2.1 hd) rfl (by rw [← hk]; exact stL1 ho rfl) S
theorem g_astoreG (hK : Cx K Z own bs mx rt nm) {pre post : List Slot} {o : Slot} {x : Addr} {k : Nat} (hk : pre.length = k) (hd : decode bs pc = .ok (.astore k, 2)) (ho : isOne o = true) (G : Go K R n0 B Q h cells slots (pc + 2) (pre ++ .val (.ref x) :: post) rest) : Go K R n0 B Q h cells slots pc (pre ++ o :: post) (.ref x :: rest) :=
  G.step fun T A t S => XS.astore A hK.1 rfl (hb hK.2.1 hd) rfl rfl (by subst hk; exact stL1 ho rfl) S
theorem g_astoreNG (hK : Cx K Z own bs mx rt nm) {pre post : List Slot} {o : Slot} {x : Addr} {k : Fin 4} (hk : pre.length = k.val) (hd : decode bs pc = .ok (.astore_n k, 1)) (ho : isOne o = true) (G : Go K R n0 B Q h cells slots (pc + 1) (pre ++ .val (.ref x) :: post) rest) : Go K R n0 B Q h cells slots pc (pre ++ o :: post) (.ref x :: rest) :=
  G.step fun T A t S => XS.astoreN A hK.1 rfl (hb hK.2.1 hd) rfl rfl (by rw [← hk]; exact stL1 ho rfl) S
theorem g_iincG (hK : Cx K Z own bs mx rt nm) {pre post : List Slot} {x : Int32} {k : Nat} {cst : Int} (hk : pre.length = k) (hd : decode bs pc = .ok (.iinc k cst, 3)) (G : Go K R n0 B Q h cells slots (pc + 3) (pre ++ .val (.int (x + Int32.ofInt cst)) :: post) st) : Go K R n0 B Q h cells slots pc (pre ++ .val (.int x) :: post) st :=
  G.step fun T A t S => XS.iinc A hK.1 rfl (hb hK.2.1 hd) (x := x) (by subst hk; simp) (by subst hk; exact stL1 rfl rfl) S
def isTwo : Slot → Slot → Bool
  | .unset, .unset => true
  | .val (.long _), .second => true
  | _, _ => false
theorem stL2 {pre post : List Slot} {o q : Slot} {x : Int64} (ho : isTwo o q = true) : storeLocals ⟨pre ++ o :: q :: post⟩ pre.length (.long x) = some ⟨pre ++ .val (.long x) :: .second :: post⟩ := by
  have e1 : ∀ (a b : Slot), (⟨pre ++ a :: b :: post⟩ : Array Slot)[pre.length]? = some a := fun a b => by simp
  have e2 : ∀ (a b : Slot), (⟨pre ++ a :: b :: post⟩ : Array Slot)[pre.length + 1]? = some b := fun a b => by
    simp [List.getElem?_append_right]
  have s1 : ∀ (a b c : Slot), setAt ⟨pre ++ a :: b :: post⟩ pre.length c = some ⟨pre ++ c :: b :: post⟩ := fun a b c => by
    simp [setAt]
  have s2 : ∀ (a b c : Slot), setAt ⟨pre ++ a :: b :: post⟩ (pre.length + 1) c = some ⟨pre ++ a :: c :: post⟩ := fun a b c => by
    simp [setAt, List.set_append_right]
  have key : ∀ (a b : Slot), (∀ w, b = .val w → w.category ≠ 2) → storeSelf ⟨pre ++ a :: b :: post⟩ pre.length (.long x) = some ⟨pre ++ .val (.long x) :: .second :: post⟩ := fun a b hb' => by
    have c2 : (Value.long x).category = 2 := rfl
    simp only [storeSelf, s1, Option.bind_eq_bind, Option.bind_some, c2, if_true, e2, s2]
    cases b with
    | unset => rfl
    | second => rfl
    | val w => simp only [if_neg (hb' w rfl)]
  rw [storeLocals, e1]
  cases o with
  | unset =>
    cases q with
    | unset => exact key _ _ (fun w e => by cases e)
    | second => cases ho
    | val w => cases ho
  | second => cases ho
  | val w =>
    cases w <;> first | (cases ho; done) | skip
    cases q <;> first | (cases ho; done) | skip
    simp only [Option.bind_eq_bind, Option.bind_some, Value.category, if_true, s2]
    exact key _ _ (fun w e => by cases e)
theorem g_lstoreG (hK : Cx K Z own bs mx rt nm) {pre post : List Slot} {o q : Slot} {x : Int64} {k : Nat} (hk : pre.length = k) (hd : decode bs pc = .ok (.lstore k, 2)) (ho : isTwo o q = true) (G : Go K R n0 B Q h cells slots (pc + 2) (pre ++ .val (.long x) :: .second :: post) rest) : Go K R n0 B Q h cells slots pc (pre ++ o :: q :: post) (.long x :: rest) :=
  G.step fun T A t S => XS.lstore A hK.1 rfl (hb hK.2.1 hd) rfl (by subst hk; exact stL2 ho) S
theorem g_lstoreNG (hK : Cx K Z own bs mx rt nm) {pre post : List Slot} {o q : Slot} {x : Int64} {k : Fin 4} (hk : pre.length = k.val) (hd : decode bs pc = .ok (.lstore_n k, 1)) (ho : isTwo o q = true) (G : Go K R n0 B Q h cells slots (pc + 1) (pre ++ .val (.long x) :: .second :: post) rest) : Go K R n0 B Q h cells slots pc (pre ++ o :: q :: post) (.long x :: rest) :=
  G.step fun T A t S => XS.lstoreN A hK.1 rfl (hb hK.2.1 hd) rfl (by rw [← hk]; exact stL2 ho) S
/-! the calls -/
theorem g_static (hK : Cx K Z own bs mx rt nm) {y : MethodName} {bs' : ByteArray} {mx' i : Nat} {rt' : Option FieldType} {rm : Room} {argsL : List Value} {Q' : Option Value → Heap → Prop} {ps : List FieldType} {r : Option FieldType} (W : Nat) (C : Con (kL K) y bs' mx' rt' [] rm Z n0 argsL.toArray h Q')
    (w1 : (Jvm.Cond.methodLink own i y).before a0 Z = true) (w2 : (Jvm.Cond.static y).before a0 Z = true) (w3 : (Jvm.Cond.initialized y.cls).before a0 Z = true) (w4 : (Jvm.Cond.code y bs' mx' rt').before a0 Z = true) (hy : y.cls ≠ "java/lang/invoke/MethodHandle" ∧ y.cls ≠ "java/lang/invoke/VarHandle")
    (pd : parseMethodDescriptor y.desc = some ⟨ps, r⟩) (hlen : argsL.length = ps.length) (hd : decode bs pc = .ok (.invokestatic i, 3)) (hsz : Ls.length = mx)
    (hr : (Nat.ble (rm.frames + 1) R.frames && Nat.ble (W + (mx' + 11) + rm.locals) R.locals && Nat.ble (rest.map fun v => v.category).sum W && Nat.ble (cells + rm.cells) R.cells && Nat.ble (slots + rm.slots) R.slots) = true)
    (G : ∀ v h', Q' v h' → h.size ≤ h'.size → Go K R n0 B Q h' (cells + rm.cells) (slots + rm.slots) (pc + 3) Ls (v.toList ++ rest)) : Go K R n0 B Q h cells slots pc Ls (argsL.reverse ++ rest) := by
  intro T locs X N eT
  simp only [Bool.and_eq_true] at hr
  obtain ⟨v, _, ⟨T', L', k', n'⟩, -, X', ⟨Lc, ⟨hQ, hF, hgr⟩, e1, e2, e3⟩, S⟩ := Jvm.LawKit.callS X hK.1 (y := y) hK.2.2.2.1 (mvT hK.2.2.2.2.2.2.2 w1) (mvT hK.2.2.2.2.2.2.2 w2) (mvT hK.2.2.2.2.2.2.2 w3) (mvT hK.2.2.2.2.2.2.2 w4) hy
    (backOf (W := W) (Q := fun v h' L => Q' v h' ∧ Fr n0 L ∧ h.size ≤ h'.size) C hK.2.2.2.2.2.2.2 w4 w3 (Nat.le_of_ble_eq_true hr.1.1.1.1) (Nat.le_of_ble_eq_true hr.1.1.1.2)) (g := mkF (kM K) pc ⟨Ls⟩ (argsL.reverse ++ rest)) rfl (by rw [hK.2.2.1]; exact hsz) (argsL := argsL) (rest := rest) (lenOf pd hlen) rfl (by show 2 * 0 + _ ≤ _; rw [Nat.mul_zero, Nat.zero_add]; exact Nat.le_of_ble_eq_true hr.1.1.2) (hb hK.2.1 hd)
    (fun _ _ => ⟨rfl, eT, Nat.le_of_ble_eq_true hr.1.2, Nat.le_of_ble_eq_true hr.2⟩)
  dsimp only [Pt.U, Pt.locs, Pt.cells, Pt.slots] at X' e1 e2 e3 S hQ hgr
  subst e1 e2 e3
  obtain ⟨s₂, v', L, h1, rr⟩ := G v T'.heap hQ hgr T' _ X' (Fr.app N hF) rfl
  exact ⟨s₂, v', L, S _ h1, rr⟩
theorem g_special (hK : Cx K Z own bs mx rt nm) {y : MethodName} {bs' : ByteArray} {mx' i : Nat} {rm : Room} {a : Addr} {argsL : List Value} {Q' : Option Value → Heap → Prop} {ps : List FieldType} {r : Option FieldType} (W : Nat) (C : Con (kL K) y bs' mx' none [] rm Z n0 (.ref a :: argsL).toArray h Q') (hy1 : y.name = "<init>")
    (w1 : (Jvm.Cond.methodLink own i y).before a0 Z = true) (w2 : (Jvm.Cond.instanceMethod y).before a0 Z = true) (w3 : (Jvm.Cond.initialized y.cls).before a0 Z = true) (w4 : (Jvm.Cond.code y bs' mx' none).before a0 Z = true) (hy : y.cls ≠ "java/lang/invoke/MethodHandle" ∧ y.cls ≠ "java/lang/invoke/VarHandle")
    (pd : parseMethodDescriptor y.desc = some ⟨ps, r⟩) (hlen : argsL.length = ps.length) (hd : decode bs pc = .ok (.invokespecial i, 3)) (hsz : Ls.length = mx)
    (hr : (Nat.ble (rm.frames + 1) R.frames && Nat.ble (W + (mx' + 11) + rm.locals) R.locals && Nat.ble (rest.map fun v => v.category).sum W && Nat.ble (cells + rm.cells) R.cells && Nat.ble (slots + rm.slots) R.slots) = true)
    (G : ∀ v h', Q' v h' → h.size ≤ h'.size → Go K R n0 B Q h' (cells + rm.cells) (slots + rm.slots) (pc + 3) Ls (v.toList ++ rest)) : Go K R n0 B Q h cells slots pc Ls (argsL.reverse ++ .ref a :: rest) := by
  intro T locs X N eT
  simp only [Bool.and_eq_true] at hr
  obtain ⟨v, _, ⟨T', L', k', n'⟩, -, X', ⟨Lc, ⟨hQ, hF, hgr⟩, e1, e2, e3⟩, S⟩ := X.specialBack hK.1 (y := y) hy1 hK.2.2.2.1 (mvT hK.2.2.2.2.2.2.2 w1) (mvT hK.2.2.2.2.2.2.2 w2) (mvT hK.2.2.2.2.2.2.2 w4) hy
    (backOf (W := W) (Q := fun v h' L => Q' v h' ∧ Fr n0 L ∧ h.size ≤ h'.size) C hK.2.2.2.2.2.2.2 w4 w3 (Nat.le_of_ble_eq_true hr.1.1.1.1) (Nat.le_of_ble_eq_true hr.1.1.1.2)) (g := mkF (kM K) pc ⟨Ls⟩ (argsL.reverse ++ .ref a :: rest)) rfl (by rw [hK.2.2.1]; exact hsz) (Steps.refl _) (a := a) (argsL := argsL) (rest := rest) (lenOf pd hlen) rfl (by show 2 * 0 + _ ≤ _; rw [Nat.mul_zero, Nat.zero_add]; exact Nat.le_of_ble_eq_true hr.1.1.2) (hb hK.2.1 hd)
    (fun _ _ => ⟨rfl, eT, Nat.le_of_ble_eq_true hr.1.2, Nat.le_of_ble_eq_true hr.2⟩)
  dsimp only [Pt.U, Pt.locs, Pt.cells, Pt.slots] at X' e1 e2 e3 S hQ hgr
  subst e1 e2 e3
  obtain ⟨s₂, v', L, h1, rr⟩ := G v T'.heap hQ hgr T' _ X' (Fr.app N hF) rfl
  exact ⟨s₂, v', L, S.trans h1, rr⟩
theorem g_virtual (hK : Cx K Z own bs mx rt nm) {y : MethodName} {bs' : ByteArray} {mx' i : Nat} {rt' : Option FieldType} {rm : Room} {a : Addr} {argsL : List Value} {Q' : Option Value → Heap → Prop} {ps : List FieldType} {r : Option FieldType} (W : Nat) (C : Con (kL K) y bs' mx' rt' [] rm Z n0 (.ref a :: argsL).toArray h Q') (E : Exa Z h a y.cls)
    (w1 : (Jvm.Cond.methodLink own i y).before a0 Z = true) (w2 : (Jvm.Cond.declares y).before a0 Z = true) (w3 : (Jvm.Cond.selects y.cls y y).before a0 Z = true) (w4 : (Jvm.Cond.instanceMethod y).before a0 Z = true) (w5 : (Jvm.Cond.initialized y.cls).before a0 Z = true) (w6 : (Jvm.Cond.code y bs' mx' rt').before a0 Z = true) (hy : y.cls ≠ "java/lang/invoke/MethodHandle" ∧ y.cls ≠ "java/lang/invoke/VarHandle")
    (pd : parseMethodDescriptor y.desc = some ⟨ps, r⟩) (hlen : argsL.length = ps.length) (hd : decode bs pc = .ok (.invokevirtual i, 3)) (hsz : Ls.length = mx)
    (hr : (Nat.ble (rm.frames + 1) R.frames && Nat.ble (W + (mx' + 11) + rm.locals) R.locals && Nat.ble (rest.map fun v => v.category).sum W && Nat.ble (cells + rm.cells) R.cells && Nat.ble (slots + rm.slots) R.slots) = true)
    (G : ∀ v h', Q' v h' → h.size ≤ h'.size → Go K R n0 B Q h' (cells + rm.cells) (slots + rm.slots) (pc + 3) Ls (v.toList ++ rest)) : Go K R n0 B Q h cells slots pc Ls (argsL.reverse ++ .ref a :: rest) := by
  intro T locs X N eT
  simp only [Bool.and_eq_true] at hr
  obtain ⟨cq, kq, q1, q2, q3⟩ := isOf hK.2.2.2.2.2.2.2 eT E
  obtain ⟨v, _, ⟨T', L', k', n'⟩, -, X', ⟨Lc, ⟨hQ, hF, hgr⟩, e1, e2, e3⟩, S⟩ := X.virtualBack hK.1 (y := y) (z := y) hK.2.2.2.1 (mvT hK.2.2.2.2.2.2.2 w1) (mvT hK.2.2.2.2.2.2.2 w2) (notFace_of_selects (args := #[]) (mvT hK.2.2.2.2.2.2.2 w3)) (mvT hK.2.2.2.2.2.2.2 w3) (mvT hK.2.2.2.2.2.2.2 w4) hy
    (backOf (W := W) (Q := fun v h' L => Q' v h' ∧ Fr n0 L ∧ h.size ≤ h'.size) C hK.2.2.2.2.2.2.2 w6 w5 (Nat.le_of_ble_eq_true hr.1.1.1.1) (Nat.le_of_ble_eq_true hr.1.1.1.2)) q1 q3 (g := mkF (kM K) pc ⟨Ls⟩ (argsL.reverse ++ .ref a :: rest)) rfl (by rw [hK.2.2.1]; exact hsz) (Steps.refl _) (argsL := argsL) (rest := rest) (lenOf pd hlen) rfl (by show 2 * 0 + _ ≤ _; rw [Nat.mul_zero, Nat.zero_add]; exact Nat.le_of_ble_eq_true hr.1.1.2) (hb hK.2.1 hd)
    (fun _ _ => ⟨rfl, eT, Nat.le_of_ble_eq_true hr.1.2, Nat.le_of_ble_eq_true hr.2⟩)
  dsimp only [Pt.U, Pt.locs, Pt.cells, Pt.slots] at X' e1 e2 e3 S hQ hgr
  subst e1 e2 e3
  obtain ⟨s₂, v', L, h1, rr⟩ := G v T'.heap hQ hgr T' _ X' (Fr.app N hF) rfl
  exact ⟨s₂, v', L, S.trans h1, rr⟩
end
section
variable {K : Ctx} {R : Room} {n0 : Nat} {B : State → List Loc → Prop} {Q : Option Value → Heap → Prop} {h : Heap} {cells slots pc : Nat} {st rest post : List Slot} {rs : List Value} {Z : State} {own : String} {bs : ByteArray} {mx : Nat} {rt : Option FieldType} {nm : String}
theorem g_astore_14 (hK : Cx K Z own bs mx rt nm) {s0 s1 s2 s3 s4 s5 s6 s7 s8 s9 s10 s11 s12 s13 : Slot} {o : Slot} {x : Addr} (hd : decode bs pc = .ok (.astore 14, 2)) (ho : isOne o = true) (G : Go K R n0 B Q h cells slots (pc + 2) (s0 :: s1 :: s2 :: s3 :: s4 :: s5 :: s6 :: s7 :: s8 :: s9 :: s10 :: s11 :: s12 :: s13 :: .val (.ref x) :: post) rs) : Go K R n0 B Q h cells slots pc (s0 :: s1 :: s2 :: s3 :: s4 :: s5 :: s6 :: s7 :: s8 :: s9 :: s10 :: s11 :: s12 :: s13 :: o :: post) (.ref x :: rs) :=
  g_astoreG (pre := [s0, s1, s2, s3, s4, s5, s6, s7, s8, s9, s10, s11, s12, s13]) hK rfl hd ho G
theorem g_iinc_1 (hK : Cx K Z own bs mx rt nm) {s0 : Slot} {x z : Int32} {cst : Int} (hd : decode bs pc = .ok (.iinc 1 cst, 3)) (hz : Int32.ofInt cst = z) (G : Go K R n0 B Q h cells slots (pc + 3) (s0 :: .val (.int (x + z)) :: post) rs) : Go K R n0 B Q h cells slots pc (s0 :: .val (.int x) :: post) rs :=
  g_iincG (pre := [s0]) hK rfl hd (by subst hz; exact G)
theorem g_istore_1 (hK : Cx K Z own bs mx rt nm) {s0 : Slot} {o : Slot} {x : Int32} (hd : decode bs pc = .ok (.istore_n 1, 1)) (ho : isOne o = true) (G : Go K R n0 B Q h cells slots (pc + 1) (s0 :: .val (.int x) :: post) rs) : Go K R n0 B Q h cells slots pc (s0 :: o :: post) (.int x :: rs) :=
  g_istoreNG (pre := [s0]) hK rfl hd ho G
theorem g_istore_2 (hK : Cx K Z own bs mx rt nm) {s0 s1 : Slot} {o : Slot} {x : Int32} (hd : decode bs pc = .ok (.istore_n 2, 1)) (ho : isOne o = true) (G : Go K R n0 B Q h cells slots (pc + 1) (s0 :: s1 :: .val (.int x) :: post) rs) : Go K R n0 B Q h cells slots pc (s0 :: s1 :: o :: post) (.int x :: rs) :=
  g_istoreNG (pre := [s0, s1]) hK rfl hd ho G
theorem g_istore_3 (hK : Cx K Z own bs mx rt nm) {s0 s1 s2 : Slot} {o : Slot} {x : Int32} (hd : decode bs pc = .ok (.istore_n 3, 1)) (ho : isOne o = true) (G : Go K R n0 B Q h cells slots (pc + 1) (s0 :: s1 :: s2 :: .val (.int x) :: post) rs) : Go K R n0 B Q h cells slots pc (s0 :: s1 :: s2 :: o :: post) (.int x :: rs) :=
  g_istoreNG (pre := [s0, s1, s2]) hK rfl hd ho G
theorem g_istore_6 (hK : Cx K Z own bs mx rt nm) {s0 s1 s2 s3 s4 s5 : Slot} {o : Slot} {x : Int32} (hd : decode bs pc = .ok (.istore 6, 2)) (ho : isOne o = true) (G : Go K R n0 B Q h cells slots (pc + 2) (s0 :: s1 :: s2 :: s3 :: s4 :: s5 :: .val (.int x) :: post) rs) : Go K R n0 B Q h cells slots pc (s0 :: s1 :: s2 :: s3 :: s4 :: s5 :: o :: post) (.int x :: rs) :=
  g_istoreG (pre := [s0, s1, s2, s3, s4, s5]) hK rfl hd ho G
theorem g_istore_7 (hK : Cx K Z own bs mx rt nm) {s0 s1 s2 s3 s4 s5 s6 : Slot} {o : Slot} {x : Int32} (hd : decode bs pc = .ok (.istore 7, 2)) (ho : isOne o = true) (G : Go K R n0 B Q h cells slots (pc + 2) (s0 :: s1 :: s2 :: s3 :: s4 :: s5 :: s6 :: .val (.int x) :: post) rs) : Go K R n0 B Q h cells slots pc (s0 :: s1 :: s2 :: s3 :: s4 :: s5 :: s6 :: o :: post) (.int x :: rs) :=
  g_istoreG (pre := [s0, s1, s2, s3, s4, s5, s6]) hK rfl hd ho G
theorem g_istore_8 (hK : Cx K Z own bs mx rt nm) {s0 s1 s2 s3 s4 s5 s6 s7 : Slot} {o : Slot} {x : Int32} (hd : decode bs pc = .ok (.istore 8, 2)) (ho : isOne o = true) (G : Go K R n0 B Q h cells slots (pc + 2) (s0 :: s1 :: s2 :: s3 :: s4 :: s5 :: s6 :: s7 :: .val (.int x) :: post) rs) : Go K R n0 B Q h cells slots pc (s0 :: s1 :: s2 :: s3 :: s4 :: s5 :: s6 :: s7 :: o :: post) (.int x :: rs) :=
  g_istoreG (pre := [s0, s1, s2, s3, s4, s5, s6, s7]) hK rfl hd ho G
theorem g_istore_9 (hK : Cx K Z own bs mx rt nm) {s0 s1 s2 s3 s4 s5 s6 s7 s8 : Slot} {o : Slot} {x : Int32} (hd : decode bs pc = .ok (.istore 9, 2)) (ho : isOne o = true) (G : Go K R n0 B Q h cells slots (pc + 2) (s0 :: s1 :: s2 :: s3 :: s4 :: s5 :: s6 :: s7 :: s8 :: .val (.int x) :: post) rs) : Go K R n0 B Q h cells slots pc (s0 :: s1 :: s2 :: s3 :: s4 :: s5 :: s6 :: s7 :: s8 :: o :: post) (.int x :: rs) :=
  g_istoreG (pre := [s0, s1, s2, s3, s4, s5, s6, s7, s8]) hK rfl hd ho G
theorem g_istore_10 (hK : Cx K Z own bs mx rt nm) {s0 s1 s2 s3 s4 s5 s6 s7 s8 s9 : Slot} {o : Slot} {x : Int32} (hd : decode bs pc = .ok (.istore 10, 2)) (ho : isOne o = true) (G : Go K R n0 B Q h cells slots (pc + 2) (s0 :: s1 :: s2 :: s3 :: s4 :: s5 :: s6 :: s7 :: s8 :: s9 :: .val (.int x) :: post) rs) : Go K R n0 B Q h cells slots pc (s0 :: s1 :: s2 :: s3 :: s4 :: s5 :: s6 :: s7 :: s8 :: s9 :: o :: post) (.int x :: rs) :=
  g_istoreG (pre := [s0, s1, s2, s3, s4, s5, s6, s7, s8, s9]) hK rfl hd ho G
theorem g_istore_11 (hK : Cx K Z own bs mx rt nm) {s0 s1 s2 s3 s4 s5 s6 s7 s8 s9 s10 : Slot} {o : Slot} {x : Int32} (hd : decode bs pc = .ok (.istore 11, 2)) (ho : isOne o = true) (G : Go K R n0 B Q h cells slots (pc + 2) (s0 :: s1 :: s2 :: s3 :: s4 :: s5 :: s6 :: s7 :: s8 :: s9 :: s10 :: .val (.int x) :: post) rs) : Go K R n0 B Q h cells slots pc (s0 :: s1 :: s2 :: s3 :: s4 :: s5 :: s6 :: s7 :: s8 :: s9 :: s10 :: o :: post) (.int x :: rs) :=
  g_istoreG (pre := [s0, s1, s2, s3, s4, s5, s6, s7, s8, s9, s10]) hK rfl hd ho G
theorem g_istore_12 (hK : Cx K Z own bs mx rt nm) {s0 s1 s2 s3 s4 s5 s6 s7 s8 s9 s10 s11 : Slot} {o : Slot} {x : Int32} (hd : decode bs pc = .ok (.istore 12, 2)) (ho : isOne o = true) (G : Go K R n0 B Q h cells slots (pc + 2) (s0 :: s1 :: s2 :: s3 :: s4 :: s5 :: s6 :: s7 :: s8 :: s9 :: s10 :: s11 :: .val (.int x) :: post) rs) : Go K R n0 B Q h cells slots pc (s0 :: s1 :: s2 :: s3 :: s4 :: s5 :: s6 :: s7 :: s8 :: s9 :: s10 :: s11 :: o :: post) (.int x :: rs) :=
  g_istoreG (pre := [s0, s1, s2, s3, s4, s5, s6, s7, s8, s9, s10, s11]) hK rfl hd ho G
theorem g_istore_13 (hK : Cx K Z own bs mx rt nm) {s0 s1 s2 s3 s4 s5 s6 s7 s8 s9 s10 s11 s12 : Slot} {o : Slot} {x : Int32} (hd : decode bs pc = .ok (.istore 13, 2)) (ho : isOne o = true) (G : Go K R n0 B Q h cells slots (pc + 2) (s0 :: s1 :: s2 :: s3 :: s4 :: s5 :: s6 :: s7 :: s8 :: s9 :: s10 :: s11 :: s12 :: .val (.int x) :: post) rs) : Go K R n0 B Q h cells slots pc (s0 :: s1 :: s2 :: s3 :: s4 :: s5 :: s6 :: s7 :: s8 :: s9 :: s10 :: s11 :: s12 :: o :: post) (.int x :: rs) :=
  g_istoreG (pre := [s0, s1, s2, s3, s4, s5, s6, s7, s8, s9, s10, s11, s12]) hK rfl hd ho G
theorem g_istore_15 (hK : Cx K Z own bs mx rt nm) {s0 s1 s2 s3 s4 s5 s6 s7 s8 s9 s10 s11 s12 s13 s14 : Slot} {o : Slot} {x : Int32} (hd : decode bs pc = .ok (.istore 15, 2)) (ho : isOne o = true) (G : Go K R n0 B Q h cells slots (pc + 2) (s0 :: s1 :: s2 :: s3 :: s4 :: s5 :: s6 :: s7 :: s8 :: s9 :: s10 :: s11 :: s12 :: s13 :: s14 :: .val (.int x) :: post) rs) : Go K R n0 B Q h cells slots pc (s0 :: s1 :: s2 :: s3 :: s4 :: s5 :: s6 :: s7 :: s8 :: s9 :: s10 :: s11 :: s12 :: s13 :: s14 :: o :: post) (.int x :: rs) :=
  g_istoreG (pre := [s0, s1, s2, s3, s4, s5, s6, s7, s8, s9, s10, s11, s12, s13, s14]) hK rfl hd ho G
theorem g_istore_16 (hK : Cx K Z own bs mx rt nm) {s0 s1 s2 s3 s4 s5 s6 s7 s8 s9 s10 s11 s12 s13 s14 s15 : Slot} {o : Slot} {x : Int32} (hd : decode bs pc = .ok (.istore 16, 2)) (ho : isOne o = true) (G : Go K R n0 B Q h cells slots (pc + 2) (s0 :: s1 :: s2 :: s3 :: s4 :: s5 :: s6 :: s7 :: s8 :: s9 :: s10 :: s11 :: s12 :: s13 :: s14 :: s15 :: .val (.int x) :: post) rs) : Go K R n0 B Q h cells slots pc (s0 :: s1 :: s2 :: s3 :: s4 :: s5 :: s6 :: s7 :: s8 :: s9 :: s10 :: s11 :: s12 :: s13 :: s14 :: s15 :: o :: post) (.int x :: rs) :=
  g_istoreG (pre := [s0, s1, s2, s3, s4, s5, s6, s7, s8, s9, s10, s11, s12, s13, s14, s15]) hK rfl hd ho G
theorem g_lstore_2 (hK : Cx K Z own bs mx rt nm) {s0 s1 : Slot} {o q : Slot} {x : Int64} (hd : decode bs pc = .ok (.lstore_n 2, 1)) (ho : isTwo o q = true) (G : Go K R n0 B Q h cells slots (pc + 1) (s0 :: s1 :: .val (.long x) :: .second :: post) rs) : Go K R n0 B Q h cells slots pc (s0 :: s1 :: o :: q :: post) (.long x :: rs) :=
  g_lstoreNG (pre := [s0, s1]) hK rfl hd ho G
end
section
variable {K : Ctx} {R : Room} {n0 : Nat} {B : State → List Loc → Prop} {Q : Option Value → Heap → Prop} {h : Heap} {cells slots pc : Nat} {Ls : List Slot} {rest : List Value} {Z : State} {own : String} {bs : ByteArray} {mx : Nat} {rt : Option FieldType} {nm : String} {a0 : Array Value}
theorem g_special_1V (hK : Cx K Z own bs mx rt nm) {y : MethodName} {bs' : ByteArray} {mx' i : Nat} {rm : Room} {a : Addr} {x0 : Value} {P : Heap → Prop} {ps : List FieldType} {r : Option FieldType} (W : Nat) (hd : decode bs pc = .ok (.invokespecial i, 3)) (hy1 : y.name = "<init>") (w1 : (Jvm.Cond.methodLink own i y).before a0 Z = true) (w2 : (Jvm.Cond.instanceMethod y).before a0 Z = true) (w3 : (Jvm.Cond.initialized y.cls).before a0 Z = true) (w4 : (Jvm.Cond.code y bs' mx' none).before a0 Z = true) (hy : y.cls ≠ "java/lang/invoke/MethodHandle" ∧ y.cls ≠ "java/lang/invoke/VarHandle")
    (C : Con (kL K) y bs' mx' none [] rm Z n0 #[.ref a, x0] h (qV P)) (pd : parseMethodDescriptor y.desc = some ⟨ps, r⟩) (hlen : 1 = ps.length) (hsz : Ls.length = mx)
    (hr : (Nat.ble (rm.frames + 1) R.frames && Nat.ble (W + (mx' + 11) + rm.locals) R.locals && Nat.ble (rest.map fun v => v.category).sum W && Nat.ble (cells + rm.cells) R.cells && Nat.ble (slots + rm.slots) R.slots) = true)
    (G : ∀ h', P h' → h.size ≤ h'.size → Go K R n0 B Q h' (cells + rm.cells) (slots + rm.slots) (pc + 3) Ls rest) : Go K R n0 B Q h cells slots pc Ls (x0 :: .ref a :: rest) :=
  g_special (argsL := [x0]) hK W C hy1 w1 w2 w3 w4 hy pd hlen hd hsz hr (fun v h' q gr => by obtain ⟨rfl, p⟩ := q; exact G h' p gr)
theorem g_static_1I (hK : Cx K Z own bs mx rt nm) {y : MethodName} {bs' : ByteArray} {mx' i : Nat} {rt' : Option FieldType} {rm : Room} {x0 : Value} {P : Int32 → Heap → Prop} {ps : List FieldType} {r : Option FieldType} (W : Nat) (hd : decode bs pc = .ok (.invokestatic i, 3)) (w1 : (Jvm.Cond.methodLink own i y).before a0 Z = true) (w2 : (Jvm.Cond.static y).before a0 Z = true) (w3 : (Jvm.Cond.initialized y.cls).before a0 Z = true) (w4 : (Jvm.Cond.code y bs' mx' rt').before a0 Z = true) (hy : y.cls ≠ "java/lang/invoke/MethodHandle" ∧ y.cls ≠ "java/lang/invoke/VarHandle")
    (C : Con (kL K) y bs' mx' rt' [] rm Z n0 #[x0] h (qI P)) (pd : parseMethodDescriptor y.desc = some ⟨ps, r⟩) (hlen : 1 = ps.length) (hsz : Ls.length = mx)
    (hr : (Nat.ble (rm.frames + 1) R.frames && Nat.ble (W + (mx' + 11) + rm.locals) R.locals && Nat.ble (rest.map fun v => v.category).sum W && Nat.ble (cells + rm.cells) R.cells && Nat.ble (slots + rm.slots) R.slots) = true)
    (G : ∀ z h', P z h' → h.size ≤ h'.size → Go K R n0 B Q h' (cells + rm.cells) (slots + rm.slots) (pc + 3) Ls (.int z :: rest)) : Go K R n0 B Q h cells slots pc Ls (x0 :: rest) :=
  g_static (argsL := [x0]) hK W C w1 w2 w3 w4 hy pd hlen hd hsz hr (fun v h' q gr => by obtain ⟨z, rfl, p⟩ := q; exact G z h' p gr)
theorem g_static_3J (hK : Cx K Z own bs mx rt nm) {y : MethodName} {bs' : ByteArray} {mx' i : Nat} {rt' : Option FieldType} {rm : Room} {x0 x1 x2 : Value} {P : Int64 → Heap → Prop} {ps : List FieldType} {r : Option FieldType} (W : Nat) (hd : decode bs pc = .ok (.invokestatic i, 3)) (w1 : (Jvm.Cond.methodLink own i y).before a0 Z = true) (w2 : (Jvm.Cond.static y).before a0 Z = true) (w3 : (Jvm.Cond.initialized y.cls).before a0 Z = true) (w4 : (Jvm.Cond.code y bs' mx' rt').before a0 Z = true) (hy : y.cls ≠ "java/lang/invoke/MethodHandle" ∧ y.cls ≠ "java/lang/invoke/VarHandle")
    (C : Con (kL K) y bs' mx' rt' [] rm Z n0 #[x0, x1, x2] h (qJ P)) (pd : parseMethodDescriptor y.desc = some ⟨ps, r⟩) (hlen : 3 = ps.length) (hsz : Ls.length = mx)
    (hr : (Nat.ble (rm.frames + 1) R.frames && Nat.ble (W + (mx' + 11) + rm.locals) R.locals && Nat.ble (rest.map fun v => v.category).sum W && Nat.ble (cells + rm.cells) R.cells && Nat.ble (slots + rm.slots) R.slots) = true)
    (G : ∀ z h', P z h' → h.size ≤ h'.size → Go K R n0 B Q h' (cells + rm.cells) (slots + rm.slots) (pc + 3) Ls (.long z :: rest)) : Go K R n0 B Q h cells slots pc Ls (x2 :: x1 :: x0 :: rest) :=
  g_static (argsL := [x0, x1, x2]) hK W C w1 w2 w3 w4 hy pd hlen hd hsz hr (fun v h' q gr => by obtain ⟨z, rfl, p⟩ := q; exact G z h' p gr)
theorem g_static_4I (hK : Cx K Z own bs mx rt nm) {y : MethodName} {bs' : ByteArray} {mx' i : Nat} {rt' : Option FieldType} {rm : Room} {x0 x1 x2 x3 : Value} {P : Int32 → Heap → Prop} {ps : List FieldType} {r : Option FieldType} (W : Nat) (hd : decode bs pc = .ok (.invokestatic i, 3)) (w1 : (Jvm.Cond.methodLink own i y).before a0 Z = true) (w2 : (Jvm.Cond.static y).before a0 Z = true) (w3 : (Jvm.Cond.initialized y.cls).before a0 Z = true) (w4 : (Jvm.Cond.code y bs' mx' rt').before a0 Z = true) (hy : y.cls ≠ "java/lang/invoke/MethodHandle" ∧ y.cls ≠ "java/lang/invoke/VarHandle")
    (C : Con (kL K) y bs' mx' rt' [] rm Z n0 #[x0, x1, x2, x3] h (qI P)) (pd : parseMethodDescriptor y.desc = some ⟨ps, r⟩) (hlen : 4 = ps.length) (hsz : Ls.length = mx)
    (hr : (Nat.ble (rm.frames + 1) R.frames && Nat.ble (W + (mx' + 11) + rm.locals) R.locals && Nat.ble (rest.map fun v => v.category).sum W && Nat.ble (cells + rm.cells) R.cells && Nat.ble (slots + rm.slots) R.slots) = true)
    (G : ∀ z h', P z h' → h.size ≤ h'.size → Go K R n0 B Q h' (cells + rm.cells) (slots + rm.slots) (pc + 3) Ls (.int z :: rest)) : Go K R n0 B Q h cells slots pc Ls (x3 :: x2 :: x1 :: x0 :: rest) :=
  g_static (argsL := [x0, x1, x2, x3]) hK W C w1 w2 w3 w4 hy pd hlen hd hsz hr (fun v h' q gr => by obtain ⟨z, rfl, p⟩ := q; exact G z h' p gr)
theorem g_virtual_0I (hK : Cx K Z own bs mx rt nm) {y : MethodName} {bs' : ByteArray} {mx' i : Nat} {rt' : Option FieldType} {rm : Room} {a : Addr} {P : Int32 → Heap → Prop} {ps : List FieldType} {r : Option FieldType} (W : Nat) (hd : decode bs pc = .ok (.invokevirtual i, 3)) (w1 : (Jvm.Cond.methodLink own i y).before a0 Z = true) (w2 : (Jvm.Cond.declares y).before a0 Z = true) (w3 : (Jvm.Cond.selects y.cls y y).before a0 Z = true) (w4 : (Jvm.Cond.instanceMethod y).before a0 Z = true) (w5 : (Jvm.Cond.initialized y.cls).before a0 Z = true) (w6 : (Jvm.Cond.code y bs' mx' rt').before a0 Z = true) (hy : y.cls ≠ "java/lang/invoke/MethodHandle" ∧ y.cls ≠ "java/lang/invoke/VarHandle")
    (E : Exa Z h a y.cls) (C : Con (kL K) y bs' mx' rt' [] rm Z n0 #[.ref a] h (qI P)) (pd : parseMethodDescriptor y.desc = some ⟨ps, r⟩) (hlen : 0 = ps.length) (hsz : Ls.length = mx)
    (hr : (Nat.ble (rm.frames + 1) R.frames && Nat.ble (W + (mx' + 11) + rm.locals) R.locals && Nat.ble (rest.map fun v => v.category).sum W && Nat.ble (cells + rm.cells) R.cells && Nat.ble (slots + rm.slots) R.slots) = true)
    (G : ∀ z h', P z h' → h.size ≤ h'.size → Go K R n0 B Q h' (cells + rm.cells) (slots + rm.slots) (pc + 3) Ls (.int z :: rest)) : Go K R n0 B Q h cells slots pc Ls (.ref a :: rest) :=
  g_virtual (argsL := []) hK W C E w1 w2 w3 w4 w5 w6 hy pd hlen hd hsz hr (fun v h' q gr => by obtain ⟨z, rfl, p⟩ := q; exact G z h' p gr)
theorem g_virtual_0V (hK : Cx K Z own bs mx rt nm) {y : MethodName} {bs' : ByteArray} {mx' i : Nat} {rt' : Option FieldType} {rm : Room} {a : Addr} {P : Heap → Prop} {ps : List FieldType} {r : Option FieldType} (W : Nat) (hd : decode bs pc = .ok (.invokevirtual i, 3)) (w1 : (Jvm.Cond.methodLink own i y).before a0 Z = true) (w2 : (Jvm.Cond.declares y).before a0 Z = true) (w3 : (Jvm.Cond.selects y.cls y y).before a0 Z = true) (w4 : (Jvm.Cond.instanceMethod y).before a0 Z = true) (w5 : (Jvm.Cond.initialized y.cls).before a0 Z = true) (w6 : (Jvm.Cond.code y bs' mx' rt').before a0 Z = true) (hy : y.cls ≠ "java/lang/invoke/MethodHandle" ∧ y.cls ≠ "java/lang/invoke/VarHandle")
    (E : Exa Z h a y.cls) (C : Con (kL K) y bs' mx' rt' [] rm Z n0 #[.ref a] h (qV P)) (pd : parseMethodDescriptor y.desc = some ⟨ps, r⟩) (hlen : 0 = ps.length) (hsz : Ls.length = mx)
    (hr : (Nat.ble (rm.frames + 1) R.frames && Nat.ble (W + (mx' + 11) + rm.locals) R.locals && Nat.ble (rest.map fun v => v.category).sum W && Nat.ble (cells + rm.cells) R.cells && Nat.ble (slots + rm.slots) R.slots) = true)
    (G : ∀ h', P h' → h.size ≤ h'.size → Go K R n0 B Q h' (cells + rm.cells) (slots + rm.slots) (pc + 3) Ls rest) : Go K R n0 B Q h cells slots pc Ls (.ref a :: rest) :=
  g_virtual (argsL := []) hK W C E w1 w2 w3 w4 w5 w6 hy pd hlen hd hsz hr (fun v h' q gr => by obtain ⟨rfl, p⟩ := q; exact G h' p gr)
theorem g_virtual_1I (hK : Cx K Z own bs mx rt nm) {y : MethodName} {bs' : ByteArray} {mx' i : Nat} {rt' : Option FieldType} {rm : Room} {a : Addr} {x0 : Value} {P : Int32 → Heap → Prop} {ps : List FieldType} {r : Option FieldType} (W : Nat) (hd : decode bs pc = .ok (.invokevirtual i, 3)) (w1 : (Jvm.Cond.methodLink own i y).before a0 Z = true) (w2 : (Jvm.Cond.declares y).before a0 Z = true) (w3 : (Jvm.Cond.selects y.cls y y).before a0 Z = true) (w4 : (Jvm.Cond.instanceMethod y).before a0 Z = true) (w5 : (Jvm.Cond.initialized y.cls).before a0 Z = true) (w6 : (Jvm.Cond.code y bs' mx' rt').before a0 Z = true) (hy : y.cls ≠ "java/lang/invoke/MethodHandle" ∧ y.cls ≠ "java/lang/invoke/VarHandle")
    (E : Exa Z h a y.cls) (C : Con (kL K) y bs' mx' rt' [] rm Z n0 #[.ref a, x0] h (qI P)) (pd : parseMethodDescriptor y.desc = some ⟨ps, r⟩) (hlen : 1 = ps.length) (hsz : Ls.length = mx)
    (hr : (Nat.ble (rm.frames + 1) R.frames && Nat.ble (W + (mx' + 11) + rm.locals) R.locals && Nat.ble (rest.map fun v => v.category).sum W && Nat.ble (cells + rm.cells) R.cells && Nat.ble (slots + rm.slots) R.slots) = true)
    (G : ∀ z h', P z h' → h.size ≤ h'.size → Go K R n0 B Q h' (cells + rm.cells) (slots + rm.slots) (pc + 3) Ls (.int z :: rest)) : Go K R n0 B Q h cells slots pc Ls (x0 :: .ref a :: rest) :=
  g_virtual (argsL := [x0]) hK W C E w1 w2 w3 w4 w5 w6 hy pd hlen hd hsz hr (fun v h' q gr => by obtain ⟨z, rfl, p⟩ := q; exact G z h' p gr)
theorem g_virtual_1J (hK : Cx K Z own bs mx rt nm) {y : MethodName} {bs' : ByteArray} {mx' i : Nat} {rt' : Option FieldType} {rm : Room} {a : Addr} {x0 : Value} {P : Int64 → Heap → Prop} {ps : List FieldType} {r : Option FieldType} (W : Nat) (hd : decode bs pc = .ok (.invokevirtual i, 3)) (w1 : (Jvm.Cond.methodLink own i y).before a0 Z = true) (w2 : (Jvm.Cond.declares y).before a0 Z = true) (w3 : (Jvm.Cond.selects y.cls y y).before a0 Z = true) (w4 : (Jvm.Cond.instanceMethod y).before a0 Z = true) (w5 : (Jvm.Cond.initialized y.cls).before a0 Z = true) (w6 : (Jvm.Cond.code y bs' mx' rt').before a0 Z = true) (hy : y.cls ≠ "java/lang/invoke/MethodHandle" ∧ y.cls ≠ "java/lang/invoke/VarHandle")
    (E : Exa Z h a y.cls) (C : Con (kL K) y bs' mx' rt' [] rm Z n0 #[.ref a, x0] h (qJ P)) (pd : parseMethodDescriptor y.desc = some ⟨ps, r⟩) (hlen : 1 = ps.length) (hsz : Ls.length = mx)
    (hr : (Nat.ble (rm.frames + 1) R.frames && Nat.ble (W + (mx' + 11) + rm.locals) R.locals && Nat.ble (rest.map fun v => v.category).sum W && Nat.ble (cells + rm.cells) R.cells && Nat.ble (slots + rm.slots) R.slots) = true)
    (G : ∀ z h', P z h' → h.size ≤ h'.size → Go K R n0 B Q h' (cells + rm.cells) (slots + rm.slots) (pc + 3) Ls (.long z :: rest)) : Go K R n0 B Q h cells slots pc Ls (x0 :: .ref a :: rest) :=
  g_virtual (argsL := [x0]) hK W C E w1 w2 w3 w4 w5 w6 hy pd hlen hd hsz hr (fun v h' q gr => by obtain ⟨z, rfl, p⟩ := q; exact G z h' p gr)
theorem g_virtual_1V (hK : Cx K Z own bs mx rt nm) {y : MethodName} {bs' : ByteArray} {mx' i : Nat} {rt' : Option FieldType} {rm : Room} {a : Addr} {x0 : Value} {P : Heap → Prop} {ps : List FieldType} {r : Option FieldType} (W : Nat) (hd : decode bs pc = .ok (.invokevirtual i, 3)) (w1 : (Jvm.Cond.methodLink own i y).before a0 Z = true) (w2 : (Jvm.Cond.declares y).before a0 Z = true) (w3 : (Jvm.Cond.selects y.cls y y).before a0 Z = true) (w4 : (Jvm.Cond.instanceMethod y).before a0 Z = true) (w5 : (Jvm.Cond.initialized y.cls).before a0 Z = true) (w6 : (Jvm.Cond.code y bs' mx' rt').before a0 Z = true) (hy : y.cls ≠ "java/lang/invoke/MethodHandle" ∧ y.cls ≠ "java/lang/invoke/VarHandle")
    (E : Exa Z h a y.cls) (C : Con (kL K) y bs' mx' rt' [] rm Z n0 #[.ref a, x0] h (qV P)) (pd : parseMethodDescriptor y.desc = some ⟨ps, r⟩) (hlen : 1 = ps.length) (hsz : Ls.length = mx)
    (hr : (Nat.ble (rm.frames + 1) R.frames && Nat.ble (W + (mx' + 11) + rm.locals) R.locals && Nat.ble (rest.map fun v => v.category).sum W && Nat.ble (cells + rm.cells) R.cells && Nat.ble (slots + rm.slots) R.slots) = true)
    (G : ∀ h', P h' → h.size ≤ h'.size → Go K R n0 B Q h' (cells + rm.cells) (slots + rm.slots) (pc + 3) Ls rest) : Go K R n0 B Q h cells slots pc Ls (x0 :: .ref a :: rest) :=
  g_virtual (argsL := [x0]) hK W C E w1 w2 w3 w4 w5 w6 hy pd hlen hd hsz hr (fun v h' q gr => by obtain ⟨rfl, p⟩ := q; exact G h' p gr)
end
/-! arrays by a function of the place -/
def AI (Z : State) (h : Heap) (a : Addr) (n : Nat) (w : Nat → Int32) : Prop := ∃ cl : Cell, Arr Z h a cl .int ∧ cl.slots.size = n ∧ ∀ i, i < n → cl.slots[i]? = some (.int (w i))
def AJ (Z : State) (h : Heap) (a : Addr) (n : Nat) (w : Nat → Int64) : Prop := ∃ cl : Cell, Arr Z h a cl .long ∧ cl.slots.size = n ∧ ∀ i, i < n → cl.slots[i]? = some (.long (w i))
def upd {α : Type} (w : Nat → α) (i : Nat) (x : α) : Nat → α := fun k => if k = i then x else w k
theorem upd_at {α : Type} (w : Nat → α) (i : Nat) (x : α) : upd w i x i = x := by simp [upd]
theorem upd_ne {α : Type} (w : Nat → α) (i k : Nat) (x : α) (q : k ≠ i) : upd w i x k = w k := by simp [upd, q]
section
variable {Z : State} {h h' : Heap} {a b : Addr} {n sl : Nat} {v : Value} {ws : List Addr}
theorem AI.ext {w : Nat → Int32} (A : AI Z h a n w) (E : Ext h h') : AI Z h' a n w := by obtain ⟨cl, h1, h2⟩ := A; exact ⟨cl, h1.ext E, h2⟩
theorem AJ.ext {w : Nat → Int64} (A : AJ Z h a n w) (E : Ext h h') : AJ Z h' a n w := by obtain ⟨cl, h1, h2⟩ := A; exact ⟨cl, h1.ext E, h2⟩
theorem AI.lt {w : Nat → Int32} (A : AI Z h a n w) : a < h.size := by obtain ⟨cl, h1, h2⟩ := A; exact h1.lt
theorem AJ.lt {w : Nat → Int64} (A : AJ Z h a n w) : a < h.size := by obtain ⟨cl, h1, h2⟩ := A; exact h1.lt
theorem AI.other {w : Nat → Int32} (A : AI Z h a n w) (W : Wr h h' b sl v) (q : a ≠ b) : AI Z h' a n w := by obtain ⟨cl, h1, h2⟩ := A; exact ⟨cl, h1.other W q, h2⟩
theorem AJ.other {w : Nat → Int64} (A : AJ Z h a n w) (W : Wr h h' b sl v) (q : a ≠ b) : AJ Z h' a n w := by obtain ⟨cl, h1, h2⟩ := A; exact ⟨cl, h1.other W q, h2⟩
theorem AI.keep {w : Nat → Int32} (A : AI Z h a n w) (K : Keep h h' ws) (q : a ∉ ws) : AI Z h' a n w := by obtain ⟨cl, h1, h2⟩ := A; exact ⟨cl, ⟨K.2.1 _ _ h1.1 q, h1.2⟩, h2⟩
theorem AJ.keep {w : Nat → Int64} (A : AJ Z h a n w) (K : Keep h h' ws) (q : a ∉ ws) : AJ Z h' a n w := by obtain ⟨cl, h1, h2⟩ := A; exact ⟨cl, ⟨K.2.1 _ _ h1.1 q, h1.2⟩, h2⟩
theorem AI.congr {w w' : Nat → Int32} (A : AI Z h a n w) (q : ∀ i, i < n → w i = w' i) : AI Z h a n w' := by obtain ⟨cl, h1, h2, h3⟩ := A; exact ⟨cl, h1, h2, fun i hi => by rw [← q i hi]; exact h3 i hi⟩
theorem AJ.congr {w w' : Nat → Int64} (A : AJ Z h a n w) (q : ∀ i, i < n → w i = w' i) : AJ Z h a n w' := by obtain ⟨cl, h1, h2, h3⟩ := A; exact ⟨cl, h1, h2, fun i hi => by rw [← q i hi]; exact h3 i hi⟩
theorem cell_set {c : Cell} {j i : Nat} {x : Value} : (c.setSlot j x).slots[i]? = if j = i then (if j < c.slots.size then some x else none) else c.slots[i]? := by
  show (c.slots.setIfInBounds j x)[i]? = _
  rw [Array.getElem?_setIfInBounds]
theorem AI.set {w : Nat → Int32} (A : AI Z h a n w) {j : Nat} {x : Int32} (W : Wr h h' a j (.int x)) : AI Z h' a n (upd w j x) := by
  obtain ⟨cl, h1, h2, h3⟩ := A
  refine ⟨_, h1.same W, by rw [sz_set]; exact h2, fun i hi => ?_⟩
  rw [cell_set]
  by_cases q : j = i
  · subst q; rw [if_pos rfl, if_pos (by omega), upd_at]
  · rw [if_neg q, upd_ne _ _ _ _ (Ne.symm q)]; exact h3 i hi
theorem AJ.set {w : Nat → Int64} (A : AJ Z h a n w) {j : Nat} {x : Int64} (W : Wr h h' a j (.long x)) : AJ Z h' a n (upd w j x) := by
  obtain ⟨cl, h1, h2, h3⟩ := A
  refine ⟨_, h1.same W, by rw [sz_set]; exact h2, fun i hi => ?_⟩
  rw [cell_set]
  by_cases q : j = i
  · subst q; rw [if_pos rfl, if_pos (by omega), upd_at]
  · rw [if_neg q, upd_ne _ _ _ _ (Ne.symm q)]; exact h3 i hi
theorem AI.new {z : Int32} {k : ClassId} (A : Arr Z h a (newA k .int z) .int) (q : 0 ≤ z.toInt) : AI Z h a z.toInt.toNat (fun _ => 0) := by
  obtain ⟨cl, h1, -, h3, h4, h5, -⟩ := Arv.new A (fun e => by rw [Int32.lt_iff_toInt_lt] at e; exact absurd e (Int.not_lt.mpr q))
  exact ⟨cl, h1, h3, fun i hi => h5 i (by rw [h3]; exact hi)⟩
theorem AJ.new {z : Int32} {k : ClassId} (A : Arr Z h a (newA k .long z) .long) (q : 0 ≤ z.toInt) : AJ Z h a z.toInt.toNat (fun _ => 0) := by
  obtain ⟨cl, h1, -, h3, h4, h5, -⟩ := Arv.new A (fun e => by rw [Int32.lt_iff_toInt_lt] at e; exact absurd e (Int.not_lt.mpr q))
  exact ⟨cl, h1, h3, fun i hi => h5 i (by rw [h3]; exact hi)⟩
theorem own_idx {c : Cell} {j : Int32} (S : c.slots.size = n) (hj : 0 ≤ j.toInt ∧ j.toInt < n) : ¬ (j < 0 ∨ c.slots.size ≤ j.toNatClampNeg) := by
  have e0 : (0 : Int32).toInt = 0 := rfl
  simp only [Int32.lt_iff_toInt_lt, Int32.toNatClampNeg, S, e0]; omega
end
section
variable {K : Ctx} {R : Room} {n0 : Nat} {B : State → List Loc → Prop} {Q : Option Value → Heap → Prop} {h : Heap} {cells slots pc : Nat} {Ls : List Slot} {st rest : List Value} {Z : State} {own : String} {bs : ByteArray} {mx : Nat} {rt : Option FieldType} {nm : String} {a0 : Array Value} {a : Addr} {n : Nat}
theorem gA_iaload (hK : Cx K Z own bs mx rt nm) {w : Nat → Int32} {j v : Int32} (A : AI Z h a n w) (hj : 0 ≤ j.toInt ∧ j.toInt < n) (hv : w j.toInt.toNat = v) (hd : decode bs pc = .ok (.iaload, 1)) (G : Go K R n0 B Q h cells slots (pc + 1) Ls (.int v :: rest)) : Go K R n0 B Q h cells slots pc Ls (.int j :: .ref a :: rest) := by
  obtain ⟨cl, h1, h2, h3⟩ := A
  exact g_iaload hK h1 (own_idx h2 hj) (by subst hv; exact h3 j.toInt.toNat (by omega)) hd G
theorem gA_laload (hK : Cx K Z own bs mx rt nm) {w : Nat → Int64} {j : Int32} {v : Int64} (A : AJ Z h a n w) (hj : 0 ≤ j.toInt ∧ j.toInt < n) (hv : w j.toInt.toNat = v) (hd : decode bs pc = .ok (.laload, 1)) (G : Go K R n0 B Q h cells slots (pc + 1) Ls (.long v :: rest)) : Go K R n0 B Q h cells slots pc Ls (.int j :: .ref a :: rest) := by
  obtain ⟨cl, h1, h2, h3⟩ := A
  exact g_laload hK h1 (own_idx h2 hj) (by subst hv; exact h3 j.toInt.toNat (by omega)) hd G
theorem gA_iastore (hK : Cx K Z own bs mx rt nm) {w : Nat → Int32} {j x : Int32} (A : AI Z h a n w) (hj : 0 ≤ j.toInt ∧ j.toInt < n) (hn : n0 ≤ a) (hd : decode bs pc = .ok (.iastore, 1)) (G : ∀ h', Wr h h' a j.toInt.toNat (.int x) → AI Z h' a n (upd w j.toInt.toNat x) → Go K R n0 B Q h' cells slots (pc + 1) Ls rest) : Go K R n0 B Q h cells slots pc Ls (.int x :: .int j :: .ref a :: rest) := by
  obtain ⟨cl, h1, h2, h3⟩ := A
  exact g_iastore hK h1 (own_idx h2 hj) hn hd fun h' W => G h' W (AI.set ⟨cl, h1, h2, h3⟩ W)
theorem gA_lastore (hK : Cx K Z own bs mx rt nm) {w : Nat → Int64} {j : Int32} {x : Int64} (A : AJ Z h a n w) (hj : 0 ≤ j.toInt ∧ j.toInt < n) (hn : n0 ≤ a) (hd : decode bs pc = .ok (.lastore, 1)) (G : ∀ h', Wr h h' a j.toInt.toNat (.long x) → AJ Z h' a n (upd w j.toInt.toNat x) → Go K R n0 B Q h' cells slots (pc + 1) Ls rest) : Go K R n0 B Q h cells slots pc Ls (.long x :: .int j :: .ref a :: rest) := by
  obtain ⟨cl, h1, h2, h3⟩ := A
  exact g_lastore hK h1 (own_idx h2 hj) hn hd fun h' W => G h' W (AJ.set ⟨cl, h1, h2, h3⟩ W)
theorem gA_lenI (hK : Cx K Z own bs mx rt nm) {w : Nat → Int32} {z : Int32} (A : AI Z h a n w) (hz : Nat.toInt32 n = z) (hd : decode bs pc = .ok (.arraylength, 1)) (G : Go K R n0 B Q h cells slots (pc + 1) Ls (.int z :: rest)) : Go K R n0 B Q h cells slots pc Ls (.ref a :: rest) := by
  obtain ⟨cl, h1, h2, h3⟩ := A
  exact g_arraylength hK h1 (by rw [h2]; exact hz) hd G
theorem gA_lenJ (hK : Cx K Z own bs mx rt nm) {w : Nat → Int64} {z : Int32} (A : AJ Z h a n w) (hz : Nat.toInt32 n = z) (hd : decode bs pc = .ok (.arraylength, 1)) (G : Go K R n0 B Q h cells slots (pc + 1) Ls (.int z :: rest)) : Go K R n0 B Q h cells slots pc Ls (.ref a :: rest) := by
  obtain ⟨cl, h1, h2, h3⟩ := A
  exact g_arraylength hK h1 (by rw [h2]; exact hz) hd G
theorem gA_newI (hK : Cx K Z own bs mx rt nm) {z : Int32} (cap : Nat) (w : (Jvm.Cond.arrayClass .int).before a0 Z = true) (hd : decode bs pc = .ok (.newarray .int, 2)) (hn : 0 ≤ z.toInt) (hcap : z.toInt ≤ cap) (hr : (Nat.ble (cap * 8) 536870912 && Nat.ble (cells + 1) R.cells && Nat.ble (slots + cap) R.slots) = true)
    (G : ∀ h' a, a = h.size → Ext h h' → AI Z h' a z.toInt.toNat (fun _ => 0) → Go K R n0 B Q h' (cells + 1) (slots + cap) (pc + 2) Ls (.ref a :: rest)) : Go K R n0 B Q h cells slots pc Ls (.int z :: rest) :=
  g_newarray (aty := .int) hK cap w hd (fun e => by rw [Int32.lt_iff_toInt_lt] at e; exact absurd e (Int.not_lt.mpr hn)) (by simp only [Int32.toNatClampNeg]; omega) hr fun h' a cA e X A => G h' a e X (AI.new A hn)
theorem gA_newJ (hK : Cx K Z own bs mx rt nm) {z : Int32} (cap : Nat) (w : (Jvm.Cond.arrayClass .long).before a0 Z = true) (hd : decode bs pc = .ok (.newarray .long, 2)) (hn : 0 ≤ z.toInt) (hcap : z.toInt ≤ cap) (hr : (Nat.ble (cap * 8) 536870912 && Nat.ble (cells + 1) R.cells && Nat.ble (slots + cap) R.slots) = true)
    (G : ∀ h' a, a = h.size → Ext h h' → AJ Z h' a z.toInt.toNat (fun _ => 0) → Go K R n0 B Q h' (cells + 1) (slots + cap) (pc + 2) Ls (.ref a :: rest)) : Go K R n0 B Q h cells slots pc Ls (.int z :: rest) :=
  g_newarray (aty := .long) hK cap w hd (fun e => by rw [Int32.lt_iff_toInt_lt] at e; exact absurd e (Int.not_lt.mpr hn)) (by simp only [Int32.toNatClampNeg]; omega) hr fun h' a cA e X A => G h' a e X (AJ.new A hn)
end

theorem d1_0 : decode prog_28_method_1_code 0 = .ok (.aload_n 0, 1) := by decide +kernel
theorem d1_1 : decode prog_28_method_1_code 1 = .ok (.invokespecial 5, 3) := by decide +kernel
theorem d1_4 : decode prog_28_method_1_code 4 = .ok (.lload_n 1, 1) := by decide +kernel
theorem d1_5 : decode prog_28_method_1_code 5 = .ok (.ldc2_w 13, 3) := by decide +kernel
theorem d1_8 : decode prog_28_method_1_code 8 = .ok (.lcmp, 1) := by decide +kernel
theorem d1_9 : decode prog_28_method_1_code 9 = .ok (.ifCond .le 13, 3) := by decide +kernel
theorem d1_22 : decode prog_28_method_1_code 22 = .ok (.aload_n 0, 1) := by decide +kernel
theorem d1_23 : decode prog_28_method_1_code 23 = .ok (.lload_n 1, 1) := by decide +kernel
theorem d1_24 : decode prog_28_method_1_code 24 = .ok (.l2i, 1) := by decide +kernel
theorem d1_25 : decode prog_28_method_1_code 25 = .ok (.putfield 22, 3) := by decide +kernel
theorem d1_28 : decode prog_28_method_1_code 28 = .ok (.aload_n 0, 1) := by decide +kernel
theorem d1_29 : decode prog_28_method_1_code 29 = .ok (.aload_n 0, 1) := by decide +kernel
theorem d1_30 : decode prog_28_method_1_code 30 = .ok (.getfield 22, 3) := by decide +kernel
theorem d1_33 : decode prog_28_method_1_code 33 = .ok (.invokestatic 26, 3) := by decide +kernel
theorem d1_36 : decode prog_28_method_1_code 36 = .ok (.newarray .long, 2) := by decide +kernel
theorem d1_38 : decode prog_28_method_1_code 38 = .ok (.putfield 30, 3) := by decide +kernel
theorem d1_41 : decode prog_28_method_1_code 41 = .ok (.aload_n 0, 1) := by decide +kernel
theorem d1_42 : decode prog_28_method_1_code 42 = .ok (.aload_n 0, 1) := by decide +kernel
theorem d1_43 : decode prog_28_method_1_code 43 = .ok (.getfield 30, 3) := by decide +kernel
theorem d1_46 : decode prog_28_method_1_code 46 = .ok (.arraylength, 1) := by decide +kernel
theorem d1_47 : decode prog_28_method_1_code 47 = .ok (.newarray .int, 2) := by decide +kernel
theorem d1_49 : decode prog_28_method_1_code 49 = .ok (.putfield 34, 3) := by decide +kernel
theorem d1_52 : decode prog_28_method_1_code 52 = .ok (.return_, 1) := by decide +kernel
theorem d3_0 : decode prog_28_method_2_code 0 = .ok (.iload_n 0, 1) := by decide +kernel
theorem d3_1 : decode prog_28_method_2_code 1 = .ok (.i2l, 1) := by decide +kernel
theorem d3_2 : decode prog_28_method_2_code 2 = .ok (.ldc2_w 38, 3) := by decide +kernel
theorem d3_5 : decode prog_28_method_2_code 5 = .ok (.ladd, 1) := by decide +kernel
theorem d3_6 : decode prog_28_method_2_code 6 = .ok (.lconst 1, 1) := by decide +kernel
theorem d3_7 : decode prog_28_method_2_code 7 = .ok (.lsub, 1) := by decide +kernel
theorem d3_8 : decode prog_28_method_2_code 8 = .ok (.ldc2_w 38, 3) := by decide +kernel
theorem d3_11 : decode prog_28_method_2_code 11 = .ok (.ldiv, 1) := by decide +kernel
theorem d3_12 : decode prog_28_method_2_code 12 = .ok (.l2i, 1) := by decide +kernel
theorem d3_13 : decode prog_28_method_2_code 13 = .ok (.ireturn, 1) := by decide +kernel
theorem d4_0 : decode prog_28_method_4_code 0 = .ok (.iconst 0, 1) := by decide +kernel
theorem d4_1 : decode prog_28_method_4_code 1 = .ok (.istore_n 1, 1) := by decide +kernel
theorem d4_2 : decode prog_28_method_4_code 2 = .ok (.iload_n 1, 1) := by decide +kernel
theorem d4_3 : decode prog_28_method_4_code 3 = .ok (.aload_n 0, 1) := by decide +kernel
theorem d4_4 : decode prog_28_method_4_code 4 = .ok (.getfield 40, 3) := by decide +kernel
theorem d4_7 : decode prog_28_method_4_code 7 = .ok (.if_icmp .ge 21, 3) := by decide +kernel
theorem d4_10 : decode prog_28_method_4_code 10 = .ok (.aload_n 0, 1) := by decide +kernel
theorem d4_11 : decode prog_28_method_4_code 11 = .ok (.getfield 30, 3) := by decide +kernel
theorem d4_14 : decode prog_28_method_4_code 14 = .ok (.aload_n 0, 1) := by decide +kernel
theorem d4_15 : decode prog_28_method_4_code 15 = .ok (.getfield 34, 3) := by decide +kernel
theorem d4_18 : decode prog_28_method_4_code 18 = .ok (.iload_n 1, 1) := by decide +kernel
theorem d4_19 : decode prog_28_method_4_code 19 = .ok (.iaload, 1) := by decide +kernel
theorem d4_20 : decode prog_28_method_4_code 20 = .ok (.lconst 0, 1) := by decide +kernel
theorem d4_21 : decode prog_28_method_4_code 21 = .ok (.lastore, 1) := by decide +kernel
theorem d4_22 : decode prog_28_method_4_code 22 = .ok (.iinc 1 1, 3) := by decide +kernel
theorem d4_25 : decode prog_28_method_4_code 25 = .ok (.goto (-23), 3) := by decide +kernel
theorem d4_28 : decode prog_28_method_4_code 28 = .ok (.aload_n 0, 1) := by decide +kernel
theorem d4_29 : decode prog_28_method_4_code 29 = .ok (.iconst 0, 1) := by decide +kernel
theorem d4_30 : decode prog_28_method_4_code 30 = .ok (.putfield 40, 3) := by decide +kernel
theorem d4_33 : decode prog_28_method_4_code 33 = .ok (.aload_n 0, 1) := by decide +kernel
theorem d4_34 : decode prog_28_method_4_code 34 = .ok (.iconst 0, 1) := by decide +kernel
theorem d4_35 : decode prog_28_method_4_code 35 = .ok (.putfield 43, 3) := by decide +kernel
theorem d4_38 : decode prog_28_method_4_code 38 = .ok (.return_, 1) := by decide +kernel
theorem d5_0 : decode prog_28_method_8_code 0 = .ok (.aload_n 0, 1) := by decide +kernel
theorem d5_1 : decode prog_28_method_8_code 1 = .ok (.getfield 43, 3) := by decide +kernel
theorem d5_4 : decode prog_28_method_8_code 4 = .ok (.ireturn, 1) := by decide +kernel
theorem d6_0 : decode method_3_code 0 = .ok (.iload_n 3, 1) := by decide +kernel
theorem d6_1 : decode method_3_code 1 = .ok (.iload_n 2, 1) := by decide +kernel
theorem d6_2 : decode method_3_code 2 = .ok (.if_icmp .lt 5, 3) := by decide +kernel
theorem d6_5 : decode method_3_code 5 = .ok (.iconst 1, 1) := by decide +kernel
theorem d6_6 : decode method_3_code 6 = .ok (.ireturn, 1) := by decide +kernel
theorem d6_7 : decode method_3_code 7 = .ok (.aload_n 0, 1) := by decide +kernel
theorem d6_8 : decode method_3_code 8 = .ok (.iload_n 3, 1) := by decide +kernel
theorem d6_9 : decode method_3_code 9 = .ok (.invokevirtual 9, 3) := by decide +kernel
theorem d6_12 : decode method_3_code 12 = .ok (.iload_n 1, 1) := by decide +kernel
theorem d6_13 : decode method_3_code 13 = .ok (.iload_n 2, 1) := by decide +kernel
theorem d6_14 : decode method_3_code 14 = .ok (.iload_n 3, 1) := by decide +kernel
theorem d6_15 : decode method_3_code 15 = .ok (.invokestatic 15, 3) := by decide +kernel
theorem d6_18 : decode method_3_code 18 = .ok (.lcmp, 1) := by decide +kernel
theorem d6_19 : decode method_3_code 19 = .ok (.ifCond .ne 7, 3) := by decide +kernel
theorem d6_22 : decode method_3_code 22 = .ok (.iconst 1, 1) := by decide +kernel
theorem d6_23 : decode method_3_code 23 = .ok (.goto 4, 3) := by decide +kernel
theorem d6_27 : decode method_3_code 27 = .ok (.ireturn, 1) := by decide +kernel
theorem d7_0 : decode prog_28_method_7_code 0 = .ok (.iload_n 1, 1) := by decide +kernel
theorem d7_1 : decode prog_28_method_7_code 1 = .ok (.aload_n 0, 1) := by decide +kernel
theorem d7_2 : decode prog_28_method_7_code 2 = .ok (.getfield 30, 3) := by decide +kernel
theorem d7_5 : decode prog_28_method_7_code 5 = .ok (.arraylength, 1) := by decide +kernel
theorem d7_6 : decode prog_28_method_7_code 6 = .ok (.iconst 1, 1) := by decide +kernel
theorem d7_7 : decode prog_28_method_7_code 7 = .ok (.isub, 1) := by decide +kernel
theorem d7_8 : decode prog_28_method_7_code 8 = .ok (.if_icmp .ne 27, 3) := by decide +kernel
theorem d7_11 : decode prog_28_method_7_code 11 = .ok (.aload_n 0, 1) := by decide +kernel
theorem d7_12 : decode prog_28_method_7_code 12 = .ok (.getfield 22, 3) := by decide +kernel
theorem d7_15 : decode prog_28_method_7_code 15 = .ok (.bipush 64, 2) := by decide +kernel
theorem d7_17 : decode prog_28_method_7_code 17 = .ok (.irem, 1) := by decide +kernel
theorem d7_18 : decode prog_28_method_7_code 18 = .ok (.ifCond .eq 17, 3) := by decide +kernel
theorem d7_21 : decode prog_28_method_7_code 21 = .ok (.ldc2_w 50, 3) := by decide +kernel
theorem d7_24 : decode prog_28_method_7_code 24 = .ok (.aload_n 0, 1) := by decide +kernel
theorem d7_25 : decode prog_28_method_7_code 25 = .ok (.getfield 22, 3) := by decide +kernel
theorem d7_28 : decode prog_28_method_7_code 28 = .ok (.bipush 64, 2) := by decide +kernel
theorem d7_30 : decode prog_28_method_7_code 30 = .ok (.irem, 1) := by decide +kernel
theorem d7_31 : decode prog_28_method_7_code 31 = .ok (.lshl, 1) := by decide +kernel
theorem d7_32 : decode prog_28_method_7_code 32 = .ok (.goto 4, 3) := by decide +kernel
theorem d7_35 : decode prog_28_method_7_code 35 = .ok (.lconst 0, 1) := by decide +kernel
theorem d7_36 : decode prog_28_method_7_code 36 = .ok (.lstore_n 2, 1) := by decide +kernel
theorem d7_37 : decode prog_28_method_7_code 37 = .ok (.aload_n 0, 1) := by decide +kernel
theorem d7_38 : decode prog_28_method_7_code 38 = .ok (.getfield 30, 3) := by decide +kernel
theorem d7_41 : decode prog_28_method_7_code 41 = .ok (.iload_n 1, 1) := by decide +kernel
theorem d7_42 : decode prog_28_method_7_code 42 = .ok (.laload, 1) := by decide +kernel
theorem d7_43 : decode prog_28_method_7_code 43 = .ok (.lload_n 2, 1) := by decide +kernel
theorem d7_44 : decode prog_28_method_7_code 44 = .ok (.lor, 1) := by decide +kernel
theorem d7_45 : decode prog_28_method_7_code 45 = .ok (.lreturn, 1) := by decide +kernel
theorem d8_0 : decode method_2_code 0 = .ok (.iload_n 0, 1) := by decide +kernel
theorem d8_1 : decode method_2_code 1 = .ok (.bipush 64, 2) := by decide +kernel
theorem d8_3 : decode method_2_code 3 = .ok (.irem, 1) := by decide +kernel
theorem d8_4 : decode method_2_code 4 = .ok (.istore_n 3, 1) := by decide +kernel
theorem d8_5 : decode method_2_code 5 = .ok (.iload_n 2, 1) := by decide +kernel
theorem d8_6 : decode method_2_code 6 = .ok (.iload_n 1, 1) := by decide +kernel
theorem d8_7 : decode method_2_code 7 = .ok (.iconst 1, 1) := by decide +kernel
theorem d8_8 : decode method_2_code 8 = .ok (.isub, 1) := by decide +kernel
theorem d8_9 : decode method_2_code 9 = .ok (.if_icmp .ne 7, 3) := by decide +kernel
theorem d8_12 : decode method_2_code 12 = .ok (.iload_n 3, 1) := by decide +kernel
theorem d8_13 : decode method_2_code 13 = .ok (.ifCond .ne 5, 3) := by decide +kernel
theorem d8_16 : decode method_2_code 16 = .ok (.lconst 0, 1) := by decide +kernel
theorem d8_17 : decode method_2_code 17 = .ok (.lreturn, 1) := by decide +kernel
theorem d8_18 : decode method_2_code 18 = .ok (.lconst 1, 1) := by decide +kernel
theorem d8_19 : decode method_2_code 19 = .ok (.iload_n 3, 1) := by decide +kernel
theorem d8_20 : decode method_2_code 20 = .ok (.lshl, 1) := by decide +kernel
theorem d8_21 : decode method_2_code 21 = .ok (.lconst 1, 1) := by decide +kernel
theorem d8_22 : decode method_2_code 22 = .ok (.lsub, 1) := by decide +kernel
theorem d8_23 : decode method_2_code 23 = .ok (.ldc2_w 7, 3) := by decide +kernel
theorem d8_26 : decode method_2_code 26 = .ok (.lxor, 1) := by decide +kernel
theorem d8_27 : decode method_2_code 27 = .ok (.lreturn, 1) := by decide +kernel
theorem d9_0 : decode prog_28_method_6_code 0 = .ok (.iload_n 1, 1) := by decide +kernel
theorem d9_1 : decode prog_28_method_6_code 1 = .ok (.bipush 64, 2) := by decide +kernel
theorem d9_3 : decode prog_28_method_6_code 3 = .ok (.idiv, 1) := by decide +kernel
theorem d9_4 : decode prog_28_method_6_code 4 = .ok (.istore_n 2, 1) := by decide +kernel
theorem d9_5 : decode prog_28_method_6_code 5 = .ok (.aload_n 0, 1) := by decide +kernel
theorem d9_6 : decode prog_28_method_6_code 6 = .ok (.getfield 30, 3) := by decide +kernel
theorem d9_9 : decode prog_28_method_6_code 9 = .ok (.iload_n 2, 1) := by decide +kernel
theorem d9_10 : decode prog_28_method_6_code 10 = .ok (.laload, 1) := by decide +kernel
theorem d9_11 : decode prog_28_method_6_code 11 = .ok (.lconst 0, 1) := by decide +kernel
theorem d9_12 : decode prog_28_method_6_code 12 = .ok (.lcmp, 1) := by decide +kernel
theorem d9_13 : decode prog_28_method_6_code 13 = .ok (.ifCond .ne 20, 3) := by decide +kernel
theorem d9_16 : decode prog_28_method_6_code 16 = .ok (.aload_n 0, 1) := by decide +kernel
theorem d9_17 : decode prog_28_method_6_code 17 = .ok (.getfield 34, 3) := by decide +kernel
theorem d9_20 : decode prog_28_method_6_code 20 = .ok (.aload_n 0, 1) := by decide +kernel
theorem d9_21 : decode prog_28_method_6_code 21 = .ok (.dup, 1) := by decide +kernel
theorem d9_22 : decode prog_28_method_6_code 22 = .ok (.getfield 40, 3) := by decide +kernel
theorem d9_25 : decode prog_28_method_6_code 25 = .ok (.dup_x1, 1) := by decide +kernel
theorem d9_26 : decode prog_28_method_6_code 26 = .ok (.iconst 1, 1) := by decide +kernel
theorem d9_27 : decode prog_28_method_6_code 27 = .ok (.iadd, 1) := by decide +kernel
theorem d9_28 : decode prog_28_method_6_code 28 = .ok (.putfield 40, 3) := by decide +kernel
theorem d9_31 : decode prog_28_method_6_code 31 = .ok (.iload_n 2, 1) := by decide +kernel
theorem d9_32 : decode prog_28_method_6_code 32 = .ok (.iastore, 1) := by decide +kernel
theorem d9_33 : decode prog_28_method_6_code 33 = .ok (.aload_n 0, 1) := by decide +kernel
theorem d9_34 : decode prog_28_method_6_code 34 = .ok (.getfield 30, 3) := by decide +kernel
theorem d9_37 : decode prog_28_method_6_code 37 = .ok (.iload_n 2, 1) := by decide +kernel
theorem d9_38 : decode prog_28_method_6_code 38 = .ok (.dup2, 1) := by decide +kernel
theorem d9_39 : decode prog_28_method_6_code 39 = .ok (.laload, 1) := by decide +kernel
theorem d9_40 : decode prog_28_method_6_code 40 = .ok (.lconst 1, 1) := by decide +kernel
theorem d9_41 : decode prog_28_method_6_code 41 = .ok (.iload_n 1, 1) := by decide +kernel
theorem d9_42 : decode prog_28_method_6_code 42 = .ok (.bipush 64, 2) := by decide +kernel
theorem d9_44 : decode prog_28_method_6_code 44 = .ok (.irem, 1) := by decide +kernel
theorem d9_45 : decode prog_28_method_6_code 45 = .ok (.lshl, 1) := by decide +kernel
theorem d9_46 : decode prog_28_method_6_code 46 = .ok (.lor, 1) := by decide +kernel
theorem d9_47 : decode prog_28_method_6_code 47 = .ok (.lastore, 1) := by decide +kernel
theorem d9_48 : decode prog_28_method_6_code 48 = .ok (.aload_n 0, 1) := by decide +kernel
theorem d9_49 : decode prog_28_method_6_code 49 = .ok (.getfield 43, 3) := by decide +kernel
theorem d9_52 : decode prog_28_method_6_code 52 = .ok (.aload_n 0, 1) := by decide +kernel
theorem d9_53 : decode prog_28_method_6_code 53 = .ok (.getfield 22, 3) := by decide +kernel
theorem d9_56 : decode prog_28_method_6_code 56 = .ok (.if_icmp .ge 27, 3) := by decide +kernel
theorem d9_59 : decode prog_28_method_6_code 59 = .ok (.aload_n 0, 1) := by decide +kernel
theorem d9_60 : decode prog_28_method_6_code 60 = .ok (.aload_n 0, 1) := by decide +kernel
theorem d9_61 : decode prog_28_method_6_code 61 = .ok (.getfield 43, 3) := by decide +kernel
theorem d9_64 : decode prog_28_method_6_code 64 = .ok (.invokevirtual 46, 3) := by decide +kernel
theorem d9_67 : decode prog_28_method_6_code 67 = .ok (.ifCond .eq 16, 3) := by decide +kernel
theorem d9_70 : decode prog_28_method_6_code 70 = .ok (.aload_n 0, 1) := by decide +kernel
theorem d9_71 : decode prog_28_method_6_code 71 = .ok (.dup, 1) := by decide +kernel
theorem d9_72 : decode prog_28_method_6_code 72 = .ok (.getfield 43, 3) := by decide +kernel
theorem d9_75 : decode prog_28_method_6_code 75 = .ok (.iconst 1, 1) := by decide +kernel
theorem d9_76 : decode prog_28_method_6_code 76 = .ok (.iadd, 1) := by decide +kernel
theorem d9_77 : decode prog_28_method_6_code 77 = .ok (.putfield 43, 3) := by decide +kernel
theorem d9_80 : decode prog_28_method_6_code 80 = .ok (.goto (-32), 3) := by decide +kernel
theorem d9_83 : decode prog_28_method_6_code 83 = .ok (.return_, 1) := by decide +kernel
theorem d10_0 : decode prog_28_method_5_code 0 = .ok (.aload_n 0, 1) := by decide +kernel
theorem d10_1 : decode prog_28_method_5_code 1 = .ok (.getfield 30, 3) := by decide +kernel
theorem d10_4 : decode prog_28_method_5_code 4 = .ok (.iload_n 1, 1) := by decide +kernel
theorem d10_5 : decode prog_28_method_5_code 5 = .ok (.bipush 64, 2) := by decide +kernel
theorem d10_7 : decode prog_28_method_5_code 7 = .ok (.idiv, 1) := by decide +kernel
theorem d10_8 : decode prog_28_method_5_code 8 = .ok (.laload, 1) := by decide +kernel
theorem d10_9 : decode prog_28_method_5_code 9 = .ok (.lconst 1, 1) := by decide +kernel
theorem d10_10 : decode prog_28_method_5_code 10 = .ok (.iload_n 1, 1) := by decide +kernel
theorem d10_11 : decode prog_28_method_5_code 11 = .ok (.bipush 64, 2) := by decide +kernel
theorem d10_13 : decode prog_28_method_5_code 13 = .ok (.irem, 1) := by decide +kernel
theorem d10_14 : decode prog_28_method_5_code 14 = .ok (.lshl, 1) := by decide +kernel
theorem d10_15 : decode prog_28_method_5_code 15 = .ok (.land, 1) := by decide +kernel
theorem d10_16 : decode prog_28_method_5_code 16 = .ok (.lconst 0, 1) := by decide +kernel
theorem d10_17 : decode prog_28_method_5_code 17 = .ok (.lcmp, 1) := by decide +kernel
theorem d10_18 : decode prog_28_method_5_code 18 = .ok (.ifCond .eq 7, 3) := by decide +kernel
theorem d10_21 : decode prog_28_method_5_code 21 = .ok (.iconst 1, 1) := by decide +kernel
theorem d10_22 : decode prog_28_method_5_code 22 = .ok (.goto 4, 3) := by decide +kernel
theorem d10_25 : decode prog_28_method_5_code 25 = .ok (.iconst 0, 1) := by decide +kernel
theorem d10_26 : decode prog_28_method_5_code 26 = .ok (.ireturn, 1) := by decide +kernel
theorem w0 {Z : State} {a0 : Array Value} (hw : ∀ d ∈ tables_1, d.before a0 Z = true) : (Jvm.Cond.constantLong "com/example/copyspan/copyspan/exchanges/SenderColoursStartPinLaw" (21 : Nat) (255 : Int64)).before a0 Z = true := hw _ (List.mem_of_getElem? (i := 0) rfl)
theorem w1 {Z : State} {a0 : Array Value} (hw : ∀ d ∈ tables_1, d.before a0 Z = true) : (Jvm.Cond.constantLong "com/example/copyspan/copyspan/exchanges/SenderColoursStartPinLaw" (23 : Nat) (3 : Int64)).before a0 Z = true := hw _ (List.mem_of_getElem? (i := 1) rfl)
theorem w2 {Z : State} {a0 : Array Value} (hw : ∀ d ∈ tables_1, d.before a0 Z = true) : (Jvm.Cond.constant "com/example/copyspan/copyspan/exchanges/SenderColoursStartPinLaw" (25 : Nat) (2147483647 : Int32)).before a0 Z = true := hw _ (List.mem_of_getElem? (i := 2) rfl)
theorem w3 {Z : State} {a0 : Array Value} (hw : ∀ d ∈ tables_1, d.before a0 Z = true) : (Jvm.Cond.classLink "com/example/copyspan/copyspan/exchanges/SenderColoursStartPinLaw" (10 : Nat) "com/example/copyspan/copyspan/exchanges/SenderColours").before a0 Z = true := hw _ (List.mem_of_getElem? (i := 3) rfl)
theorem w4 {Z : State} {a0 : Array Value} (hw : ∀ d ∈ tables_1, d.before a0 Z = true) : (Jvm.Cond.instantiable "com/example/copyspan/copyspan/exchanges/SenderColours" (5 : Nat)).before a0 Z = true := hw _ (List.mem_of_getElem? (i := 4) rfl)
theorem w5 {Z : State} {a0 : Array Value} (hw : ∀ d ∈ tables_1, d.before a0 Z = true) : (Jvm.Cond.initialized "com/example/copyspan/copyspan/exchanges/SenderColours").before a0 Z = true := hw _ (List.mem_of_getElem? (i := 5) rfl)
theorem w6 {Z : State} {a0 : Array Value} (hw : ∀ d ∈ tables_1, d.before a0 Z = true) : (Jvm.Cond.methodLink "com/example/copyspan/copyspan/exchanges/SenderColoursStartPinLaw" (26 : Nat) ({ cls := "com/example/copyspan/copyspan/exchanges/SenderColours", name := "<init>", desc := "(J)V" } : Jvm.MethodName)).before a0 Z = true := hw _ (List.mem_of_getElem? (i := 6) rfl)
theorem w7 {Z : State} {a0 : Array Value} (hw : ∀ d ∈ tables_1, d.before a0 Z = true) : (Jvm.Cond.instanceMethod ({ cls := "com/example/copyspan/copyspan/exchanges/SenderColours", name := "<init>", desc := "(J)V" } : Jvm.MethodName)).before a0 Z = true := hw _ (List.mem_of_getElem? (i := 7) rfl)
theorem w8 {Z : State} {a0 : Array Value} (hw : ∀ d ∈ tables_1, d.before a0 Z = true) : (Jvm.Cond.code ({ cls := "com/example/copyspan/copyspan/exchanges/SenderColours", name := "<init>", desc := "(J)V" } : Jvm.MethodName) prog_28_method_1_code (3 : Nat) (Option.none : Option Jvm.ClassFile.FieldType)).before a0 Z = true := hw _ (List.mem_of_getElem? (i := 8) rfl)
theorem w9 {Z : State} {a0 : Array Value} (hw : ∀ d ∈ tables_1, d.before a0 Z = true) : (Jvm.Cond.methodLink "com/example/copyspan/copyspan/exchanges/SenderColours" (5 : Nat) ({ cls := "java/lang/Object", name := "<init>", desc := "()V" } : Jvm.MethodName)).before a0 Z = true := hw _ (List.mem_of_getElem? (i := 9) rfl)
theorem w10 {Z : State} {a0 : Array Value} (hw : ∀ d ∈ tables_1, d.before a0 Z = true) : (Jvm.Cond.instanceMethod ({ cls := "java/lang/Object", name := "<init>", desc := "()V" } : Jvm.MethodName)).before a0 Z = true := hw _ (List.mem_of_getElem? (i := 10) rfl)
theorem w11 {Z : State} {a0 : Array Value} (hw : ∀ d ∈ tables_1, d.before a0 Z = true) : (Jvm.Cond.code ({ cls := "java/lang/Object", name := "<init>", desc := "()V" } : Jvm.MethodName) object_method_1_code (1 : Nat) (Option.none : Option Jvm.ClassFile.FieldType)).before a0 Z = true := hw _ (List.mem_of_getElem? (i := 11) rfl)
theorem w12 {Z : State} {a0 : Array Value} (hw : ∀ d ∈ tables_1, d.before a0 Z = true) : (Jvm.Cond.constantLong "com/example/copyspan/copyspan/exchanges/SenderColours" (13 : Nat) (2147483639 : Int64)).before a0 Z = true := hw _ (List.mem_of_getElem? (i := 12) rfl)
theorem w13 {Z : State} {a0 : Array Value} (hw : ∀ d ∈ tables_1, d.before a0 Z = true) : (Jvm.Cond.fieldLink "com/example/copyspan/copyspan/exchanges/SenderColours" (22 : Nat) "com/example/copyspan/copyspan/exchanges/SenderColours" "palette" "I").before a0 Z = true := hw _ (List.mem_of_getElem? (i := 13) rfl)
theorem w14 {Z : State} {a0 : Array Value} (hw : ∀ d ∈ tables_1, d.before a0 Z = true) : (Jvm.Cond.laysFinal "com/example/copyspan/copyspan/exchanges/SenderColours" "com/example/copyspan/copyspan/exchanges/SenderColours" "palette" "I").before a0 Z = true := hw _ (List.mem_of_getElem? (i := 14) rfl)
theorem w15 {Z : State} {a0 : Array Value} (hw : ∀ d ∈ tables_1, d.before a0 Z = true) : (Jvm.Cond.methodLink "com/example/copyspan/copyspan/exchanges/SenderColours" (26 : Nat) ({ cls := "com/example/copyspan/copyspan/exchanges/SenderColours", name := "wordCount", desc := "(I)I" } : Jvm.MethodName)).before a0 Z = true := hw _ (List.mem_of_getElem? (i := 15) rfl)
theorem w16 {Z : State} {a0 : Array Value} (hw : ∀ d ∈ tables_1, d.before a0 Z = true) : (Jvm.Cond.static ({ cls := "com/example/copyspan/copyspan/exchanges/SenderColours", name := "wordCount", desc := "(I)I" } : Jvm.MethodName)).before a0 Z = true := hw _ (List.mem_of_getElem? (i := 16) rfl)
theorem w17 {Z : State} {a0 : Array Value} (hw : ∀ d ∈ tables_1, d.before a0 Z = true) : (Jvm.Cond.code ({ cls := "com/example/copyspan/copyspan/exchanges/SenderColours", name := "wordCount", desc := "(I)I" } : Jvm.MethodName) prog_28_method_2_code (1 : Nat) (Option.some Jvm.ClassFile.FieldType.int)).before a0 Z = true := hw _ (List.mem_of_getElem? (i := 17) rfl)
theorem w18 {Z : State} {a0 : Array Value} (hw : ∀ d ∈ tables_1, d.before a0 Z = true) : (Jvm.Cond.constantLong "com/example/copyspan/copyspan/exchanges/SenderColours" (38 : Nat) (64 : Int64)).before a0 Z = true := hw _ (List.mem_of_getElem? (i := 18) rfl)
theorem w19 {Z : State} {a0 : Array Value} (hw : ∀ d ∈ tables_1, d.before a0 Z = true) : (Jvm.Cond.arrayClass Jvm.ClassFile.FieldType.long).before a0 Z = true := hw _ (List.mem_of_getElem? (i := 19) rfl)
theorem w20 {Z : State} {a0 : Array Value} (hw : ∀ d ∈ tables_1, d.before a0 Z = true) : (Jvm.Cond.fieldLink "com/example/copyspan/copyspan/exchanges/SenderColours" (30 : Nat) "com/example/copyspan/copyspan/exchanges/SenderColours" "words" "[J").before a0 Z = true := hw _ (List.mem_of_getElem? (i := 20) rfl)
theorem w21 {Z : State} {a0 : Array Value} (hw : ∀ d ∈ tables_1, d.before a0 Z = true) : (Jvm.Cond.laysFinal "com/example/copyspan/copyspan/exchanges/SenderColours" "com/example/copyspan/copyspan/exchanges/SenderColours" "words" "[J").before a0 Z = true := hw _ (List.mem_of_getElem? (i := 21) rfl)
theorem w22 {Z : State} {a0 : Array Value} (hw : ∀ d ∈ tables_1, d.before a0 Z = true) : (Jvm.Cond.arrayClass Jvm.ClassFile.FieldType.int).before a0 Z = true := hw _ (List.mem_of_getElem? (i := 22) rfl)
theorem w23 {Z : State} {a0 : Array Value} (hw : ∀ d ∈ tables_1, d.before a0 Z = true) : (Jvm.Cond.fieldLink "com/example/copyspan/copyspan/exchanges/SenderColours" (34 : Nat) "com/example/copyspan/copyspan/exchanges/SenderColours" "touched" "[I").before a0 Z = true := hw _ (List.mem_of_getElem? (i := 23) rfl)
theorem w24 {Z : State} {a0 : Array Value} (hw : ∀ d ∈ tables_1, d.before a0 Z = true) : (Jvm.Cond.laysFinal "com/example/copyspan/copyspan/exchanges/SenderColours" "com/example/copyspan/copyspan/exchanges/SenderColours" "touched" "[I").before a0 Z = true := hw _ (List.mem_of_getElem? (i := 24) rfl)
theorem w25 {Z : State} {a0 : Array Value} (hw : ∀ d ∈ tables_1, d.before a0 Z = true) : (Jvm.Cond.methodLink "com/example/copyspan/copyspan/exchanges/SenderColoursStartPinLaw" (33 : Nat) ({ cls := "com/example/copyspan/copyspan/exchanges/SenderColours", name := "start", desc := "()V" } : Jvm.MethodName)).before a0 Z = true := hw _ (List.mem_of_getElem? (i := 25) rfl)
theorem w26 {Z : State} {a0 : Array Value} (hw : ∀ d ∈ tables_1, d.before a0 Z = true) : (Jvm.Cond.declares ({ cls := "com/example/copyspan/copyspan/exchanges/SenderColours", name := "start", desc := "()V" } : Jvm.MethodName)).before a0 Z = true := hw _ (List.mem_of_getElem? (i := 26) rfl)
theorem w27 {Z : State} {a0 : Array Value} (hw : ∀ d ∈ tables_1, d.before a0 Z = true) : (Jvm.Cond.instanceMethod ({ cls := "com/example/copyspan/copyspan/exchanges/SenderColours", name := "start", desc := "()V" } : Jvm.MethodName)).before a0 Z = true := hw _ (List.mem_of_getElem? (i := 27) rfl)
theorem w28 {Z : State} {a0 : Array Value} (hw : ∀ d ∈ tables_1, d.before a0 Z = true) : (Jvm.Cond.selects "com/example/copyspan/copyspan/exchanges/SenderColours" ({ cls := "com/example/copyspan/copyspan/exchanges/SenderColours", name := "start", desc := "()V" } : Jvm.MethodName) ({ cls := "com/example/copyspan/copyspan/exchanges/SenderColours", name := "start", desc := "()V" } : Jvm.MethodName)).before a0 Z = true := hw _ (List.mem_of_getElem? (i := 28) rfl)
theorem w29 {Z : State} {a0 : Array Value} (hw : ∀ d ∈ tables_1, d.before a0 Z = true) : (Jvm.Cond.code ({ cls := "com/example/copyspan/copyspan/exchanges/SenderColours", name := "start", desc := "()V" } : Jvm.MethodName) prog_28_method_4_code (2 : Nat) (Option.none : Option Jvm.ClassFile.FieldType)).before a0 Z = true := hw _ (List.mem_of_getElem? (i := 29) rfl)
theorem w30 {Z : State} {a0 : Array Value} (hw : ∀ d ∈ tables_1, d.before a0 Z = true) : (Jvm.Cond.fieldLink "com/example/copyspan/copyspan/exchanges/SenderColours" (40 : Nat) "com/example/copyspan/copyspan/exchanges/SenderColours" "touchedCount" "I").before a0 Z = true := hw _ (List.mem_of_getElem? (i := 30) rfl)
theorem w31 {Z : State} {a0 : Array Value} (hw : ∀ d ∈ tables_1, d.before a0 Z = true) : (Jvm.Cond.lays "com/example/copyspan/copyspan/exchanges/SenderColours" "com/example/copyspan/copyspan/exchanges/SenderColours" "touchedCount" "I").before a0 Z = true := hw _ (List.mem_of_getElem? (i := 31) rfl)
theorem w32 {Z : State} {a0 : Array Value} (hw : ∀ d ∈ tables_1, d.before a0 Z = true) : (Jvm.Cond.fieldLink "com/example/copyspan/copyspan/exchanges/SenderColours" (43 : Nat) "com/example/copyspan/copyspan/exchanges/SenderColours" "lowestUnused" "I").before a0 Z = true := hw _ (List.mem_of_getElem? (i := 32) rfl)
theorem w33 {Z : State} {a0 : Array Value} (hw : ∀ d ∈ tables_1, d.before a0 Z = true) : (Jvm.Cond.lays "com/example/copyspan/copyspan/exchanges/SenderColours" "com/example/copyspan/copyspan/exchanges/SenderColours" "lowestUnused" "I").before a0 Z = true := hw _ (List.mem_of_getElem? (i := 33) rfl)
theorem w34 {Z : State} {a0 : Array Value} (hw : ∀ d ∈ tables_1, d.before a0 Z = true) : (Jvm.Cond.methodLink "com/example/copyspan/copyspan/exchanges/SenderColoursStartPinLaw" (36 : Nat) ({ cls := "com/example/copyspan/copyspan/exchanges/SenderColours", name := "lowestUnused", desc := "()I" } : Jvm.MethodName)).before a0 Z = true := hw _ (List.mem_of_getElem? (i := 34) rfl)
theorem w35 {Z : State} {a0 : Array Value} (hw : ∀ d ∈ tables_1, d.before a0 Z = true) : (Jvm.Cond.declares ({ cls := "com/example/copyspan/copyspan/exchanges/SenderColours", name := "lowestUnused", desc := "()I" } : Jvm.MethodName)).before a0 Z = true := hw _ (List.mem_of_getElem? (i := 35) rfl)
theorem w36 {Z : State} {a0 : Array Value} (hw : ∀ d ∈ tables_1, d.before a0 Z = true) : (Jvm.Cond.instanceMethod ({ cls := "com/example/copyspan/copyspan/exchanges/SenderColours", name := "lowestUnused", desc := "()I" } : Jvm.MethodName)).before a0 Z = true := hw _ (List.mem_of_getElem? (i := 36) rfl)
theorem w37 {Z : State} {a0 : Array Value} (hw : ∀ d ∈ tables_1, d.before a0 Z = true) : (Jvm.Cond.selects "com/example/copyspan/copyspan/exchanges/SenderColours" ({ cls := "com/example/copyspan/copyspan/exchanges/SenderColours", name := "lowestUnused", desc := "()I" } : Jvm.MethodName) ({ cls := "com/example/copyspan/copyspan/exchanges/SenderColours", name := "lowestUnused", desc := "()I" } : Jvm.MethodName)).before a0 Z = true := hw _ (List.mem_of_getElem? (i := 37) rfl)
theorem w38 {Z : State} {a0 : Array Value} (hw : ∀ d ∈ tables_1, d.before a0 Z = true) : (Jvm.Cond.code ({ cls := "com/example/copyspan/copyspan/exchanges/SenderColours", name := "lowestUnused", desc := "()I" } : Jvm.MethodName) prog_28_method_8_code (1 : Nat) (Option.some Jvm.ClassFile.FieldType.int)).before a0 Z = true := hw _ (List.mem_of_getElem? (i := 38) rfl)
theorem w39 {Z : State} {a0 : Array Value} (hw : ∀ d ∈ tables_1, d.before a0 Z = true) : (Jvm.Cond.methodLink "com/example/copyspan/copyspan/exchanges/SenderColoursStartPinLaw" (40 : Nat) ({ cls := "com/example/copyspan/copyspan/exchanges/SenderColoursStartPinLaw", name := "clean", desc := "(Lcom/example/copyspan/copyspan/exchanges/SenderColours;III)Z" } : Jvm.MethodName)).before a0 Z = true := hw _ (List.mem_of_getElem? (i := 39) rfl)
theorem w40 {Z : State} {a0 : Array Value} (hw : ∀ d ∈ tables_1, d.before a0 Z = true) : (Jvm.Cond.static ({ cls := "com/example/copyspan/copyspan/exchanges/SenderColoursStartPinLaw", name := "clean", desc := "(Lcom/example/copyspan/copyspan/exchanges/SenderColours;III)Z" } : Jvm.MethodName)).before a0 Z = true := hw _ (List.mem_of_getElem? (i := 40) rfl)
theorem w41 {Z : State} {a0 : Array Value} (hw : ∀ d ∈ tables_1, d.before a0 Z = true) : (Jvm.Cond.initialized "com/example/copyspan/copyspan/exchanges/SenderColoursStartPinLaw").before a0 Z = true := hw _ (List.mem_of_getElem? (i := 41) rfl)
theorem w42 {Z : State} {a0 : Array Value} (hw : ∀ d ∈ tables_1, d.before a0 Z = true) : (Jvm.Cond.code ({ cls := "com/example/copyspan/copyspan/exchanges/SenderColoursStartPinLaw", name := "clean", desc := "(Lcom/example/copyspan/copyspan/exchanges/SenderColours;III)Z" } : Jvm.MethodName) method_3_code (4 : Nat) (Option.some Jvm.ClassFile.FieldType.boolean)).before a0 Z = true := hw _ (List.mem_of_getElem? (i := 42) rfl)
theorem w43 {Z : State} {a0 : Array Value} (hw : ∀ d ∈ tables_1, d.before a0 Z = true) : (Jvm.Cond.methodLink "com/example/copyspan/copyspan/exchanges/SenderColoursStartPinLaw" (9 : Nat) ({ cls := "com/example/copyspan/copyspan/exchanges/SenderColours", name := "usedIn", desc := "(I)J" } : Jvm.MethodName)).before a0 Z = true := hw _ (List.mem_of_getElem? (i := 43) rfl)
theorem w44 {Z : State} {a0 : Array Value} (hw : ∀ d ∈ tables_1, d.before a0 Z = true) : (Jvm.Cond.declares ({ cls := "com/example/copyspan/copyspan/exchanges/SenderColours", name := "usedIn", desc := "(I)J" } : Jvm.MethodName)).before a0 Z = true := hw _ (List.mem_of_getElem? (i := 44) rfl)
theorem w45 {Z : State} {a0 : Array Value} (hw : ∀ d ∈ tables_1, d.before a0 Z = true) : (Jvm.Cond.instanceMethod ({ cls := "com/example/copyspan/copyspan/exchanges/SenderColours", name := "usedIn", desc := "(I)J" } : Jvm.MethodName)).before a0 Z = true := hw _ (List.mem_of_getElem? (i := 45) rfl)
theorem w46 {Z : State} {a0 : Array Value} (hw : ∀ d ∈ tables_1, d.before a0 Z = true) : (Jvm.Cond.selects "com/example/copyspan/copyspan/exchanges/SenderColours" ({ cls := "com/example/copyspan/copyspan/exchanges/SenderColours", name := "usedIn", desc := "(I)J" } : Jvm.MethodName) ({ cls := "com/example/copyspan/copyspan/exchanges/SenderColours", name := "usedIn", desc := "(I)J" } : Jvm.MethodName)).before a0 Z = true := hw _ (List.mem_of_getElem? (i := 46) rfl)
theorem w47 {Z : State} {a0 : Array Value} (hw : ∀ d ∈ tables_1, d.before a0 Z = true) : (Jvm.Cond.code ({ cls := "com/example/copyspan/copyspan/exchanges/SenderColours", name := "usedIn", desc := "(I)J" } : Jvm.MethodName) prog_28_method_7_code (4 : Nat) (Option.some Jvm.ClassFile.FieldType.long)).before a0 Z = true := hw _ (List.mem_of_getElem? (i := 47) rfl)
theorem w48 {Z : State} {a0 : Array Value} (hw : ∀ d ∈ tables_1, d.before a0 Z = true) : (Jvm.Cond.constantLong "com/example/copyspan/copyspan/exchanges/SenderColours" (50 : Nat) (-1 : Int64)).before a0 Z = true := hw _ (List.mem_of_getElem? (i := 48) rfl)
theorem w49 {Z : State} {a0 : Array Value} (hw : ∀ d ∈ tables_1, d.before a0 Z = true) : (Jvm.Cond.methodLink "com/example/copyspan/copyspan/exchanges/SenderColoursStartPinLaw" (15 : Nat) ({ cls := "com/example/copyspan/copyspan/exchanges/SenderColoursStartPinLaw", name := "beyond", desc := "(III)J" } : Jvm.MethodName)).before a0 Z = true := hw _ (List.mem_of_getElem? (i := 49) rfl)
theorem w50 {Z : State} {a0 : Array Value} (hw : ∀ d ∈ tables_1, d.before a0 Z = true) : (Jvm.Cond.static ({ cls := "com/example/copyspan/copyspan/exchanges/SenderColoursStartPinLaw", name := "beyond", desc := "(III)J" } : Jvm.MethodName)).before a0 Z = true := hw _ (List.mem_of_getElem? (i := 50) rfl)
theorem w51 {Z : State} {a0 : Array Value} (hw : ∀ d ∈ tables_1, d.before a0 Z = true) : (Jvm.Cond.code ({ cls := "com/example/copyspan/copyspan/exchanges/SenderColoursStartPinLaw", name := "beyond", desc := "(III)J" } : Jvm.MethodName) method_2_code (4 : Nat) (Option.some Jvm.ClassFile.FieldType.long)).before a0 Z = true := hw _ (List.mem_of_getElem? (i := 51) rfl)
theorem w52 {Z : State} {a0 : Array Value} (hw : ∀ d ∈ tables_1, d.before a0 Z = true) : (Jvm.Cond.constantLong "com/example/copyspan/copyspan/exchanges/SenderColoursStartPinLaw" (7 : Nat) (-1 : Int64)).before a0 Z = true := hw _ (List.mem_of_getElem? (i := 52) rfl)
theorem w53 {Z : State} {a0 : Array Value} (hw : ∀ d ∈ tables_1, d.before a0 Z = true) : (Jvm.Cond.methodLink "com/example/copyspan/copyspan/exchanges/SenderColoursStartPinLaw" (29 : Nat) ({ cls := "com/example/copyspan/copyspan/exchanges/SenderColours", name := "use", desc := "(I)V" } : Jvm.MethodName)).before a0 Z = true := hw _ (List.mem_of_getElem? (i := 53) rfl)
theorem w54 {Z : State} {a0 : Array Value} (hw : ∀ d ∈ tables_1, d.before a0 Z = true) : (Jvm.Cond.declares ({ cls := "com/example/copyspan/copyspan/exchanges/SenderColours", name := "use", desc := "(I)V" } : Jvm.MethodName)).before a0 Z = true := hw _ (List.mem_of_getElem? (i := 54) rfl)
theorem w55 {Z : State} {a0 : Array Value} (hw : ∀ d ∈ tables_1, d.before a0 Z = true) : (Jvm.Cond.instanceMethod ({ cls := "com/example/copyspan/copyspan/exchanges/SenderColours", name := "use", desc := "(I)V" } : Jvm.MethodName)).before a0 Z = true := hw _ (List.mem_of_getElem? (i := 55) rfl)
theorem w56 {Z : State} {a0 : Array Value} (hw : ∀ d ∈ tables_1, d.before a0 Z = true) : (Jvm.Cond.selects "com/example/copyspan/copyspan/exchanges/SenderColours" ({ cls := "com/example/copyspan/copyspan/exchanges/SenderColours", name := "use", desc := "(I)V" } : Jvm.MethodName) ({ cls := "com/example/copyspan/copyspan/exchanges/SenderColours", name := "use", desc := "(I)V" } : Jvm.MethodName)).before a0 Z = true := hw _ (List.mem_of_getElem? (i := 56) rfl)
theorem w57 {Z : State} {a0 : Array Value} (hw : ∀ d ∈ tables_1, d.before a0 Z = true) : (Jvm.Cond.code ({ cls := "com/example/copyspan/copyspan/exchanges/SenderColours", name := "use", desc := "(I)V" } : Jvm.MethodName) prog_28_method_6_code (3 : Nat) (Option.none : Option Jvm.ClassFile.FieldType)).before a0 Z = true := hw _ (List.mem_of_getElem? (i := 57) rfl)
theorem w58 {Z : State} {a0 : Array Value} (hw : ∀ d ∈ tables_1, d.before a0 Z = true) : (Jvm.Cond.methodLink "com/example/copyspan/copyspan/exchanges/SenderColours" (46 : Nat) ({ cls := "com/example/copyspan/copyspan/exchanges/SenderColours", name := "used", desc := "(I)Z" } : Jvm.MethodName)).before a0 Z = true := hw _ (List.mem_of_getElem? (i := 58) rfl)
theorem w59 {Z : State} {a0 : Array Value} (hw : ∀ d ∈ tables_1, d.before a0 Z = true) : (Jvm.Cond.declares ({ cls := "com/example/copyspan/copyspan/exchanges/SenderColours", name := "used", desc := "(I)Z" } : Jvm.MethodName)).before a0 Z = true := hw _ (List.mem_of_getElem? (i := 59) rfl)
theorem w60 {Z : State} {a0 : Array Value} (hw : ∀ d ∈ tables_1, d.before a0 Z = true) : (Jvm.Cond.instanceMethod ({ cls := "com/example/copyspan/copyspan/exchanges/SenderColours", name := "used", desc := "(I)Z" } : Jvm.MethodName)).before a0 Z = true := hw _ (List.mem_of_getElem? (i := 60) rfl)
theorem w61 {Z : State} {a0 : Array Value} (hw : ∀ d ∈ tables_1, d.before a0 Z = true) : (Jvm.Cond.selects "com/example/copyspan/copyspan/exchanges/SenderColours" ({ cls := "com/example/copyspan/copyspan/exchanges/SenderColours", name := "used", desc := "(I)Z" } : Jvm.MethodName) ({ cls := "com/example/copyspan/copyspan/exchanges/SenderColours", name := "used", desc := "(I)Z" } : Jvm.MethodName)).before a0 Z = true := hw _ (List.mem_of_getElem? (i := 61) rfl)
theorem w62 {Z : State} {a0 : Array Value} (hw : ∀ d ∈ tables_1, d.before a0 Z = true) : (Jvm.Cond.code ({ cls := "com/example/copyspan/copyspan/exchanges/SenderColours", name := "used", desc := "(I)Z" } : Jvm.MethodName) prog_28_method_5_code (2 : Nat) (Option.some Jvm.ClassFile.FieldType.boolean)).before a0 Z = true := hw _ (List.mem_of_getElem? (i := 62) rfl)
theorem pd_0 : parseMethodDescriptor "(I)I" = some ⟨[.int], some (.int)⟩ := by decide +kernel
theorem pd_1 : parseMethodDescriptor "(I)Z" = some ⟨[.int], some (.boolean)⟩ := by decide +kernel
theorem pd_2 : parseMethodDescriptor "(I)J" = some ⟨[.int], some (.long)⟩ := by decide +kernel
theorem pd_3 : parseMethodDescriptor "(III)J" = some ⟨[.int, .int, .int], some (.long)⟩ := by decide +kernel
theorem pd_4 : parseMethodDescriptor "()V" = some ⟨[], none⟩ := by decide +kernel
theorem pd_5 : parseMethodDescriptor "()I" = some ⟨[], some (.int)⟩ := by decide +kernel
theorem pd_6 : parseMethodDescriptor "(Lcom/example/copyspan/copyspan/exchanges/SenderColours;III)Z" = some ⟨[.object "com/example/copyspan/copyspan/exchanges/SenderColours", .int, .int, .int], some (.boolean)⟩ := by decide +kernel
theorem pd_7 : parseMethodDescriptor "(I)V" = some ⟨[.int], none⟩ := by decide +kernel
theorem pd_8 : parseMethodDescriptor "(J)V" = some ⟨[.long], none⟩ := by decide +kernel
theorem sn_SenderColours_palette_words {Z : State} {a0 : Array Value} (hw : ∀ d ∈ tables_1, d.before a0 Z = true) : Jvm.RoadKit.slotOf Z "com/example/copyspan/copyspan/exchanges/SenderColours" "palette" "I" ≠ Jvm.RoadKit.slotOf Z "com/example/copyspan/copyspan/exchanges/SenderColours" "words" "[J" := slot_ne (t := .int) (t' := .array (.long)) (C := "com/example/copyspan/copyspan/exchanges/SenderColours") (Or.inr (w14 hw)) (Or.inr (w21 hw)) (by decide) (by decide) (by decide)
theorem sn_SenderColours_palette_touched {Z : State} {a0 : Array Value} (hw : ∀ d ∈ tables_1, d.before a0 Z = true) : Jvm.RoadKit.slotOf Z "com/example/copyspan/copyspan/exchanges/SenderColours" "palette" "I" ≠ Jvm.RoadKit.slotOf Z "com/example/copyspan/copyspan/exchanges/SenderColours" "touched" "[I" := slot_ne (t := .int) (t' := .array (.int)) (C := "com/example/copyspan/copyspan/exchanges/SenderColours") (Or.inr (w14 hw)) (Or.inr (w24 hw)) (by decide) (by decide) (by decide)
theorem sn_SenderColours_palette_touchedCount {Z : State} {a0 : Array Value} (hw : ∀ d ∈ tables_1, d.before a0 Z = true) : Jvm.RoadKit.slotOf Z "com/example/copyspan/copyspan/exchanges/SenderColours" "palette" "I" ≠ Jvm.RoadKit.slotOf Z "com/example/copyspan/copyspan/exchanges/SenderColours" "touchedCount" "I" := slot_ne (t := .int) (t' := .int) (C := "com/example/copyspan/copyspan/exchanges/SenderColours") (Or.inr (w14 hw)) (Or.inl (w31 hw)) (by decide) (by decide) (by decide)
theorem sn_SenderColours_palette_lowestUnused {Z : State} {a0 : Array Value} (hw : ∀ d ∈ tables_1, d.before a0 Z = true) : Jvm.RoadKit.slotOf Z "com/example/copyspan/copyspan/exchanges/SenderColours" "palette" "I" ≠ Jvm.RoadKit.slotOf Z "com/example/copyspan/copyspan/exchanges/SenderColours" "lowestUnused" "I" := slot_ne (t := .int) (t' := .int) (C := "com/example/copyspan/copyspan/exchanges/SenderColours") (Or.inr (w14 hw)) (Or.inl (w33 hw)) (by decide) (by decide) (by decide)
theorem sn_SenderColours_words_palette {Z : State} {a0 : Array Value} (hw : ∀ d ∈ tables_1, d.before a0 Z = true) : Jvm.RoadKit.slotOf Z "com/example/copyspan/copyspan/exchanges/SenderColours" "words" "[J" ≠ Jvm.RoadKit.slotOf Z "com/example/copyspan/copyspan/exchanges/SenderColours" "palette" "I" := slot_ne (t := .array (.long)) (t' := .int) (C := "com/example/copyspan/copyspan/exchanges/SenderColours") (Or.inr (w21 hw)) (Or.inr (w14 hw)) (by decide) (by decide) (by decide)
theorem sn_SenderColours_words_touched {Z : State} {a0 : Array Value} (hw : ∀ d ∈ tables_1, d.before a0 Z = true) : Jvm.RoadKit.slotOf Z "com/example/copyspan/copyspan/exchanges/SenderColours" "words" "[J" ≠ Jvm.RoadKit.slotOf Z "com/example/copyspan/copyspan/exchanges/SenderColours" "touched" "[I" := slot_ne (t := .array (.long)) (t' := .array (.int)) (C := "com/example/copyspan/copyspan/exchanges/SenderColours") (Or.inr (w21 hw)) (Or.inr (w24 hw)) (by decide) (by decide) (by decide)
theorem sn_SenderColours_words_touchedCount {Z : State} {a0 : Array Value} (hw : ∀ d ∈ tables_1, d.before a0 Z = true) : Jvm.RoadKit.slotOf Z "com/example/copyspan/copyspan/exchanges/SenderColours" "words" "[J" ≠ Jvm.RoadKit.slotOf Z "com/example/copyspan/copyspan/exchanges/SenderColours" "touchedCount" "I" := slot_ne (t := .array (.long)) (t' := .int) (C := "com/example/copyspan/copyspan/exchanges/SenderColours") (Or.inr (w21 hw)) (Or.inl (w31 hw)) (by decide) (by decide) (by decide)
theorem sn_SenderColours_words_lowestUnused {Z : State} {a0 : Array Value} (hw : ∀ d ∈ tables_1, d.before a0 Z = true) : Jvm.RoadKit.slotOf Z "com/example/copyspan/copyspan/exchanges/SenderColours" "words" "[J" ≠ Jvm.RoadKit.slotOf Z "com/example/copyspan/copyspan/exchanges/SenderColours" "lowestUnused" "I" := slot_ne (t := .array (.long)) (t' := .int) (C := "com/example/copyspan/copyspan/exchanges/SenderColours") (Or.inr (w21 hw)) (Or.inl (w33 hw)) (by decide) (by decide) (by decide)
theorem sn_SenderColours_touched_palette {Z : State} {a0 : Array Value} (hw : ∀ d ∈ tables_1, d.before a0 Z = true) : Jvm.RoadKit.slotOf Z "com/example/copyspan/copyspan/exchanges/SenderColours" "touched" "[I" ≠ Jvm.RoadKit.slotOf Z "com/example/copyspan/copyspan/exchanges/SenderColours" "palette" "I" := slot_ne (t := .array (.int)) (t' := .int) (C := "com/example/copyspan/copyspan/exchanges/SenderColours") (Or.inr (w24 hw)) (Or.inr (w14 hw)) (by decide) (by decide) (by decide)
theorem sn_SenderColours_touched_words {Z : State} {a0 : Array Value} (hw : ∀ d ∈ tables_1, d.before a0 Z = true) : Jvm.RoadKit.slotOf Z "com/example/copyspan/copyspan/exchanges/SenderColours" "touched" "[I" ≠ Jvm.RoadKit.slotOf Z "com/example/copyspan/copyspan/exchanges/SenderColours" "words" "[J" := slot_ne (t := .array (.int)) (t' := .array (.long)) (C := "com/example/copyspan/copyspan/exchanges/SenderColours") (Or.inr (w24 hw)) (Or.inr (w21 hw)) (by decide) (by decide) (by decide)
theorem sn_SenderColours_touched_touchedCount {Z : State} {a0 : Array Value} (hw : ∀ d ∈ tables_1, d.before a0 Z = true) : Jvm.RoadKit.slotOf Z "com/example/copyspan/copyspan/exchanges/SenderColours" "touched" "[I" ≠ Jvm.RoadKit.slotOf Z "com/example/copyspan/copyspan/exchanges/SenderColours" "touchedCount" "I" := slot_ne (t := .array (.int)) (t' := .int) (C := "com/example/copyspan/copyspan/exchanges/SenderColours") (Or.inr (w24 hw)) (Or.inl (w31 hw)) (by decide) (by decide) (by decide)
theorem sn_SenderColours_touched_lowestUnused {Z : State} {a0 : Array Value} (hw : ∀ d ∈ tables_1, d.before a0 Z = true) : Jvm.RoadKit.slotOf Z "com/example/copyspan/copyspan/exchanges/SenderColours" "touched" "[I" ≠ Jvm.RoadKit.slotOf Z "com/example/copyspan/copyspan/exchanges/SenderColours" "lowestUnused" "I" := slot_ne (t := .array (.int)) (t' := .int) (C := "com/example/copyspan/copyspan/exchanges/SenderColours") (Or.inr (w24 hw)) (Or.inl (w33 hw)) (by decide) (by decide) (by decide)
theorem sn_SenderColours_touchedCount_palette {Z : State} {a0 : Array Value} (hw : ∀ d ∈ tables_1, d.before a0 Z = true) : Jvm.RoadKit.slotOf Z "com/example/copyspan/copyspan/exchanges/SenderColours" "touchedCount" "I" ≠ Jvm.RoadKit.slotOf Z "com/example/copyspan/copyspan/exchanges/SenderColours" "palette" "I" := slot_ne (t := .int) (t' := .int) (C := "com/example/copyspan/copyspan/exchanges/SenderColours") (Or.inl (w31 hw)) (Or.inr (w14 hw)) (by decide) (by decide) (by decide)
theorem sn_SenderColours_touchedCount_words {Z : State} {a0 : Array Value} (hw : ∀ d ∈ tables_1, d.before a0 Z = true) : Jvm.RoadKit.slotOf Z "com/example/copyspan/copyspan/exchanges/SenderColours" "touchedCount" "I" ≠ Jvm.RoadKit.slotOf Z "com/example/copyspan/copyspan/exchanges/SenderColours" "words" "[J" := slot_ne (t := .int) (t' := .array (.long)) (C := "com/example/copyspan/copyspan/exchanges/SenderColours") (Or.inl (w31 hw)) (Or.inr (w21 hw)) (by decide) (by decide) (by decide)
theorem sn_SenderColours_touchedCount_touched {Z : State} {a0 : Array Value} (hw : ∀ d ∈ tables_1, d.before a0 Z = true) : Jvm.RoadKit.slotOf Z "com/example/copyspan/copyspan/exchanges/SenderColours" "touchedCount" "I" ≠ Jvm.RoadKit.slotOf Z "com/example/copyspan/copyspan/exchanges/SenderColours" "touched" "[I" := slot_ne (t := .int) (t' := .array (.int)) (C := "com/example/copyspan/copyspan/exchanges/SenderColours") (Or.inl (w31 hw)) (Or.inr (w24 hw)) (by decide) (by decide) (by decide)
theorem sn_SenderColours_touchedCount_lowestUnused {Z : State} {a0 : Array Value} (hw : ∀ d ∈ tables_1, d.before a0 Z = true) : Jvm.RoadKit.slotOf Z "com/example/copyspan/copyspan/exchanges/SenderColours" "touchedCount" "I" ≠ Jvm.RoadKit.slotOf Z "com/example/copyspan/copyspan/exchanges/SenderColours" "lowestUnused" "I" := slot_ne (t := .int) (t' := .int) (C := "com/example/copyspan/copyspan/exchanges/SenderColours") (Or.inl (w31 hw)) (Or.inl (w33 hw)) (by decide) (by decide) (by decide)
theorem sn_SenderColours_lowestUnused_palette {Z : State} {a0 : Array Value} (hw : ∀ d ∈ tables_1, d.before a0 Z = true) : Jvm.RoadKit.slotOf Z "com/example/copyspan/copyspan/exchanges/SenderColours" "lowestUnused" "I" ≠ Jvm.RoadKit.slotOf Z "com/example/copyspan/copyspan/exchanges/SenderColours" "palette" "I" := slot_ne (t := .int) (t' := .int) (C := "com/example/copyspan/copyspan/exchanges/SenderColours") (Or.inl (w33 hw)) (Or.inr (w14 hw)) (by decide) (by decide) (by decide)
theorem sn_SenderColours_lowestUnused_words {Z : State} {a0 : Array Value} (hw : ∀ d ∈ tables_1, d.before a0 Z = true) : Jvm.RoadKit.slotOf Z "com/example/copyspan/copyspan/exchanges/SenderColours" "lowestUnused" "I" ≠ Jvm.RoadKit.slotOf Z "com/example/copyspan/copyspan/exchanges/SenderColours" "words" "[J" := slot_ne (t := .int) (t' := .array (.long)) (C := "com/example/copyspan/copyspan/exchanges/SenderColours") (Or.inl (w33 hw)) (Or.inr (w21 hw)) (by decide) (by decide) (by decide)
theorem sn_SenderColours_lowestUnused_touched {Z : State} {a0 : Array Value} (hw : ∀ d ∈ tables_1, d.before a0 Z = true) : Jvm.RoadKit.slotOf Z "com/example/copyspan/copyspan/exchanges/SenderColours" "lowestUnused" "I" ≠ Jvm.RoadKit.slotOf Z "com/example/copyspan/copyspan/exchanges/SenderColours" "touched" "[I" := slot_ne (t := .int) (t' := .array (.int)) (C := "com/example/copyspan/copyspan/exchanges/SenderColours") (Or.inl (w33 hw)) (Or.inr (w24 hw)) (by decide) (by decide) (by decide)
theorem sn_SenderColours_lowestUnused_touchedCount {Z : State} {a0 : Array Value} (hw : ∀ d ∈ tables_1, d.before a0 Z = true) : Jvm.RoadKit.slotOf Z "com/example/copyspan/copyspan/exchanges/SenderColours" "lowestUnused" "I" ≠ Jvm.RoadKit.slotOf Z "com/example/copyspan/copyspan/exchanges/SenderColours" "touchedCount" "I" := slot_ne (t := .int) (t' := .int) (C := "com/example/copyspan/copyspan/exchanges/SenderColours") (Or.inl (w33 hw)) (Or.inl (w31 hw)) (by decide) (by decide) (by decide)
def own_b (k : Nat) : Int64 := 1 <<< (Int64.ofBitVec (BitVec.ofNat 64 k))
def own_bit (c : Int32) : Int64 := 1 <<< ((c % 64) &&& 0x3f).toInt64
theorem own_b_ne : ∀ k : Fin 64, own_b k.val ≠ 0 := by decide +kernel
theorem own_b_and : ∀ j k : Fin 64, own_b j.val &&& own_b k.val ≠ 0 ↔ j = k := by decide +kernel
theorem own_b_neg : ∀ k : Fin 64, ((((1 : Int64) <<< (Int64.ofBitVec (BitVec.ofNat 64 k.val))) - (1 : Int64)) ^^^ (-1 : Int64) : Int64) = (-1 : Int64) <<< (Int64.ofBitVec (BitVec.ofNat 64 k.val)) := by decide +kernel
theorem own_bv (q : Int32) (h : 0 ≤ q.toInt) : (q.toBitVec.toNat : Int) = q.toInt := by
  have e : q.toBitVec.toInt = q.toInt := rfl
  rw [BitVec.toInt_eq_toNat_cond] at e
  have := q.toBitVec.isLt
  split at e <;> omega
theorem own_sh (x : Int64) (q : Int32) (k : Nat) (hq : q.toInt = k) (hk : k < 64) : x <<< (q &&& 0x3f).toInt64 = x <<< (Int64.ofBitVec (BitVec.ofNat 64 k)) := by
  have e := own_bv q (by omega)
  have e2 := (sm64 q k (by omega)).1
  have e3 : (q &&& 0x3f).toInt64 = Int64.ofBitVec (BitVec.ofNat 64 k) := Int64.toBitVec_inj.mp e2
  rw [e3]
theorem own_m64 (c : Int32) (h : 0 ≤ c.toInt) : (c % 64).toInt = c.toInt % 64 ∧ (c / 64).toInt = c.toInt / 64 :=
  ⟨(c_irem c 64 64 rfl).1 h, (c_idiv c 64 64 rfl (by decide)).1 h⟩
theorem own_bit_b (c : Int32) (h : 0 ≤ c.toInt) : own_bit c = own_b (c.toInt % 64).toNat := by
  have e := (own_m64 c h).1
  exact own_sh 1 (c % 64) _ (by omega) (by omega)
theorem own_bit_ne (c : Int32) (h : 0 ≤ c.toInt) : own_bit c ≠ 0 := by
  rw [own_bit_b c h]; exact own_b_ne ⟨(c.toInt % 64).toNat, by omega⟩
theorem own_or_ne (x : Int64) (y : Int64) (h : y ≠ 0) : x ||| y ≠ 0 := fun e => h (by
  apply Int64.toBitVec_inj.mp
  have e2 : x.toBitVec ||| y.toBitVec = 0#64 := congrArg Int64.toBitVec e
  exact (BitVec.or_eq_zero_iff.mp e2).2)
def own_used (w : Nat → Int64) (k : Int32) : Prop := w (k / 64).toInt.toNat &&& own_bit k ≠ 0
def own_add (w : Nat → Int64) (c : Int32) : Nat → Int64 := upd w (c / 64).toInt.toNat (w (c / 64).toInt.toNat ||| own_bit c)
def own_cnt (w : Nat → Int64) : Nat → Nat
  | 0 => 0
  | n + 1 => own_cnt w n + (if w n = 0 then 0 else 1)
theorem own_cnt_le (w : Nat → Int64) : ∀ n, own_cnt w n ≤ n
  | 0 => Nat.le_refl _
  | n + 1 => by have := own_cnt_le w n; simp only [own_cnt]; split <;> omega
theorem own_cnt_congr {w w' : Nat → Int64} : ∀ n, (∀ i, i < n → (w i = 0 ↔ w' i = 0)) → own_cnt w n = own_cnt w' n
  | 0, _ => rfl
  | n + 1, h => by
    have e := own_cnt_congr (w := w) (w' := w') n (fun i hi => h i (by omega))
    have q := h n (by omega)
    simp only [own_cnt, e, q]
theorem own_cnt_lt (w : Nat → Int64) : ∀ n i, i < n → w i = 0 → own_cnt w n < n
  | 0, i, h, _ => absurd h (Nat.not_lt_zero _)
  | n + 1, i, h, h0 => by
    by_cases q : i = n
    · subst q; have := own_cnt_le w i; simp only [own_cnt, h0, if_true]; omega
    · have := own_cnt_lt w n i (by omega) h0; simp only [own_cnt]; split <;> omega
theorem own_cnt_upd (w : Nat → Int64) (x : Int64) (hx : x ≠ 0) : ∀ n i, i < n → w i = 0 → own_cnt (upd w i x) n = own_cnt w n + 1
  | 0, i, h, _ => absurd h (Nat.not_lt_zero _)
  | n + 1, i, h, h0 => by
    by_cases q : i = n
    · subst q
      have e : own_cnt (upd w i x) i = own_cnt w i := own_cnt_congr i (fun j hj => by rw [upd_ne _ _ _ _ (by omega)])
      simp only [own_cnt, upd_at, hx, if_false, h0, if_true, e]
    · have e := own_cnt_upd w x hx n i (by omega) h0
      simp only [own_cnt, e, upd_ne _ _ _ _ (Ne.symm q)]; omega
theorem own_cnt_same (w : Nat → Int64) (x : Int64) (hx : x ≠ 0) (n i : Nat) (h0 : w i ≠ 0) : own_cnt (upd w i x) n = own_cnt w n :=
  own_cnt_congr n (fun j hj => by
    by_cases q : j = i
    · subst q; rw [upd_at]; exact ⟨fun e => absurd e hx, fun e => absurd e h0⟩
    · rw [upd_ne _ _ _ _ q])
theorem own_cnt_zero : ∀ n, own_cnt (fun _ => 0) n = 0
  | 0 => rfl
  | n + 1 => by simp only [own_cnt, own_cnt_zero n, if_true]
theorem own_len (n : Nat) (h : n ≤ 1000) : (Nat.toInt32 n).toInt = n := Int32.toInt_ofNat_of_lt (by omega)
def own_msk (p : Int32) (n : Nat) (k : Int32) : Int64 := if k.toInt = (n : Int) - 1 ∧ p % 64 ≠ 0 then (-1) <<< ((p % 64) &&& 0x3f).toInt64 else 0
def own_SC (Z : State) (n0 : Nat) (h : Heap) (o : Addr) (p lu : Int32) (n : Nat) (w : Nat → Int64) : Prop :=
  ∃ (aw ta : Addr) (tc : Int32) (t : Nat → Int32), Exa Z h o "com/example/copyspan/copyspan/exchanges/SenderColours" ∧ Fld Z h o "com/example/copyspan/copyspan/exchanges/SenderColours" "palette" "I" (.int p) ∧ Fld Z h o "com/example/copyspan/copyspan/exchanges/SenderColours" "words" "[J" (.ref aw) ∧ Fld Z h o "com/example/copyspan/copyspan/exchanges/SenderColours" "touched" "[I" (.ref ta) ∧ Fld Z h o "com/example/copyspan/copyspan/exchanges/SenderColours" "touchedCount" "I" (.int tc) ∧ Fld Z h o "com/example/copyspan/copyspan/exchanges/SenderColours" "lowestUnused" "I" (.int lu) ∧
    AJ Z h aw n w ∧ AI Z h ta n t ∧ o ≠ aw ∧ o ≠ ta ∧ aw ≠ ta ∧ n0 ≤ o ∧ n0 ≤ aw ∧ n0 ≤ ta ∧ tc.toInt = own_cnt w n ∧ (∀ i, i < n → w i ≠ 0 → ∃ k, k < own_cnt w n ∧ (t k).toInt = i) ∧ (∀ k, k < own_cnt w n → 0 ≤ (t k).toInt ∧ (t k).toInt < n)
theorem own_SC.exa {Z : State} {n0 : Nat} {h : Heap} {o : Addr} {p lu : Int32} {n : Nat} {w : Nat → Int64} (S : own_SC Z n0 h o p lu n w) : Exa Z h o "com/example/copyspan/copyspan/exchanges/SenderColours" := by
  obtain ⟨_, _, _, _, E, -⟩ := S; exact E
theorem own_SC_lu {Z : State} {a0 : Array Value} (hw : ∀ d ∈ tables_1, d.before a0 Z = true) {n0 : Nat} {h h' : Heap} {o : Addr} {p lu lv : Int32} {n : Nat} {w : Nat → Int64} (S : own_SC Z n0 h o p lu n w) (W : Wr h h' o (Jvm.RoadKit.slotOf Z "com/example/copyspan/copyspan/exchanges/SenderColours" "lowestUnused" "I") (.int lv)) : own_SC Z n0 h' o p lv n w := by
  obtain ⟨aw, ta, tc, t, E_o, F_o_palette, F_o_words, F_o_touched, F_o_touchedCount, F_o_lowestUnused, AW, AT, o1, o2, o3, r⟩ := S
  have E_o := E_o.wr W
  have F_o_palette := F_o_palette.other W (Or.inr (sn_SenderColours_palette_lowestUnused hw))
  have F_o_words := F_o_words.other W (Or.inr (sn_SenderColours_words_lowestUnused hw))
  have F_o_touched := F_o_touched.other W (Or.inr (sn_SenderColours_touched_lowestUnused hw))
  have F_o_touchedCount := F_o_touchedCount.other W (Or.inr (sn_SenderColours_touchedCount_lowestUnused hw))
  have F_o_lowestUnused := F_o_lowestUnused.same W
  exact ⟨aw, ta, tc, t, E_o, F_o_palette, F_o_words, F_o_touched, F_o_touchedCount, F_o_lowestUnused, AW.other W (Ne.symm o1), AT.other W (Ne.symm o2), o1, o2, o3, r⟩
theorem own_c2 {w : Nat → Int64} {t : Nat → Int32} {n i : Nat} {x : Int64} (hx : x ≠ 0) (hi : i < n) (h0 : w i ≠ 0) (c2 : ∀ i, i < n → w i ≠ 0 → ∃ k, k < own_cnt w n ∧ (t k).toInt = i) (c3 : ∀ k, k < own_cnt w n → 0 ≤ (t k).toInt ∧ (t k).toInt < n) :
    (∀ j, j < n → upd w i x j ≠ 0 → ∃ k, k < own_cnt (upd w i x) n ∧ (t k).toInt = j) ∧ (∀ k, k < own_cnt (upd w i x) n → 0 ≤ (t k).toInt ∧ (t k).toInt < n) := by
  rw [own_cnt_same w x hx n i h0]
  refine ⟨fun j hj hne => ?_, c3⟩
  by_cases q : j = i
  · subst q; exact c2 j hj h0
  · rw [upd_ne _ _ _ _ q] at hne; exact c2 j hj hne
theorem own_c2n {w : Nat → Int64} {t : Nat → Int32} {n i : Nat} {x : Int64} {v : Int32} (hx : x ≠ 0) (hi : i < n) (h0 : w i = 0) (hv : v.toInt = i) (c2 : ∀ i, i < n → w i ≠ 0 → ∃ k, k < own_cnt w n ∧ (t k).toInt = i) (c3 : ∀ k, k < own_cnt w n → 0 ≤ (t k).toInt ∧ (t k).toInt < n) :
    (∀ j, j < n → upd w i x j ≠ 0 → ∃ k, k < own_cnt (upd w i x) n ∧ (upd t (own_cnt w n) v k).toInt = j) ∧ (∀ k, k < own_cnt (upd w i x) n → 0 ≤ (upd t (own_cnt w n) v k).toInt ∧ (upd t (own_cnt w n) v k).toInt < n) := by
  rw [own_cnt_upd w x hx n i hi h0]
  refine ⟨fun j hj hne => ?_, fun k hk => ?_⟩
  · by_cases q : j = i
    · subst q; exact ⟨own_cnt w n, by omega, by rw [upd_at]; exact hv⟩
    · rw [upd_ne _ _ _ _ q] at hne
      obtain ⟨k, k1, k2⟩ := c2 j hj hne
      exact ⟨k, by omega, by rw [upd_ne _ _ _ _ (by omega)]; exact k2⟩
  · by_cases q : k = own_cnt w n
    · subst q; rw [upd_at]; omega
    · rw [upd_ne _ _ _ _ q]; exact c3 k (by omega)
set_option maxRecDepth 65536 in
set_option maxHeartbeats 4000000 in
theorem rmW (l : Launch) (Z : State) (a0 : Array Value) (hw : ∀ d ∈ tables_1, d.before a0 Z = true) (n0 : Nat) (h : Heap) (p : Int32) (hp : 0 ≤ p.toInt ∧ p.toInt ≤ 256) : Con l (⟨"com/example/copyspan/copyspan/exchanges/SenderColours", "wordCount", "(I)I"⟩ : MethodName) prog_28_method_2_code 1 (some .int) [] ({ frames := 0, cells := 0, slots := 0, locals := 0 } : Room) Z n0 #[.int p] h (qI fun z h' => z.toInt = (p.toInt + 63) / 64 ∧ h' = h) := by
  refine con_of_go (Ls := [.val (.int p)]) (plainFor_of_name (by first | (simp [plainName, overriddenIn]; done) | decide +kernel)) (fun m => by first | (simp [entryFrame, mkF, argsToLocals, Value.category]; done) | rfl) ?_
  intro K hl hK
  subst hl
  change Cx K Z "com/example/copyspan/copyspan/exchanges/SenderColours" prog_28_method_2_code 1 (some .int) "wordCount" at hK
  have L1 := c_i2l p
  have n1 := c_ladd p.toInt64 64
  have n1r := rng64 (p.toInt64 + 64)
  have n2 := c_lsub (p.toInt64 + 64) 1
  have n2r := rng64 (p.toInt64 + 64 - 1)
  simp only [Int64.reduceToInt] at n1 n2
  have n3 := (c_ldiv (p.toInt64 + 64 - 1) 64 64 rfl (by decide)).1 (by omega)
  have n4 := c_l2i ((p.toInt64 + 64 - 1) / 64)
  have n4r := rng32 (((p.toInt64 + 64 - 1) / 64).toInt32)
  refine g_iloadN (pc := 0) hK d3_0 rfl ?_
  refine g_i2l (pc := 1) hK d3_1 ?_
  refine g_ldc2 (pc := 2) hK (w18 hw) d3_2 ?_
  refine g_ladd (pc := 5) hK d3_5 ?_
  refine g_lconst (pc := 6) (z := (1 : Int64)) hK d3_6 (by decide) ?_
  refine g_lsub (pc := 7) hK d3_7 ?_
  refine g_ldc2 (pc := 8) hK (w18 hw) d3_8 ?_
  refine g_ldiv (pc := 11) hK d3_11 (by decide) ?_
  refine g_l2i (pc := 12) hK d3_12 ?_
  exact g_ireturn (pc := 13) hK d3_13 rfl ⟨by omega, rfl⟩
set_option maxRecDepth 65536 in
set_option maxHeartbeats 4000000 in
theorem rmN (l : Launch) (Z : State) (a0 : Array Value) (hw : ∀ d ∈ tables_1, d.before a0 Z = true) (n0 : Nat) (h : Heap) (o : Addr) (go : n0 ≤ o) (P : Int64) (hP : 1 ≤ P.toInt ∧ P.toInt ≤ 256) (E_o : Exa Z h o "com/example/copyspan/copyspan/exchanges/SenderColours") (F_o_palette : Fld Z h o "com/example/copyspan/copyspan/exchanges/SenderColours" "palette" "I" (.int 0)) (F_o_words : Fld Z h o "com/example/copyspan/copyspan/exchanges/SenderColours" "words" "[J" .null) (F_o_touched : Fld Z h o "com/example/copyspan/copyspan/exchanges/SenderColours" "touched" "[I" .null) (F_o_touchedCount : Fld Z h o "com/example/copyspan/copyspan/exchanges/SenderColours" "touchedCount" "I" (.int 0)) (F_o_lowestUnused : Fld Z h o "com/example/copyspan/copyspan/exchanges/SenderColours" "lowestUnused" "I" (.int 0)) : Con l (⟨"com/example/copyspan/copyspan/exchanges/SenderColours", "<init>", "(J)V"⟩ : MethodName) prog_28_method_1_code 3 none [] ({ frames := 1, cells := 2, slots := 8, locals := 20 } : Room) Z n0 #[.ref o, .long P] h (qV fun h' => own_SC Z n0 h' o P.toInt32 0 ((P.toInt + 63) / 64).toNat (fun _ => 0)) := by
  refine con_of_go (Ls := [.val (.ref o), .val (.long P), .second]) (plainFor_of_name (by first | (simp [plainName, overriddenIn]; done) | decide +kernel)) (fun m => by first | (simp [entryFrame, mkF, argsToLocals, Value.category]; done) | rfl) ?_
  intro K hl hK
  subst hl
  change Cx K Z "com/example/copyspan/copyspan/exchanges/SenderColours" prog_28_method_1_code 3 none "<init>" at hK
  have L0 := c_l2i P
  have L1 := rng32 P.toInt32
  have eP : P.toInt32.toInt = P.toInt := by omega
  refine g_aloadN (pc := 0) hK d1_0 rfl ?_
  refine g_objinit (pc := 1) hK 2 (w9 hw) (w10 hw) (w11 hw) d1_1 rfl rfl ?_
  refine g_lloadN (pc := 4) hK d1_4 rfl ?_
  refine g_ldc2 (pc := 5) hK (w12 hw) d1_5 ?_
  refine gY_lif_le (pc := 8) (pc' := 22) hK d1_8 d1_9 (by decide) (by simp only [Int64.reduceToInt]; omega) ?_
  refine g_aloadN (pc := 22) hK d1_22 rfl ?_
  refine g_lloadN (pc := 23) hK d1_23 rfl ?_
  refine g_l2i (pc := 24) hK d1_24 ?_
  refine g_put (pc := 25) (ty := .int) hK (w13 hw) (Or.inr ⟨(w14 hw), rfl, rfl⟩) (w4 hw) d1_25 (by assumption) (by assumption) (by assumption) (by decide) rfl rfl (fun h25 W25 => ?_)
  have E_o := E_o.wr W25
  have F_o_palette := F_o_palette.same W25
  have F_o_words := F_o_words.other W25 (Or.inr (sn_SenderColours_words_palette hw))
  have F_o_touched := F_o_touched.other W25 (Or.inr (sn_SenderColours_touched_palette hw))
  have F_o_touchedCount := F_o_touchedCount.other W25 (Or.inr (sn_SenderColours_touchedCount_palette hw))
  have F_o_lowestUnused := F_o_lowestUnused.other W25 (Or.inr (sn_SenderColours_lowestUnused_palette hw))
  refine g_aloadN (pc := 28) hK d1_28 rfl ?_
  refine g_aloadN (pc := 29) hK d1_29 rfl ?_
  refine g_get (pc := 30) hK (w13 hw) d1_30 (by assumption) ?_
  refine g_static_1I (pc := 33) hK 4 d1_33 (w15 hw) (w16 hw) (w5 hw) (w17 hw) (by decide) (rmW _ Z a0 hw n0 _ _ (by omega)) pd_0 rfl rfl rfl (fun z33 h33 q33 gr33 => ?_)
  obtain ⟨ez, rfl⟩ := q33
  refine gA_newJ (pc := 36) hK 4 (w19 hw) d1_36 (by omega) (by omega) rfl (fun h36 o36 ea36 X36 A36 => ?_)
  have sz := E_o.lt
  have o1 : o ≠ o36 := by rw [ea36]; exact Nat.ne_of_lt sz
  have g2 : n0 ≤ o36 := by rw [ea36]; exact Nat.le_trans go (Nat.le_of_lt sz)
  have AW := A36
  have E_o := E_o.ext X36
  have F_o_palette := F_o_palette.ext X36
  have F_o_words := F_o_words.ext X36
  have F_o_touched := F_o_touched.ext X36
  have F_o_touchedCount := F_o_touchedCount.ext X36
  have F_o_lowestUnused := F_o_lowestUnused.ext X36
  refine g_put (pc := 38) (ty := .array (.long)) hK (w20 hw) (Or.inr ⟨(w21 hw), rfl, rfl⟩) (w4 hw) d1_38 (by assumption) (by assumption) (by assumption) (by decide) rfl rfl (fun h38 W38 => ?_)
  have E_o := E_o.wr W38
  have F_o_palette := F_o_palette.other W38 (Or.inr (sn_SenderColours_palette_words hw))
  have F_o_words := F_o_words.same W38
  have F_o_touched := F_o_touched.other W38 (Or.inr (sn_SenderColours_touched_words hw))
  have F_o_touchedCount := F_o_touchedCount.other W38 (Or.inr (sn_SenderColours_touchedCount_words hw))
  have F_o_lowestUnused := F_o_lowestUnused.other W38 (Or.inr (sn_SenderColours_lowestUnused_words hw))
  have AW := AW.other W38 (Ne.symm o1)
  refine g_aloadN (pc := 41) hK d1_41 rfl ?_
  refine g_aloadN (pc := 42) hK d1_42 rfl ?_
  refine g_get (pc := 43) hK (w20 hw) d1_43 (by assumption) ?_
  refine gA_lenJ (pc := 46) hK AW (z := z33) (Int32.toInt_inj.mp (by rw [own_len _ (by omega)]; omega)) d1_46 ?_
  refine gA_newI (pc := 47) hK 4 (w22 hw) d1_47 (by omega) (by omega) rfl (fun h47 o47 ea47 X47 A47 => ?_)
  have o2 : o ≠ o47 := by rw [ea47]; exact Nat.ne_of_lt E_o.lt
  have o3 : o36 ≠ o47 := by rw [ea47]; exact Nat.ne_of_lt AW.lt
  have g3 : n0 ≤ o47 := by rw [ea47]; exact Nat.le_trans go (Nat.le_of_lt E_o.lt)
  have AT := A47
  have AW := AW.ext X47
  have E_o := E_o.ext X47
  have F_o_palette := F_o_palette.ext X47
  have F_o_words := F_o_words.ext X47
  have F_o_touched := F_o_touched.ext X47
  have F_o_touchedCount := F_o_touchedCount.ext X47
  have F_o_lowestUnused := F_o_lowestUnused.ext X47
  refine g_put (pc := 49) (ty := .array (.int)) hK (w23 hw) (Or.inr ⟨(w24 hw), rfl, rfl⟩) (w4 hw) d1_49 (by assumption) (by assumption) (by assumption) (by decide) rfl rfl (fun h49 W49 => ?_)
  have E_o := E_o.wr W49
  have F_o_palette := F_o_palette.other W49 (Or.inr (sn_SenderColours_palette_touched hw))
  have F_o_words := F_o_words.other W49 (Or.inr (sn_SenderColours_words_touched hw))
  have F_o_touched := F_o_touched.same W49
  have F_o_touchedCount := F_o_touchedCount.other W49 (Or.inr (sn_SenderColours_touchedCount_touched hw))
  have F_o_lowestUnused := F_o_lowestUnused.other W49 (Or.inr (sn_SenderColours_lowestUnused_touched hw))
  have AW := AW.other W49 (Ne.symm o1)
  have AT := AT.other W49 (Ne.symm o2)
  have en : z33.toInt.toNat = ((P.toInt + 63) / 64).toNat := by rw [ez, eP]
  rw [en] at AW AT
  exact g_return (pc := 52) hK d1_52 rfl ⟨o36, o47, 0, fun _ => 0, E_o, F_o_palette, F_o_words, F_o_touched, F_o_touchedCount, F_o_lowestUnused, AW, AT, o1, o2, o3, go, g2, g3, by rw [own_cnt_zero]; rfl, fun i _ q => absurd rfl q, fun k q => by rw [own_cnt_zero] at q; exact absurd q (Nat.not_lt_zero _)⟩
set_option maxRecDepth 65536 in
set_option maxHeartbeats 4000000 in
theorem rmD (l : Launch) (Z : State) (a0 : Array Value) (hw : ∀ d ∈ tables_1, d.before a0 Z = true) (n0 : Nat) (h : Heap) (o aw : Addr) (n : Nat) (w : Nat → Int64) (i : Int32) (hi : 0 ≤ i.toInt ∧ i.toInt < 64 * (n : Int)) (F : Fld Z h o "com/example/copyspan/copyspan/exchanges/SenderColours" "words" "[J" (.ref aw)) (A : AJ Z h aw n w) : Con l (⟨"com/example/copyspan/copyspan/exchanges/SenderColours", "used", "(I)Z"⟩ : MethodName) prog_28_method_5_code 2 (some .boolean) [] ({ frames := 0, cells := 0, slots := 0, locals := 0 } : Room) Z n0 #[.ref o, .int i] h (qI fun z h' => ((z = 1 ∧ own_used w i) ∨ (z = 0 ∧ ¬ own_used w i)) ∧ h' = h) := by
  refine con_of_go (Ls := [.val (.ref o), .val (.int i)]) (plainFor_of_name (by first | (simp [plainName, overriddenIn]; done) | decide +kernel)) (fun m => by first | (simp [entryFrame, mkF, argsToLocals, Value.category]; done) | rfl) ?_
  intro K hl hK
  subst hl
  change Cx K Z "com/example/copyspan/copyspan/exchanges/SenderColours" prog_28_method_5_code 2 (some .boolean) "used" at hK
  obtain ⟨d1, d2⟩ := own_m64 i hi.1
  refine g_aloadN (pc := 0) hK d10_0 rfl ?_
  refine g_get (pc := 1) hK (w20 hw) d10_1 F ?_
  refine g_iloadN (pc := 4) hK d10_4 rfl ?_
  refine g_bipush (pc := 5) (z := (64 : Int32)) hK d10_5 (by decide) ?_
  refine g_idiv (pc := 7) hK d10_7 (by decide) ?_
  refine gA_laload (pc := 8) hK A (by omega) rfl d10_8 ?_
  refine g_lconst (pc := 9) (z := (1 : Int64)) hK d10_9 (by decide) ?_
  refine g_iloadN (pc := 10) hK d10_10 rfl ?_
  refine g_bipush (pc := 11) (z := (64 : Int32)) hK d10_11 (by decide) ?_
  refine g_irem (pc := 13) hK d10_13 (by decide) ?_
  refine g_lshl (pc := 14) hK d10_14 ?_
  refine g_land (pc := 15) hK d10_15 ?_
  refine g_lconst (pc := 16) (z := (0 : Int64)) hK d10_16 (by decide) ?_
  refine g_lif_eq (pc := 17) (pc' := 25) hK d10_17 d10_18 (by decide) (fun b17 => ?_) (fun b17 => ?_)
  · refine g_iconst (pc := 25) (z := (0 : Int32)) hK d10_25 (by decide) ?_
    exact g_zreturn (pc := 26) hK d10_26 (by first | rfl | decide) rfl ⟨Or.inr ⟨rfl, fun q => q b17⟩, rfl⟩
  · refine g_iconst (pc := 21) (z := (1 : Int32)) hK d10_21 (by decide) ?_
    refine g_goto (pc := 22) (pc' := 26) hK d10_22 (by decide) ?_
    exact g_zreturn (pc := 26) hK d10_26 (by first | rfl | decide) rfl ⟨Or.inl ⟨rfl, b17⟩, rfl⟩
set_option maxRecDepth 65536 in
set_option maxHeartbeats 4000000 in
theorem rmK (l : Launch) (Z : State) (a0 : Array Value) (hw : ∀ d ∈ tables_1, d.before a0 Z = true) (n0 : Nat) (h : Heap) (o : Addr) (p lu : Int32) (n : Nat) (w : Nat → Int64) (k : Int32) (hn : n ≤ 1000) (hk : 0 ≤ k.toInt ∧ k.toInt < n) (hS : own_SC Z n0 h o p lu n w) : Con l (⟨"com/example/copyspan/copyspan/exchanges/SenderColours", "usedIn", "(I)J"⟩ : MethodName) prog_28_method_7_code 4 (some .long) [] ({ frames := 0, cells := 0, slots := 0, locals := 0 } : Room) Z n0 #[.ref o, .int k] h (qJ fun z h' => z = w k.toInt.toNat ||| own_msk p n k ∧ h' = h) := by
  refine con_of_go (Ls := [.val (.ref o), .val (.int k), .unset, .unset]) (plainFor_of_name (by first | (simp [plainName, overriddenIn]; done) | decide +kernel)) (fun m => by first | (simp [entryFrame, mkF, argsToLocals, Value.category]; done) | rfl) ?_
  intro K hl hK
  subst hl
  change Cx K Z "com/example/copyspan/copyspan/exchanges/SenderColours" prog_28_method_7_code 4 (some .long) "usedIn" at hK
  obtain ⟨aw, ta, tc, t, E_o, F_o_palette, F_o_words, F_o_touched, F_o_touchedCount, F_o_lowestUnused, AW, AT, o1, o2, o3, g1, g2, g3, c1, c2, c3⟩ := hS
  have el := own_len n hn
  have es := c_isub (Nat.toInt32 n) 1
  have er := rng32 (Nat.toInt32 n - 1)
  simp only [Int32.reduceToInt] at es
  have ee : (Nat.toInt32 n - 1).toInt = (n : Int) - 1 := by omega
  refine g_iloadN (pc := 0) hK d7_0 rfl ?_
  refine g_aloadN (pc := 1) hK d7_1 rfl ?_
  refine g_get (pc := 2) hK (w20 hw) d7_2 (by assumption) ?_
  refine gA_lenJ (pc := 5) hK AW rfl d7_5 ?_
  refine g_iconst (pc := 6) (z := (1 : Int32)) hK d7_6 (by decide) ?_
  refine g_isub (pc := 7) hK d7_7 ?_
  refine g_icmp_ne (pc := 8) (pc' := 35) hK d7_8 (by decide) (fun b8 => ?_) (fun b8 => ?_)
  · refine g_lconst (pc := 35) (z := (0 : Int64)) hK d7_35 (by decide) ?_
    refine g_lstore_2 (pc := 36) hK d7_36 rfl ?_
    refine g_aloadN (pc := 37) hK d7_37 rfl ?_
    refine g_get (pc := 38) hK (w20 hw) d7_38 (by assumption) ?_
    refine g_iloadN (pc := 41) hK d7_41 rfl ?_
    refine gA_laload (pc := 42) hK AW hk rfl d7_42 ?_
    refine g_lloadN (pc := 43) hK d7_43 rfl ?_
    refine g_lor (pc := 44) hK d7_44 ?_
    exact g_lreturn (pc := 45) hK d7_45 rfl ⟨by rw [own_msk, if_neg (fun q => b8 (Int32.toInt_inj.mp (by omega)))], rfl⟩
  · refine g_aloadN (pc := 11) hK d7_11 rfl ?_
    refine g_get (pc := 12) hK (w13 hw) d7_12 (by assumption) ?_
    refine g_bipush (pc := 15) (z := (64 : Int32)) hK d7_15 (by decide) ?_
    refine g_irem (pc := 17) hK d7_17 (by decide) ?_
    refine g_if_eq (pc := 18) (pc' := 35) hK d7_18 (by decide) (fun b18 => ?_) (fun b18 => ?_)
    · refine g_lconst (pc := 35) (z := (0 : Int64)) hK d7_35 (by decide) ?_
      refine g_lstore_2 (pc := 36) hK d7_36 rfl ?_
      refine g_aloadN (pc := 37) hK d7_37 rfl ?_
      refine g_get (pc := 38) hK (w20 hw) d7_38 (by assumption) ?_
      refine g_iloadN (pc := 41) hK d7_41 rfl ?_
      refine gA_laload (pc := 42) hK AW hk rfl d7_42 ?_
      refine g_lloadN (pc := 43) hK d7_43 rfl ?_
      refine g_lor (pc := 44) hK d7_44 ?_
      exact g_lreturn (pc := 45) hK d7_45 rfl ⟨by rw [own_msk, if_neg (fun q => q.2 b18)], rfl⟩
    · refine g_ldc2 (pc := 21) hK (w48 hw) d7_21 ?_
      refine g_aloadN (pc := 24) hK d7_24 rfl ?_
      refine g_get (pc := 25) hK (w13 hw) d7_25 (by assumption) ?_
      refine g_bipush (pc := 28) (z := (64 : Int32)) hK d7_28 (by decide) ?_
      refine g_irem (pc := 30) hK d7_30 (by decide) ?_
      refine g_lshl (pc := 31) hK d7_31 ?_
      refine g_goto (pc := 32) (pc' := 36) hK d7_32 (by decide) ?_
      refine g_lstore_2 (pc := 36) hK d7_36 rfl ?_
      refine g_aloadN (pc := 37) hK d7_37 rfl ?_
      refine g_get (pc := 38) hK (w20 hw) d7_38 (by assumption) ?_
      refine g_iloadN (pc := 41) hK d7_41 rfl ?_
      refine gA_laload (pc := 42) hK AW hk rfl d7_42 ?_
      refine g_lloadN (pc := 43) hK d7_43 rfl ?_
      refine g_lor (pc := 44) hK d7_44 ?_
      exact g_lreturn (pc := 45) hK d7_45 rfl ⟨by rw [own_msk, if_pos ⟨by rw [b8]; omega, b18⟩], rfl⟩
set_option maxRecDepth 65536 in
set_option maxHeartbeats 4000000 in
theorem rmU (l : Launch) (Z : State) (a0 : Array Value) (hw : ∀ d ∈ tables_1, d.before a0 Z = true) (n0 : Nat) (h : Heap) (o : Addr) (p lu : Int32) (n : Nat) (w : Nat → Int64) (i : Int32) (hn : n ≤ 1000) (hp : p.toInt ≤ 64 * (n : Int)) (hi : 0 ≤ i.toInt ∧ i.toInt < p.toInt) (hl : 0 ≤ lu.toInt ∧ lu.toInt ≤ p.toInt) (hS : own_SC Z n0 h o p lu n w) : Con l (⟨"com/example/copyspan/copyspan/exchanges/SenderColours", "use", "(I)V"⟩ : MethodName) prog_28_method_6_code 3 none [] ({ frames := 1, cells := 0, slots := 0, locals := 20 } : Room) Z n0 #[.ref o, .int i] h (qV fun h' => ∃ lv, own_SC Z n0 h' o p lv n (own_add w i) ∧ lu.toInt ≤ lv.toInt ∧ lv.toInt ≤ p.toInt ∧ (∀ k : Int32, lu.toInt ≤ k.toInt → k.toInt < lv.toInt → own_used (own_add w i) k) ∧ (lv.toInt < p.toInt → ¬ own_used (own_add w i) lv)) := by
  refine con_of_go (Ls := [.val (.ref o), .val (.int i), .unset]) (plainFor_of_name (by first | (simp [plainName, overriddenIn]; done) | decide +kernel)) (fun m => by first | (simp [entryFrame, mkF, argsToLocals, Value.category]; done) | rfl) ?_
  intro K hl hK
  subst hl
  change Cx K Z "com/example/copyspan/copyspan/exchanges/SenderColours" prog_28_method_6_code 3 none "use" at hK
  obtain ⟨d1, d2⟩ := own_m64 i hi.1
  have LP : ∀ (m : Nat) (h1 : Heap) (lv : Int32), (p.toInt - lv.toInt).toNat < m → own_SC Z n0 h1 o p lv n (own_add w i) → lu.toInt ≤ lv.toInt → lv.toInt ≤ p.toInt → (∀ k : Int32, lu.toInt ≤ k.toInt → k.toInt < lv.toInt → own_used (own_add w i) k) → Go K ({ frames := 1, cells := 0, slots := 0, locals := 20 } : Room) n0 (nB (kS K) ({ frames := 1, cells := 0, slots := 0, locals := 20 } : Room)) (qV fun h' => ∃ lv, own_SC Z n0 h' o p lv n (own_add w i) ∧ lu.toInt ≤ lv.toInt ∧ lv.toInt ≤ p.toInt ∧ (∀ k : Int32, lu.toInt ≤ k.toInt → k.toInt < lv.toInt → own_used (own_add w i) k) ∧ (lv.toInt < p.toInt → ¬ own_used (own_add w i) lv)) h1 0 0 48 [.val (.ref o), .val (.int i), .val (.int (i / 64))] [] := by
    intro m
    induction m with
    | zero => intro h1 lv hm; exact absurd hm (Nat.not_lt_zero _)
    | succ m ih =>
      intro h1 lv hm hS l1 l2 l3
      have hS1 := hS
      obtain ⟨aw, ta, tc, t, E_o, F_o_palette, F_o_words, F_o_touched, F_o_touchedCount, F_o_lowestUnused, AW, AT, o1, o2, o3, g1, g2, g3, c1, c2, c3⟩ := hS
      refine g_aloadN (pc := 48) hK d9_48 rfl ?_
      refine g_get (pc := 49) hK (w32 hw) d9_49 (by assumption) ?_
      refine g_aloadN (pc := 52) hK d9_52 rfl ?_
      refine g_get (pc := 53) hK (w13 hw) d9_53 (by assumption) ?_
      refine g_icmp_ge (pc := 56) (pc' := 83) hK d9_56 (by decide) (fun b56 => ?_) (fun b56 => ?_)
      · exact g_return (pc := 83) hK d9_83 rfl ⟨lv, hS1, l1, l2, l3, fun q => absurd q (by omega)⟩
      · refine g_aloadN (pc := 59) hK d9_59 rfl ?_
        refine g_aloadN (pc := 60) hK d9_60 rfl ?_
        refine g_get (pc := 61) hK (w32 hw) d9_61 (by assumption) ?_
        refine g_virtual_1I (pc := 64) hK 4 d9_64 (w58 hw) (w59 hw) (w61 hw) (w60 hw) (w5 hw) (w62 hw) (by decide) E_o (rmD _ Z a0 hw n0 _ o aw n _ lv (by omega) F_o_words AW) pd_1 rfl rfl rfl (fun z64 h64 q64 gr64 => ?_)
        obtain ⟨q64, rfl⟩ := q64
        refine g_if_eq (pc := 67) (pc' := 83) hK d9_67 (by decide) (fun b67 => ?_) (fun b67 => ?_)
        · exact g_return (pc := 83) hK d9_83 rfl ⟨lv, hS1, l1, l2, l3, fun _ => by
              rcases q64 with ⟨q, r⟩ | ⟨q, r⟩
              · rw [b67] at q; exact absurd q (by decide)
              · exact r⟩
        · refine g_aloadN (pc := 70) hK d9_70 rfl ?_
          refine g_dup (pc := 71) hK d9_71 rfl ?_
          refine g_get (pc := 72) hK (w32 hw) d9_72 (by assumption) ?_
          refine g_iconst (pc := 75) (z := (1 : Int32)) hK d9_75 (by decide) ?_
          refine g_iadd (pc := 76) hK d9_76 ?_
          refine g_put (pc := 77) (ty := .int) hK (w32 hw) (Or.inl (w33 hw)) (w4 hw) d9_77 F_o_lowestUnused E_o g1 (by decide) rfl rfl (fun h77 W77 => ?_)
          have hS2 := own_SC_lu hw hS1 W77
          have e1 := c_iadd lv 1
          have e2 := rng32 (lv + 1)
          simp only [Int32.reduceToInt] at e1
          have hu : own_used (own_add w i) lv := by
            rcases q64 with ⟨q, r⟩ | ⟨q, r⟩
            · exact r
            · exact absurd q b67
          refine g_goto (pc := 80) (pc' := 48) hK d9_80 (by decide) ?_
          refine ih _ _ (by omega) hS2 (by omega) (by omega) (fun k k1 k2 => ?_)
          by_cases q : k.toInt < lv.toInt
          · exact l3 k k1 q
          · have : k = lv := Int32.toInt_inj.mp (by omega)
            rw [this]; exact hu
  have J : ∀ (h1 : Heap) (tc : Int32) (t : Nat → Int32) (aw ta : Addr), Exa Z h1 o "com/example/copyspan/copyspan/exchanges/SenderColours" → Fld Z h1 o "com/example/copyspan/copyspan/exchanges/SenderColours" "palette" "I" (.int p) → Fld Z h1 o "com/example/copyspan/copyspan/exchanges/SenderColours" "words" "[J" (.ref aw) → Fld Z h1 o "com/example/copyspan/copyspan/exchanges/SenderColours" "touched" "[I" (.ref ta) → Fld Z h1 o "com/example/copyspan/copyspan/exchanges/SenderColours" "touchedCount" "I" (.int tc) → Fld Z h1 o "com/example/copyspan/copyspan/exchanges/SenderColours" "lowestUnused" "I" (.int lu) → AJ Z h1 aw n w → AI Z h1 ta n t → o ≠ aw → o ≠ ta → aw ≠ ta → n0 ≤ o → n0 ≤ aw → n0 ≤ ta → tc.toInt = own_cnt (own_add w i) n → (∀ j, j < n → own_add w i j ≠ 0 → ∃ k, k < own_cnt (own_add w i) n ∧ (t k).toInt = j) → (∀ k, k < own_cnt (own_add w i) n → 0 ≤ (t k).toInt ∧ (t k).toInt < n) → Go K ({ frames := 1, cells := 0, slots := 0, locals := 20 } : Room) n0 (nB (kS K) ({ frames := 1, cells := 0, slots := 0, locals := 20 } : Room)) (qV fun h' => ∃ lv, own_SC Z n0 h' o p lv n (own_add w i) ∧ lu.toInt ≤ lv.toInt ∧ lv.toInt ≤ p.toInt ∧ (∀ k : Int32, lu.toInt ≤ k.toInt → k.toInt < lv.toInt → own_used (own_add w i) k) ∧ (lv.toInt < p.toInt → ¬ own_used (own_add w i) lv)) h1 0 0 33 [.val (.ref o), .val (.int i), .val (.int (i / 64))] [] := by
    intro h1 tc t aw ta E_o F_o_palette F_o_words F_o_touched F_o_touchedCount F_o_lowestUnused AW AT o1 o2 o3 g1 g2 g3 c1 c2 c3
    refine g_aloadN (pc := 33) hK d9_33 rfl ?_
    refine g_get (pc := 34) hK (w20 hw) d9_34 (by assumption) ?_
    refine g_iloadN (pc := 37) hK d9_37 rfl ?_
    refine g_dup2 (pc := 38) hK d9_38 rfl rfl ?_
    refine gA_laload (pc := 39) hK AW (by omega) rfl d9_39 ?_
    refine g_lconst (pc := 40) (z := (1 : Int64)) hK d9_40 (by decide) ?_
    refine g_iloadN (pc := 41) hK d9_41 rfl ?_
    refine g_bipush (pc := 42) (z := (64 : Int32)) hK d9_42 (by decide) ?_
    refine g_irem (pc := 44) hK d9_44 (by decide) ?_
    refine g_lshl (pc := 45) hK d9_45 ?_
    refine g_lor (pc := 46) hK d9_46 ?_
    refine gA_lastore (pc := 47) hK AW (by omega) g2 d9_47 (fun h47 W47 A47 => ?_)
    have E_o := E_o.wr W47
    have F_o_palette := F_o_palette.other W47 (Or.inl o1)
    have F_o_words := F_o_words.other W47 (Or.inl o1)
    have F_o_touched := F_o_touched.other W47 (Or.inl o1)
    have F_o_touchedCount := F_o_touchedCount.other W47 (Or.inl o1)
    have F_o_lowestUnused := F_o_lowestUnused.other W47 (Or.inl o1)
    have AW : AJ Z h47 aw n (own_add w i) := A47
    have AT := AT.other W47 (Ne.symm o3)
    exact LP _ h47 lu (Nat.lt_succ_self _) ⟨aw, ta, tc, t, E_o, F_o_palette, F_o_words, F_o_touched, F_o_touchedCount, F_o_lowestUnused, AW, AT, o1, o2, o3, g1, g2, g3, c1, c2, c3⟩ (Int.le_refl _) hl.2 (fun k k1 k2 => absurd k2 (by omega))
  obtain ⟨aw, ta, tc, t, E_o, F_o_palette, F_o_words, F_o_touched, F_o_touchedCount, F_o_lowestUnused, AW, AT, o1, o2, o3, g1, g2, g3, c1, c2, c3⟩ := hS
  have hb : w (i / 64).toInt.toNat ||| own_bit i ≠ 0 := own_or_ne _ _ (own_bit_ne i hi.1)
  have hin : (i / 64).toInt.toNat < n := by omega
  refine g_iloadN (pc := 0) hK d9_0 rfl ?_
  refine g_bipush (pc := 1) (z := (64 : Int32)) hK d9_1 (by decide) ?_
  refine g_idiv (pc := 3) hK d9_3 (by decide) ?_
  refine g_istore_2 (pc := 4) hK d9_4 rfl ?_
  refine g_aloadN (pc := 5) hK d9_5 rfl ?_
  refine g_get (pc := 6) hK (w20 hw) d9_6 (by assumption) ?_
  refine g_iloadN (pc := 9) hK d9_9 rfl ?_
  refine gA_laload (pc := 10) hK AW (by omega) rfl d9_10 ?_
  refine g_lconst (pc := 11) (z := (0 : Int64)) hK d9_11 (by decide) ?_
  refine g_lif_ne (pc := 12) (pc' := 33) hK d9_12 d9_13 (by decide) (fun b12 => ?_) (fun b12 => ?_)
  · obtain ⟨k2, k3⟩ := own_c2 hb hin b12 c2 c3
    exact J _ tc t aw ta E_o F_o_palette F_o_words F_o_touched F_o_touchedCount F_o_lowestUnused AW AT o1 o2 o3 g1 g2 g3 (by rw [c1, own_add, own_cnt_same w _ hb n _ b12]) k2 k3
  · refine g_aloadN (pc := 16) hK d9_16 rfl ?_
    refine g_get (pc := 17) hK (w23 hw) d9_17 (by assumption) ?_
    refine g_aloadN (pc := 20) hK d9_20 rfl ?_
    refine g_dup (pc := 21) hK d9_21 rfl ?_
    refine g_get (pc := 22) hK (w30 hw) d9_22 (by assumption) ?_
    refine g_dup_x1 (pc := 25) hK d9_25 rfl rfl ?_
    refine g_iconst (pc := 26) (z := (1 : Int32)) hK d9_26 (by decide) ?_
    refine g_iadd (pc := 27) hK d9_27 ?_
    refine g_put (pc := 28) (ty := .int) hK (w30 hw) (Or.inl (w31 hw)) (w4 hw) d9_28 F_o_touchedCount E_o g1 (by decide) rfl rfl (fun h28 W28 => ?_)
    have E_o := E_o.wr W28
    have F_o_palette := F_o_palette.other W28 (Or.inr (sn_SenderColours_palette_touchedCount hw))
    have F_o_words := F_o_words.other W28 (Or.inr (sn_SenderColours_words_touchedCount hw))
    have F_o_touched := F_o_touched.other W28 (Or.inr (sn_SenderColours_touched_touchedCount hw))
    have F_o_touchedCount := F_o_touchedCount.same W28
    have F_o_lowestUnused := F_o_lowestUnused.other W28 (Or.inr (sn_SenderColours_lowestUnused_touchedCount hw))
    have AW := AW.other W28 (Ne.symm o1)
    have AT := AT.other W28 (Ne.symm o2)
    have hlt := own_cnt_lt w n _ hin b12
    refine g_iloadN (pc := 31) hK d9_31 rfl ?_
    refine gA_iastore (pc := 32) hK AT (by omega) g3 d9_32 (fun h32 W32 A32 => ?_)
    have E_o := E_o.wr W32
    have F_o_palette := F_o_palette.other W32 (Or.inl o2)
    have F_o_words := F_o_words.other W32 (Or.inl o2)
    have F_o_touched := F_o_touched.other W32 (Or.inl o2)
    have F_o_touchedCount := F_o_touchedCount.other W32 (Or.inl o2)
    have F_o_lowestUnused := F_o_lowestUnused.other W32 (Or.inl o2)
    have AW := AW.other W32 o3
    have ei : tc.toInt.toNat = own_cnt w n := by omega
    rw [ei] at A32
    obtain ⟨k2, k3⟩ := own_c2n (v := i / 64) hb hin b12 (by omega) c2 c3
    have e1 := c_iadd tc 1
    have e2 := rng32 (tc + 1)
    simp only [Int32.reduceToInt] at e1
    exact J _ _ _ aw ta E_o F_o_palette F_o_words F_o_touched F_o_touchedCount F_o_lowestUnused AW A32 o1 o2 o3 g1 g2 g3 (by rw [own_add, own_cnt_upd w _ hb n _ hin b12]; omega) k2 k3
def own_zer (w : Nat → Int64) (t : Nat → Int32) : Nat → (Nat → Int64)
  | 0 => w
  | i + 1 => upd (own_zer w t i) (t i).toInt.toNat 0
theorem own_zer_z (w : Nat → Int64) (t : Nat → Int32) (k : Nat) : ∀ i, (w k = 0 ∨ ∃ j, j < i ∧ (t j).toInt.toNat = k) → own_zer w t i k = 0
  | 0, h => h.elim id (fun ⟨j, q, _⟩ => absurd q (Nat.not_lt_zero _))
  | i + 1, h => by
    simp only [own_zer]
    by_cases q : k = (t i).toInt.toNat
    · rw [q, upd_at]
    · rw [upd_ne _ _ _ _ q]
      refine own_zer_z w t k i (h.imp id fun ⟨j, j1, j2⟩ => ⟨j, ?_, j2⟩)
      by_cases e : j = i
      · subst e; exact absurd j2.symm q
      · omega
theorem own_succ (i : Nat) : Nat.toInt32 i + (1 : Int32) = Nat.toInt32 (i + 1) := (Int32.ofNat_add i 1).symm
theorem own_neg (r : Int32) (h : 0 ≤ r.toInt ∧ r.toInt < 64) : ((1 <<< (r &&& 0x3f).toInt64) - 1) ^^^ (-1) = (-1 : Int64) <<< (r &&& 0x3f).toInt64 := by
  have a := own_sh 1 r r.toInt.toNat (by omega) (by omega)
  have b := own_sh (-1) r r.toInt.toNat (by omega) (by omega)
  rw [a, b]
  exact own_b_neg ⟨r.toInt.toNat, by omega⟩
theorem own_used1 (ce k : Int32) (hc : 0 ≤ ce.toInt) (hk : 0 ≤ k.toInt) : own_used (own_add (fun _ => 0) ce) k ↔ k.toInt = ce.toInt := by
  obtain ⟨a1, a2⟩ := own_m64 ce hc
  obtain ⟨b1, b2⟩ := own_m64 k hk
  by_cases q : (k / 64).toInt.toNat = (ce / 64).toInt.toNat
  · have e : own_used (own_add (fun _ => 0) ce) k ↔ own_b (ce.toInt % 64).toNat &&& own_b (k.toInt % 64).toNat ≠ 0 := by
      rw [own_used, own_add, q, upd_at, own_bit_b ce hc, own_bit_b k hk]; simp
    rw [e]
    have f := own_b_and ⟨(ce.toInt % 64).toNat, by omega⟩ ⟨(k.toInt % 64).toNat, by omega⟩
    rw [f, Fin.mk.injEq]
    omega
  · rw [own_used, own_add, upd_ne _ _ _ _ q]
    simp
    intro e; rw [e] at b2; exact q (by omega)
theorem own_low (ce lv p : Int32) (hc : 0 ≤ ce.toInt ∧ ce.toInt < p.toInt) (hl : (0 : Int32).toInt ≤ lv.toInt) (l3 : ∀ k : Int32, (0 : Int32).toInt ≤ k.toInt → k.toInt < lv.toInt → own_used (own_add (fun _ => 0) ce) k) (l4 : lv.toInt < p.toInt → ¬ own_used (own_add (fun _ => 0) ce) lv) : (ce ≠ 0 → lv = 0) ∧ (ce = 0 → lv = 1) := by
  simp only [Int32.reduceToInt] at hl l3
  refine ⟨fun q => Int32.toInt_inj.mp ?_, fun q => Int32.toInt_inj.mp ?_⟩
  · simp only [Int32.reduceToInt]
    by_cases h0 : 0 < lv.toInt
    · have u := (own_used1 ce 0 hc.1 (by decide)).mp (l3 0 (by decide) (by simpa using h0))
      exact absurd (Int32.toInt_inj.mp u).symm q
    · omega
  · subst q
    simp only [Int32.reduceToInt] at hc ⊢
    by_cases h0 : lv.toInt = 0
    · exact absurd ((own_used1 0 lv (by decide) (by omega)).mpr (by simp only [Int32.reduceToInt]; exact h0)) (l4 (by omega))
    · by_cases h1 : 1 < lv.toInt
      · have u := (own_used1 0 1 (by decide) (by decide)).mp (l3 1 (by decide) (by simpa using h1))
        exact absurd u (by decide)
      · omega
set_option maxRecDepth 65536 in
set_option maxHeartbeats 4000000 in
theorem rmL (l : Launch) (Z : State) (a0 : Array Value) (hw : ∀ d ∈ tables_1, d.before a0 Z = true) (n0 : Nat) (h : Heap) (o : Addr) (p lu : Int32) (n : Nat) (w : Nat → Int64) (hS : own_SC Z n0 h o p lu n w) : Con l (⟨"com/example/copyspan/copyspan/exchanges/SenderColours", "lowestUnused", "()I"⟩ : MethodName) prog_28_method_8_code 1 (some .int) [] ({ frames := 0, cells := 0, slots := 0, locals := 0 } : Room) Z n0 #[.ref o] h (qI fun z h' => z = lu ∧ h' = h) := by
  refine con_of_go (Ls := [.val (.ref o)]) (plainFor_of_name (by first | (simp [plainName, overriddenIn]; done) | decide +kernel)) (fun m => by first | (simp [entryFrame, mkF, argsToLocals, Value.category]; done) | rfl) ?_
  intro K hl hK
  subst hl
  change Cx K Z "com/example/copyspan/copyspan/exchanges/SenderColours" prog_28_method_8_code 1 (some .int) "lowestUnused" at hK
  obtain ⟨aw, ta, tc, t, E_o, F_o_palette, F_o_words, F_o_touched, F_o_touchedCount, F_o_lowestUnused, AW, AT, o1, o2, o3, g1, g2, g3, c1, c2, c3⟩ := hS
  refine g_aloadN (pc := 0) hK d5_0 rfl ?_
  refine g_get (pc := 1) hK (w32 hw) d5_1 (by assumption) ?_
  exact g_ireturn (pc := 4) hK d5_4 rfl ⟨rfl, rfl⟩
set_option maxRecDepth 65536 in
set_option maxHeartbeats 4000000 in
theorem rmS (l : Launch) (Z : State) (a0 : Array Value) (hw : ∀ d ∈ tables_1, d.before a0 Z = true) (n0 : Nat) (h : Heap) (o : Addr) (p lu : Int32) (n : Nat) (w : Nat → Int64) (hn : n ≤ 1000) (hS : own_SC Z n0 h o p lu n w) : Con l (⟨"com/example/copyspan/copyspan/exchanges/SenderColours", "start", "()V"⟩ : MethodName) prog_28_method_4_code 2 none [] ({ frames := 0, cells := 0, slots := 0, locals := 0 } : Room) Z n0 #[.ref o] h (qV fun h' => own_SC Z n0 h' o p 0 n (fun _ => 0)) := by
  refine con_of_go (Ls := [.val (.ref o), .unset]) (plainFor_of_name (by first | (simp [plainName, overriddenIn]; done) | decide +kernel)) (fun m => by first | (simp [entryFrame, mkF, argsToLocals, Value.category]; done) | rfl) ?_
  intro K hl hK
  subst hl
  change Cx K Z "com/example/copyspan/copyspan/exchanges/SenderColours" prog_28_method_4_code 2 none "start" at hK
  obtain ⟨aw, ta, tc, t, E_o, F_o_palette, F_o_words, F_o_touched, F_o_touchedCount, F_o_lowestUnused, AW, AT, o1, o2, o3, g1, g2, g3, c1, c2, c3⟩ := hS
  have hcl := own_cnt_le w n
  have LP : ∀ (r i : Nat) (h1 : Heap), i + r = own_cnt w n → Exa Z h1 o "com/example/copyspan/copyspan/exchanges/SenderColours" → Fld Z h1 o "com/example/copyspan/copyspan/exchanges/SenderColours" "palette" "I" (.int p) → Fld Z h1 o "com/example/copyspan/copyspan/exchanges/SenderColours" "words" "[J" (.ref aw) → Fld Z h1 o "com/example/copyspan/copyspan/exchanges/SenderColours" "touched" "[I" (.ref ta) → Fld Z h1 o "com/example/copyspan/copyspan/exchanges/SenderColours" "touchedCount" "I" (.int tc) → Fld Z h1 o "com/example/copyspan/copyspan/exchanges/SenderColours" "lowestUnused" "I" (.int lu) → AJ Z h1 aw n (own_zer w t i) → AI Z h1 ta n t → Go K ({ frames := 0, cells := 0, slots := 0, locals := 0 } : Room) n0 (nB (kS K) ({ frames := 0, cells := 0, slots := 0, locals := 0 } : Room)) (qV fun h' => own_SC Z n0 h' o p 0 n (fun _ => 0)) h1 0 0 2 [.val (.ref o), .val (.int (Nat.toInt32 i))] [] := by
    intro r
    induction r with
    | zero =>
      intro i h1 hir E_o F_o_palette F_o_words F_o_touched F_o_touchedCount F_o_lowestUnused AW AT
      have ei := own_len i (by omega)
      refine g_iloadN (pc := 2) hK d4_2 rfl ?_
      refine g_aloadN (pc := 3) hK d4_3 rfl ?_
      refine g_get (pc := 4) hK (w30 hw) d4_4 (by assumption) ?_
      refine gY_icmp_ge (pc := 7) (pc' := 28) hK d4_7 (by decide) (by omega) ?_
      refine g_aloadN (pc := 28) hK d4_28 rfl ?_
      refine g_iconst (pc := 29) (z := (0 : Int32)) hK d4_29 (by decide) ?_
      refine g_put (pc := 30) (ty := .int) hK (w30 hw) (Or.inl (w31 hw)) (w4 hw) d4_30 F_o_touchedCount E_o g1 (by decide) rfl rfl (fun h30 W30 => ?_)
      have E_o := E_o.wr W30
      have F_o_palette := F_o_palette.other W30 (Or.inr (sn_SenderColours_palette_touchedCount hw))
      have F_o_words := F_o_words.other W30 (Or.inr (sn_SenderColours_words_touchedCount hw))
      have F_o_touched := F_o_touched.other W30 (Or.inr (sn_SenderColours_touched_touchedCount hw))
      have F_o_touchedCount := F_o_touchedCount.same W30
      have F_o_lowestUnused := F_o_lowestUnused.other W30 (Or.inr (sn_SenderColours_lowestUnused_touchedCount hw))
      refine g_aloadN (pc := 33) hK d4_33 rfl ?_
      refine g_iconst (pc := 34) (z := (0 : Int32)) hK d4_34 (by decide) ?_
      refine g_put (pc := 35) (ty := .int) hK (w32 hw) (Or.inl (w33 hw)) (w4 hw) d4_35 F_o_lowestUnused E_o g1 (by decide) rfl rfl (fun h35 W35 => ?_)
      have E_o := E_o.wr W35
      have F_o_palette := F_o_palette.other W35 (Or.inr (sn_SenderColours_palette_lowestUnused hw))
      have F_o_words := F_o_words.other W35 (Or.inr (sn_SenderColours_words_lowestUnused hw))
      have F_o_touched := F_o_touched.other W35 (Or.inr (sn_SenderColours_touched_lowestUnused hw))
      have F_o_touchedCount := F_o_touchedCount.other W35 (Or.inr (sn_SenderColours_touchedCount_lowestUnused hw))
      have F_o_lowestUnused := F_o_lowestUnused.same W35
      have AW := (AW.other W30 (Ne.symm o1)).other W35 (Ne.symm o1)
      have AT := (AT.other W30 (Ne.symm o2)).other W35 (Ne.symm o2)
      have AW : AJ Z h35 aw n (fun _ => 0) := AW.congr (fun k hk => own_zer_z w t k i (by
          by_cases q : w k = 0
          · exact Or.inl q
          · obtain ⟨j, j1, j2⟩ := c2 k hk q
            exact Or.inr ⟨j, by omega, by omega⟩))
      exact g_return (pc := 38) hK d4_38 rfl ⟨aw, ta, 0, t, E_o, F_o_palette, F_o_words, F_o_touched, F_o_touchedCount, F_o_lowestUnused, AW, AT, o1, o2, o3, g1, g2, g3, by rw [own_cnt_zero]; rfl, fun i _ q => absurd rfl q, fun k q => by rw [own_cnt_zero] at q; exact absurd q (Nat.not_lt_zero _)⟩
    | succ r ih =>
      intro i h1 hir E_o F_o_palette F_o_words F_o_touched F_o_touchedCount F_o_lowestUnused AW AT
      have ei := own_len i (by omega)
      have c3i := c3 i (by omega)
      refine g_iloadN (pc := 2) hK d4_2 rfl ?_
      refine g_aloadN (pc := 3) hK d4_3 rfl ?_
      refine g_get (pc := 4) hK (w30 hw) d4_4 (by assumption) ?_
      refine gN_icmp_ge (pc := 7) hK d4_7 (by omega) ?_
      refine g_aloadN (pc := 10) hK d4_10 rfl ?_
      refine g_get (pc := 11) hK (w20 hw) d4_11 (by assumption) ?_
      refine g_aloadN (pc := 14) hK d4_14 rfl ?_
      refine g_get (pc := 15) hK (w23 hw) d4_15 (by assumption) ?_
      refine g_iloadN (pc := 18) hK d4_18 rfl ?_
      refine gA_iaload (pc := 19) hK AT (by omega) (by rw [ei, Int.toNat_natCast]) d4_19 ?_
      refine g_lconst (pc := 20) (z := (0 : Int64)) hK d4_20 (by decide) ?_
      refine gA_lastore (pc := 21) hK AW c3i g2 d4_21 (fun h21 W21 A21 => ?_)
      refine g_iinc_1 (pc := 22) (z := (1 : Int32)) hK d4_22 (by decide) ?_
      refine g_goto (pc := 25) (pc' := 2) hK d4_25 (by decide) ?_
      have E_o := E_o.wr W21
      have F_o_palette := F_o_palette.other W21 (Or.inl o1)
      have F_o_words := F_o_words.other W21 (Or.inl o1)
      have F_o_touched := F_o_touched.other W21 (Or.inl o1)
      have F_o_touchedCount := F_o_touchedCount.other W21 (Or.inl o1)
      have F_o_lowestUnused := F_o_lowestUnused.other W21 (Or.inl o1)
      rw [own_succ]
      exact ih (i + 1) h21 (by omega) E_o F_o_palette F_o_words F_o_touched F_o_touchedCount F_o_lowestUnused A21 (AT.other W21 (Ne.symm o3))
  refine g_iconst (pc := 0) (z := (0 : Int32)) hK d4_0 (by decide) ?_
  refine g_istore_1 (pc := 1) hK d4_1 rfl ?_
  exact LP (own_cnt w n) 0 h (by omega) E_o F_o_palette F_o_words F_o_touched F_o_touchedCount F_o_lowestUnused AW AT
set_option maxRecDepth 65536 in
set_option maxHeartbeats 4000000 in
theorem rmY (l : Launch) (Z : State) (a0 : Array Value) (hw : ∀ d ∈ tables_1, d.before a0 Z = true) (n0 : Nat) (h : Heap) (p wc k : Int32) (n : Nat) (hp : 0 ≤ p.toInt) (hwc : wc.toInt = n) (hn : 1 ≤ n) : Con l (⟨"com/example/copyspan/copyspan/exchanges/SenderColoursStartPinLaw", "beyond", "(III)J"⟩ : MethodName) method_2_code 4 (some .long) [] ({ frames := 0, cells := 0, slots := 0, locals := 0 } : Room) Z n0 #[.int p, .int wc, .int k] h (qJ fun z h' => z = own_msk p n k ∧ h' = h) := by
  refine con_of_go (Ls := [.val (.int p), .val (.int wc), .val (.int k), .unset]) (plainFor_of_name (by first | (simp [plainName, overriddenIn]; done) | decide +kernel)) (fun m => by first | (simp [entryFrame, mkF, argsToLocals, Value.category]; done) | rfl) ?_
  intro K hl hK
  subst hl
  change Cx K Z "com/example/copyspan/copyspan/exchanges/SenderColoursStartPinLaw" method_2_code 4 (some .long) "beyond" at hK
  have d1 := (own_m64 p hp).1
  have es := c_isub wc 1
  have er0 := rng32 wc
  have er := rng32 (wc - 1)
  simp only [Int32.reduceToInt] at es
  have ee : (wc - 1).toInt = (n : Int) - 1 := by omega
  refine g_iloadN (pc := 0) hK d8_0 rfl ?_
  refine g_bipush (pc := 1) (z := (64 : Int32)) hK d8_1 (by decide) ?_
  refine g_irem (pc := 3) hK d8_3 (by decide) ?_
  refine g_istore_3 (pc := 4) hK d8_4 rfl ?_
  refine g_iloadN (pc := 5) hK d8_5 rfl ?_
  refine g_iloadN (pc := 6) hK d8_6 rfl ?_
  refine g_iconst (pc := 7) (z := (1 : Int32)) hK d8_7 (by decide) ?_
  refine g_isub (pc := 8) hK d8_8 ?_
  refine g_icmp_ne (pc := 9) (pc' := 16) hK d8_9 (by decide) (fun b9 => ?_) (fun b9 => ?_)
  · refine g_lconst (pc := 16) (z := (0 : Int64)) hK d8_16 (by decide) ?_
    exact g_lreturn (pc := 17) hK d8_17 rfl ⟨by rw [own_msk, if_neg (fun q => b9 (Int32.toInt_inj.mp (by omega)))], rfl⟩
  · refine g_iloadN (pc := 12) hK d8_12 rfl ?_
    refine g_if_ne (pc := 13) (pc' := 18) hK d8_13 (by decide) (fun b13 => ?_) (fun b13 => ?_)
    · refine g_lconst (pc := 18) (z := (1 : Int64)) hK d8_18 (by decide) ?_
      refine g_iloadN (pc := 19) hK d8_19 rfl ?_
      refine g_lshl (pc := 20) hK d8_20 ?_
      refine g_lconst (pc := 21) (z := (1 : Int64)) hK d8_21 (by decide) ?_
      refine g_lsub (pc := 22) hK d8_22 ?_
      refine g_ldc2 (pc := 23) hK (w52 hw) d8_23 ?_
      refine g_lxor (pc := 26) hK d8_26 ?_
      exact g_lreturn (pc := 27) hK d8_27 rfl ⟨by rw [own_msk, if_pos ⟨by rw [b9]; omega, b13⟩]; exact own_neg _ (by omega), rfl⟩
    · refine g_lconst (pc := 16) (z := (0 : Int64)) hK d8_16 (by decide) ?_
      exact g_lreturn (pc := 17) hK d8_17 rfl ⟨by rw [own_msk, if_neg (fun q => q.2 b13)], rfl⟩
set_option maxRecDepth 65536 in
set_option maxHeartbeats 4000000 in
theorem rmC (l : Launch) (Z : State) (a0 : Array Value) (hw : ∀ d ∈ tables_1, d.before a0 Z = true) (n0 : Nat) (h : Heap) (o : Addr) (p lu wc k : Int32) (n : Nat) (hp : 0 ≤ p.toInt) (hwc : wc.toInt = n) (hn : 1 ≤ n ∧ n ≤ 1000) (hk : 0 ≤ k.toInt) (hS : own_SC Z n0 h o p lu n (fun _ => 0)) : Con l (⟨"com/example/copyspan/copyspan/exchanges/SenderColoursStartPinLaw", "clean", "(Lcom/example/copyspan/copyspan/exchanges/SenderColours;III)Z"⟩ : MethodName) method_3_code 4 (some .boolean) [] ({ frames := 1, cells := 0, slots := 0, locals := 24 } : Room) Z n0 #[.ref o, .int p, .int wc, .int k] h (qI fun z h' => z = 1 ∧ h' = h) := by
  refine con_of_go (Ls := [.val (.ref o), .val (.int p), .val (.int wc), .val (.int k)]) (plainFor_of_name (by first | (simp [plainName, overriddenIn]; done) | decide +kernel)) (fun m => by first | (simp [entryFrame, mkF, argsToLocals, Value.category]; done) | rfl) ?_
  intro K hl hK
  subst hl
  change Cx K Z "com/example/copyspan/copyspan/exchanges/SenderColoursStartPinLaw" method_3_code 4 (some .boolean) "clean" at hK
  refine g_iloadN (pc := 0) hK d6_0 rfl ?_
  refine g_iloadN (pc := 1) hK d6_1 rfl ?_
  refine g_icmp_lt (pc := 2) (pc' := 7) hK d6_2 (by decide) (fun b2 => ?_) (fun b2 => ?_)
  · refine g_aloadN (pc := 7) hK d6_7 rfl ?_
    refine g_iloadN (pc := 8) hK d6_8 rfl ?_
    refine g_virtual_1J (pc := 9) hK 4 d6_9 (w43 hw) (w44 hw) (w46 hw) (w45 hw) (w5 hw) (w47 hw) (by decide) hS.exa (rmK _ Z a0 hw n0 _ o p lu n _ k hn.2 (by omega) hS) pd_2 rfl rfl rfl (fun z9 h9 q9 gr9 => ?_)
    obtain ⟨rfl, rfl⟩ := q9
    refine g_iloadN (pc := 12) hK d6_12 rfl ?_
    refine g_iloadN (pc := 13) hK d6_13 rfl ?_
    refine g_iloadN (pc := 14) hK d6_14 rfl ?_
    refine g_static_3J (pc := 15) hK 4 d6_15 (w49 hw) (w50 hw) (w41 hw) (w51 hw) (by decide) (rmY _ Z a0 hw n0 _ p wc k n hp hwc hn.1) pd_3 rfl rfl rfl (fun z15 h15 q15 gr15 => ?_)
    obtain ⟨rfl, rfl⟩ := q15
    refine gN_lif_ne (pc := 18) hK d6_18 d6_19 (by simp) ?_
    refine g_iconst (pc := 22) (z := (1 : Int32)) hK d6_22 (by decide) ?_
    refine g_goto (pc := 23) (pc' := 27) hK d6_23 (by decide) ?_
    exact g_zreturn (pc := 27) hK d6_27 (by first | rfl | decide) rfl ⟨rfl, rfl⟩
  · refine g_iconst (pc := 5) (z := (1 : Int32)) hK d6_5 (by decide) ?_
    exact g_zreturn (pc := 6) hK d6_6 (by first | rfl | decide) rfl ⟨rfl, rfl⟩
set_option maxRecDepth 65536 in
set_option maxHeartbeats 4000000 in
theorem rm0 (l : Launch) (Z : State) (a0 : Array Value) (hw : ∀ d ∈ tables_1, d.before a0 Z = true) (n0 : Nat) (h : Heap) (Z0 : n0 ≤ h.size) (i0 : Int64) (i1 i2 i3 i4 : Int32) : Con l x code maxLocals ret tables_1 room_1 Z n0 #[.long i0, .int i1, .int i2, .int i3, .int i4] h (qI fun z _ => z = 1) := by
  refine con_of_go (Ls := [.val (.long i0), .second, .val (.int i1), .val (.int i2), .val (.int i3), .val (.int i4), .unset, .unset, .unset, .unset, .unset, .unset, .unset, .unset, .unset, .unset, .unset]) (plainFor_of_name (by first | (simp [plainName, overriddenIn]; done) | decide +kernel)) (fun m => by first | (simp [entryFrame, mkF, argsToLocals, Value.category, maxLocals]; done) | rfl) ?_
  intro K hl hK
  subst hl
  change Cx K Z "com/example/copyspan/copyspan/exchanges/SenderColoursStartPinLaw" code 17 (some .boolean) "law" at hK
  have J85 : ∀ p nn nv ca cb cc ce : Int32, (1 ≤ p.toInt ∧ p.toInt ≤ 256) → nn.toInt = (p.toInt + 63) / 64 → (0 ≤ ca.toInt ∧ ca.toInt < p.toInt) → (0 ≤ cb.toInt ∧ cb.toInt < p.toInt) → (0 ≤ cc.toInt ∧ cc.toInt < p.toInt) → (0 ≤ ce.toInt ∧ ce.toInt < p.toInt) → ∀ (o : Addr) (h1 : Heap), own_SC Z n0 h1 o p 0 ((p.toInt + 63) / 64).toNat (fun _ => 0) → Go K room_1 n0 (nB (kS K) room_1) (qI fun z _ => z = 1) h1 3 13 85 [.val (.long i0), .second, .val (.int i1), .val (.int i2), .val (.int i3), .val (.int i4), .val (.int p), .val (.int nn), .val (.int nv), .val (.int 2147483647), .val (.int ca), .val (.int cb), .val (.int cc), .val (.int ce), .val (.ref o), .unset, .unset] [] := by
    intro p nn nv ca cb cc ce hp hnn hca hcb hcc hce o h85 hS85
    obtain ⟨nN, hN⟩ : ∃ nN : Nat, nN = ((p.toInt + 63) / 64).toNat := ⟨_, rfl⟩
    have hN2 : (nN : Int) = (p.toInt + 63) / 64 := by omega
    rw [← hN] at hS85
    have z0 : (0 : Int32).toInt = 0 := rfl
    have J124 : ∀ (h1 : Heap) (lu : Int32) (w : Nat → Int64), own_SC Z n0 h1 o p lu nN w → (0 ≤ lu.toInt ∧ lu.toInt ≤ p.toInt) → Go K room_1 n0 (nB (kS K) room_1) (qI fun z _ => z = 1) h1 3 13 124 [.val (.long i0), .second, .val (.int i1), .val (.int i2), .val (.int i3), .val (.int i4), .val (.int p), .val (.int nn), .val (.int nv), .val (.int 2147483647), .val (.int ca), .val (.int cb), .val (.int cc), .val (.int ce), .val (.ref o), .unset, .unset] [] := by
      intro h1 lu w hS hl
      refine g_aload (pc := 124) hK at_124 rfl ?_
      refine g_virtual_0V (pc := 126) hK 8 at_126 (w25 hw) (w26 hw) (w28 hw) (w27 hw) (w5 hw) (w29 hw) (by decide) hS.exa (rmS _ Z a0 hw n0 _ o p lu nN w (by omega) hS) pd_4 rfl rfl rfl (fun h126 q126 gr126 => ?_)
      have hS := q126
      refine g_aload (pc := 129) hK at_129 rfl ?_
      refine g_virtual_0I (pc := 131) hK 8 at_131 (w34 hw) (w35 hw) (w37 hw) (w36 hw) (w5 hw) (w38 hw) (by decide) hS.exa (rmL _ Z a0 hw n0 _ o p 0 nN _ hS) pd_5 rfl rfl rfl (fun z131 h131 q131 gr131 => ?_)
      obtain ⟨rfl, rfl⟩ := q131
      refine gN_if_ne (pc := 134) hK at_134 rfl ?_
      refine g_iconst (pc := 137) (z := (1 : Int32)) hK at_137 (by decide) ?_
      refine g_goto (pc := 138) (pc' := 142) hK at_138 (by decide) ?_
      refine g_istore_15 (pc := 142) hK at_142 rfl ?_
      refine g_iload (pc := 144) hK at_144 rfl ?_
      refine gN_if_eq (pc := 146) hK at_146 (by decide) ?_
      refine g_aload (pc := 149) hK at_149 rfl ?_
      refine g_iload (pc := 151) hK at_151 rfl ?_
      refine g_iload (pc := 153) hK at_153 rfl ?_
      refine g_iconst (pc := 155) (z := (0 : Int32)) hK at_155 (by decide) ?_
      refine g_static_4I (pc := 156) hK 8 at_156 (w39 hw) (w40 hw) (w41 hw) (w42 hw) (by decide) (rmC _ Z a0 hw n0 _ o p 0 nn 0 nN (by omega) (by omega) (by omega) (by decide) hS) pd_6 rfl rfl rfl (fun z156 h156 q156 gr156 => ?_)
      obtain ⟨rfl, rfl⟩ := q156
      refine gN_if_eq (pc := 159) hK at_159 (by decide) ?_
      refine g_iconst (pc := 162) (z := (1 : Int32)) hK at_162 (by decide) ?_
      refine g_goto (pc := 163) (pc' := 167) hK at_163 (by decide) ?_
      refine g_istore_15 (pc := 167) hK at_167 rfl ?_
      refine g_iload (pc := 169) hK at_169 rfl ?_
      refine gN_if_eq (pc := 171) hK at_171 (by decide) ?_
      refine g_aload (pc := 174) hK at_174 rfl ?_
      refine g_iload (pc := 176) hK at_176 rfl ?_
      refine g_iload (pc := 178) hK at_178 rfl ?_
      refine g_iconst (pc := 180) (z := (1 : Int32)) hK at_180 (by decide) ?_
      refine g_static_4I (pc := 181) hK 8 at_181 (w39 hw) (w40 hw) (w41 hw) (w42 hw) (by decide) (rmC _ Z a0 hw n0 _ o p 0 nn 1 nN (by omega) (by omega) (by omega) (by decide) hS) pd_6 rfl rfl rfl (fun z181 h181 q181 gr181 => ?_)
      obtain ⟨rfl, rfl⟩ := q181
      refine gN_if_eq (pc := 184) hK at_184 (by decide) ?_
      refine g_iconst (pc := 187) (z := (1 : Int32)) hK at_187 (by decide) ?_
      refine g_goto (pc := 188) (pc' := 192) hK at_188 (by decide) ?_
      refine g_istore_15 (pc := 192) hK at_192 rfl ?_
      refine g_iload (pc := 194) hK at_194 rfl ?_
      refine gN_if_eq (pc := 196) hK at_196 (by decide) ?_
      refine g_aload (pc := 199) hK at_199 rfl ?_
      refine g_iload (pc := 201) hK at_201 rfl ?_
      refine g_iload (pc := 203) hK at_203 rfl ?_
      refine g_iconst (pc := 205) (z := (2 : Int32)) hK at_205 (by decide) ?_
      refine g_static_4I (pc := 206) hK 8 at_206 (w39 hw) (w40 hw) (w41 hw) (w42 hw) (by decide) (rmC _ Z a0 hw n0 _ o p 0 nn 2 nN (by omega) (by omega) (by omega) (by decide) hS) pd_6 rfl rfl rfl (fun z206 h206 q206 gr206 => ?_)
      obtain ⟨rfl, rfl⟩ := q206
      refine gN_if_eq (pc := 209) hK at_209 (by decide) ?_
      refine g_iconst (pc := 212) (z := (1 : Int32)) hK at_212 (by decide) ?_
      refine g_goto (pc := 213) (pc' := 217) hK at_213 (by decide) ?_
      refine g_istore_15 (pc := 217) hK at_217 rfl ?_
      refine g_iload (pc := 219) hK at_219 rfl ?_
      refine gN_if_eq (pc := 221) hK at_221 (by decide) ?_
      refine g_aload (pc := 224) hK at_224 rfl ?_
      refine g_iload (pc := 226) hK at_226 rfl ?_
      refine g_iload (pc := 228) hK at_228 rfl ?_
      refine g_iconst (pc := 230) (z := (3 : Int32)) hK at_230 (by decide) ?_
      refine g_static_4I (pc := 231) hK 8 at_231 (w39 hw) (w40 hw) (w41 hw) (w42 hw) (by decide) (rmC _ Z a0 hw n0 _ o p 0 nn 3 nN (by omega) (by omega) (by omega) (by decide) hS) pd_6 rfl rfl rfl (fun z231 h231 q231 gr231 => ?_)
      obtain ⟨rfl, rfl⟩ := q231
      refine gN_if_eq (pc := 234) hK at_234 (by decide) ?_
      refine g_iconst (pc := 237) (z := (1 : Int32)) hK at_237 (by decide) ?_
      refine g_goto (pc := 238) (pc' := 242) hK at_238 (by decide) ?_
      refine g_istore_15 (pc := 242) hK at_242 rfl ?_
      refine g_aload (pc := 244) hK at_244 rfl ?_
      refine g_iload (pc := 246) hK at_246 rfl ?_
      refine g_virtual_1V (pc := 248) hK 8 at_248 (w53 hw) (w54 hw) (w56 hw) (w55 hw) (w5 hw) (w57 hw) (by decide) hS.exa (rmU _ Z a0 hw n0 _ o p 0 nN _ ce (by omega) (by omega) hce (by omega) hS) pd_7 rfl rfl rfl (fun h248 q248 gr248 => ?_)
      obtain ⟨lv, hS, l1, l2, l3, l4⟩ := q248
      obtain ⟨v1, v2⟩ := own_low ce lv p hce l1 l3 l4
      obtain ⟨d1, d2⟩ := own_m64 ce hce.1
      refine g_iload (pc := 251) hK at_251 rfl ?_
      refine g_bipush (pc := 253) (z := (64 : Int32)) hK at_253 (by decide) ?_
      refine g_idiv (pc := 255) hK at_255 (by decide) ?_
      refine g_istore_16 (pc := 256) hK at_256 rfl ?_
      refine g_iload (pc := 258) hK at_258 rfl ?_
      refine gN_if_eq (pc := 260) hK at_260 (by decide) ?_
      refine g_aload (pc := 263) hK at_263 rfl ?_
      refine g_iload (pc := 265) hK at_265 rfl ?_
      refine g_virtual_1J (pc := 267) hK 8 at_267 (w43 hw) (w44 hw) (w46 hw) (w45 hw) (w5 hw) (w47 hw) (by decide) hS.exa (rmK _ Z a0 hw n0 _ o p lv nN _ (ce / 64) (by omega) (by omega) hS) pd_2 rfl rfl rfl (fun z267 h267 q267 gr267 => ?_)
      obtain ⟨rfl, rfl⟩ := q267
      refine g_lconst (pc := 270) (z := (1 : Int64)) hK at_270 (by decide) ?_
      refine g_iload (pc := 271) hK at_271 rfl ?_
      refine g_bipush (pc := 273) (z := (64 : Int32)) hK at_273 (by decide) ?_
      refine g_irem (pc := 275) hK at_275 (by decide) ?_
      refine g_lshl (pc := 276) hK at_276 ?_
      refine g_iload (pc := 277) hK at_277 rfl ?_
      refine g_iload (pc := 279) hK at_279 rfl ?_
      refine g_iload (pc := 281) hK at_281 rfl ?_
      refine g_static_3J (pc := 283) hK 8 at_283 (w49 hw) (w50 hw) (w41 hw) (w51 hw) (by decide) (rmY _ Z a0 hw n0 _ p nn (ce / 64) nN (by omega) (by omega) (by omega)) pd_3 rfl rfl rfl (fun z283 h283 q283 gr283 => ?_)
      obtain ⟨rfl, rfl⟩ := q283
      refine g_lor (pc := 286) hK at_286 ?_
      refine gN_lif_ne (pc := 287) hK at_287 at_288 (by rw [own_add, upd_at, own_bit]; simp) ?_
      refine g_iconst (pc := 291) (z := (1 : Int32)) hK at_291 (by decide) ?_
      refine g_goto (pc := 292) (pc' := 296) hK at_292 (by decide) ?_
      refine g_istore_15 (pc := 296) hK at_296 rfl ?_
      refine g_iload (pc := 298) hK at_298 rfl ?_
      refine gN_if_eq (pc := 300) hK at_300 (by decide) ?_
      refine g_aload (pc := 303) hK at_303 rfl ?_
      refine g_virtual_0I (pc := 305) hK 8 at_305 (w34 hw) (w35 hw) (w37 hw) (w36 hw) (w5 hw) (w38 hw) (by decide) hS.exa (rmL _ Z a0 hw n0 _ o p lv nN _ hS) pd_5 rfl rfl rfl (fun z305 h305 q305 gr305 => ?_)
      obtain ⟨rfl, rfl⟩ := q305
      refine g_iload (pc := 308) hK at_308 rfl ?_
      refine g_if_ne (pc := 310) (pc' := 317) hK at_310 (by decide) (fun b310 => ?_) (fun b310 => ?_)
      · refine g_iconst (pc := 317) (z := (0 : Int32)) hK at_317 (by decide) ?_
        refine gN_icmp_ne (pc := 318) hK at_318 (v1 b310) ?_
        refine g_iconst (pc := 321) (z := (1 : Int32)) hK at_321 (by decide) ?_
        refine g_goto (pc := 322) (pc' := 326) hK at_322 (by decide) ?_
        refine g_istore_15 (pc := 326) hK at_326 rfl ?_
        refine g_iload (pc := 328) hK at_328 rfl ?_
        exact g_zreturn (pc := 330) hK at_330 (by first | rfl | decide) rfl rfl
      · refine g_iconst (pc := 313) (z := (1 : Int32)) hK at_313 (by decide) ?_
        refine g_goto (pc := 314) (pc' := 318) hK at_314 (by decide) ?_
        refine gN_icmp_ne (pc := 318) hK at_318 (v2 b310) ?_
        refine g_iconst (pc := 321) (z := (1 : Int32)) hK at_321 (by decide) ?_
        refine g_goto (pc := 322) (pc' := 326) hK at_322 (by decide) ?_
        refine g_istore_15 (pc := 326) hK at_326 rfl ?_
        refine g_iload (pc := 328) hK at_328 rfl ?_
        exact g_zreturn (pc := 330) hK at_330 (by first | rfl | decide) rfl rfl
    have K111 : ∀ (h1 : Heap) (lu : Int32) (w : Nat → Int64), own_SC Z n0 h1 o p lu nN w → (0 ≤ lu.toInt ∧ lu.toInt ≤ p.toInt) → Go K room_1 n0 (nB (kS K) room_1) (qI fun z _ => z = 1) h1 3 13 111 [.val (.long i0), .second, .val (.int i1), .val (.int i2), .val (.int i3), .val (.int i4), .val (.int p), .val (.int nn), .val (.int nv), .val (.int 2147483647), .val (.int ca), .val (.int cb), .val (.int cc), .val (.int ce), .val (.ref o), .unset, .unset] [] := by
      intro h1 lu w hS hl
      refine g_iload (pc := 111) hK at_111 rfl ?_
      refine g_iconst (pc := 113) (z := (3 : Int32)) hK at_113 (by decide) ?_
      refine g_icmp_lt (pc := 114) (pc' := 124) hK at_114 (by decide) (fun b114 => ?_) (fun b114 => ?_)
      · exact J124 _ lu w hS hl
      · refine g_aload (pc := 117) hK at_117 rfl ?_
        refine g_iload (pc := 119) hK at_119 rfl ?_
        refine g_virtual_1V (pc := 121) hK 8 at_121 (w53 hw) (w54 hw) (w56 hw) (w55 hw) (w5 hw) (w57 hw) (by decide) hS.exa (rmU _ Z a0 hw n0 _ o p lu nN w cc (by omega) (by omega) hcc hl hS) pd_7 rfl rfl rfl (fun h121 q121 gr121 => ?_)
        obtain ⟨lv, hS2, l1, l2, -, -⟩ := q121
        exact J124 _ lv _ hS2 ⟨by omega, l2⟩
    have K98 : ∀ (h1 : Heap) (lu : Int32) (w : Nat → Int64), own_SC Z n0 h1 o p lu nN w → (0 ≤ lu.toInt ∧ lu.toInt ≤ p.toInt) → Go K room_1 n0 (nB (kS K) room_1) (qI fun z _ => z = 1) h1 3 13 98 [.val (.long i0), .second, .val (.int i1), .val (.int i2), .val (.int i3), .val (.int i4), .val (.int p), .val (.int nn), .val (.int nv), .val (.int 2147483647), .val (.int ca), .val (.int cb), .val (.int cc), .val (.int ce), .val (.ref o), .unset, .unset] [] := by
      intro h1 lu w hS hl
      refine g_iload (pc := 98) hK at_98 rfl ?_
      refine g_iconst (pc := 100) (z := (2 : Int32)) hK at_100 (by decide) ?_
      refine g_icmp_lt (pc := 101) (pc' := 111) hK at_101 (by decide) (fun b101 => ?_) (fun b101 => ?_)
      · exact K111 _ lu w hS hl
      · refine g_aload (pc := 104) hK at_104 rfl ?_
        refine g_iload (pc := 106) hK at_106 rfl ?_
        refine g_virtual_1V (pc := 108) hK 8 at_108 (w53 hw) (w54 hw) (w56 hw) (w55 hw) (w5 hw) (w57 hw) (by decide) hS.exa (rmU _ Z a0 hw n0 _ o p lu nN w cb (by omega) (by omega) hcb hl hS) pd_7 rfl rfl rfl (fun h108 q108 gr108 => ?_)
        obtain ⟨lv, hS2, l1, l2, -, -⟩ := q108
        exact K111 _ lv _ hS2 ⟨by omega, l2⟩
    have K85 : ∀ (h1 : Heap) (lu : Int32) (w : Nat → Int64), own_SC Z n0 h1 o p lu nN w → (0 ≤ lu.toInt ∧ lu.toInt ≤ p.toInt) → Go K room_1 n0 (nB (kS K) room_1) (qI fun z _ => z = 1) h1 3 13 85 [.val (.long i0), .second, .val (.int i1), .val (.int i2), .val (.int i3), .val (.int i4), .val (.int p), .val (.int nn), .val (.int nv), .val (.int 2147483647), .val (.int ca), .val (.int cb), .val (.int cc), .val (.int ce), .val (.ref o), .unset, .unset] [] := by
      intro h1 lu w hS hl
      refine g_iload (pc := 85) hK at_85 rfl ?_
      refine g_iconst (pc := 87) (z := (1 : Int32)) hK at_87 (by decide) ?_
      refine g_icmp_lt (pc := 88) (pc' := 98) hK at_88 (by decide) (fun b88 => ?_) (fun b88 => ?_)
      · exact K98 _ lu w hS hl
      · refine g_aload (pc := 91) hK at_91 rfl ?_
        refine g_iload (pc := 93) hK at_93 rfl ?_
        refine g_virtual_1V (pc := 95) hK 8 at_95 (w53 hw) (w54 hw) (w56 hw) (w55 hw) (w5 hw) (w57 hw) (by decide) hS.exa (rmU _ Z a0 hw n0 _ o p lu nN w ca (by omega) (by omega) hca hl hS) pd_7 rfl rfl rfl (fun h95 q95 gr95 => ?_)
        obtain ⟨lv, hS2, l1, l2, -, -⟩ := q95
        exact K98 _ lv _ hS2 ⟨by omega, l2⟩
    exact K85 h85 0 _ hS85 (by omega)
  refine g_iconst (pc := 0) (z := (1 : Int32)) hK at_0 (by decide) ?_
  refine g_lloadN (pc := 1) hK at_1 rfl ?_
  refine g_ldc2 (pc := 2) hK (w0 hw) at_2 ?_
  refine g_land (pc := 5) hK at_5 ?_
  refine g_l2i (pc := 6) hK at_6 ?_
  refine g_iadd (pc := 7) hK at_7 ?_
  refine g_istore_6 (pc := 8) hK at_8 rfl ?_
  have m0 := c_maskL i0 255 8 (by decide) (by decide)
  have m1 := c_l2i (i0 &&& 255)
  have m1r := rng32 (i0 &&& 255).toInt32
  have m2 := c_iadd 1 (i0 &&& 255).toInt32
  have m3 := rng32 (1 + (i0 &&& 255).toInt32)
  simp only [Int32.reduceToInt] at m2
  generalize 1 + (i0 &&& 255).toInt32 = p at *
  have hp : 1 ≤ p.toInt ∧ p.toInt ≤ 256 := by omega
  clear m0 m1 m1r m2 m3
  refine g_iload (pc := 10) hK at_10 rfl ?_
  refine g_bipush (pc := 12) (z := (63 : Int32)) hK at_12 (by decide) ?_
  refine g_iadd (pc := 14) hK at_14 ?_
  refine g_bipush (pc := 15) (z := (64 : Int32)) hK at_15 (by decide) ?_
  refine g_idiv (pc := 17) hK at_17 (by decide) ?_
  refine g_istore_7 (pc := 18) hK at_18 rfl ?_
  have m2 := c_iadd p 63
  have m3 := rng32 (p + 63)
  simp only [Int32.reduceToInt] at m2
  have m4 := (c_idiv (p + 63) 64 64 rfl (by decide)).1 (by omega)
  generalize (p + 63) / 64 = nn at *
  have hnn : nn.toInt = (p.toInt + 63) / 64 := by omega
  clear m2 m3 m4
  have pne : p ≠ 0 := fun q => by rw [q] at hp; exact absurd hp (by decide)
  refine g_lloadN (pc := 20) hK at_20 rfl ?_
  refine g_bipush (pc := 21) (z := (8 : Int32)) hK at_21 (by decide) ?_
  refine g_lushr (pc := 23) hK at_23 ?_
  refine g_ldc2 (pc := 24) hK (w1 hw) at_24 ?_
  refine g_land (pc := 27) hK at_27 ?_
  refine g_l2i (pc := 28) hK at_28 ?_
  refine g_istore_8 (pc := 29) hK at_29 rfl ?_
  refine g_ldc (pc := 31) hK (w2 hw) at_31 ?_
  refine g_istore_9 (pc := 33) hK at_33 rfl ?_
  refine g_iloadN (pc := 35) hK at_35 rfl ?_
  refine g_iload (pc := 36) hK at_36 rfl ?_
  refine g_iand (pc := 38) hK at_38 ?_
  refine g_iload (pc := 39) hK at_39 rfl ?_
  refine g_irem (pc := 41) hK at_41 pne ?_
  refine g_istore_10 (pc := 42) hK at_42 rfl ?_
  have m0 := c_mask i1 2147483647 31 (by decide) (by decide)
  have m1 := (c_iremV (i1 &&& 2147483647) p).1 (by omega) (by omega)
  generalize (i1 &&& 2147483647) % p = ca at *
  have hca : 0 ≤ ca.toInt ∧ ca.toInt < p.toInt := by omega
  clear m0 m1
  refine g_iloadN (pc := 44) hK at_44 rfl ?_
  refine g_iload (pc := 45) hK at_45 rfl ?_
  refine g_iand (pc := 47) hK at_47 ?_
  refine g_iload (pc := 48) hK at_48 rfl ?_
  refine g_irem (pc := 50) hK at_50 pne ?_
  refine g_istore_11 (pc := 51) hK at_51 rfl ?_
  have m0 := c_mask i2 2147483647 31 (by decide) (by decide)
  have m1 := (c_iremV (i2 &&& 2147483647) p).1 (by omega) (by omega)
  generalize (i2 &&& 2147483647) % p = cb at *
  have hcb : 0 ≤ cb.toInt ∧ cb.toInt < p.toInt := by omega
  clear m0 m1
  refine g_iload (pc := 53) hK at_53 rfl ?_
  refine g_iload (pc := 55) hK at_55 rfl ?_
  refine g_iand (pc := 57) hK at_57 ?_
  refine g_iload (pc := 58) hK at_58 rfl ?_
  refine g_irem (pc := 60) hK at_60 pne ?_
  refine g_istore_12 (pc := 61) hK at_61 rfl ?_
  have m0 := c_mask i3 2147483647 31 (by decide) (by decide)
  have m1 := (c_iremV (i3 &&& 2147483647) p).1 (by omega) (by omega)
  generalize (i3 &&& 2147483647) % p = cc at *
  have hcc : 0 ≤ cc.toInt ∧ cc.toInt < p.toInt := by omega
  clear m0 m1
  refine g_iload (pc := 63) hK at_63 rfl ?_
  refine g_iload (pc := 65) hK at_65 rfl ?_
  refine g_iand (pc := 67) hK at_67 ?_
  refine g_iload (pc := 68) hK at_68 rfl ?_
  refine g_irem (pc := 70) hK at_70 pne ?_
  refine g_istore_13 (pc := 71) hK at_71 rfl ?_
  have m0 := c_mask i4 2147483647 31 (by decide) (by decide)
  have m1 := (c_iremV (i4 &&& 2147483647) p).1 (by omega) (by omega)
  generalize (i4 &&& 2147483647) % p = ce at *
  have hce : 0 ≤ ce.toInt ∧ ce.toInt < p.toInt := by omega
  clear m0 m1
  refine g_new (pc := 73) hK (w3 hw) (w4 hw) (w5 hw) at_73 rfl (fun h73 o73 ea73 X73 E73 D73 => ?_)
  have F73_palette : Fld Z h73 o73 "com/example/copyspan/copyspan/exchanges/SenderColours" "palette" "I" (.int 0) := D73 (Or.inr (w14 hw)) (ty := .int) (by decide)
  have F73_words : Fld Z h73 o73 "com/example/copyspan/copyspan/exchanges/SenderColours" "words" "[J" .null := D73 (Or.inr (w21 hw)) (ty := .array (.long)) (by decide)
  have F73_touched : Fld Z h73 o73 "com/example/copyspan/copyspan/exchanges/SenderColours" "touched" "[I" .null := D73 (Or.inr (w24 hw)) (ty := .array (.int)) (by decide)
  have F73_touchedCount : Fld Z h73 o73 "com/example/copyspan/copyspan/exchanges/SenderColours" "touchedCount" "I" (.int 0) := D73 (Or.inl (w31 hw)) (ty := .int) (by decide)
  have F73_lowestUnused : Fld Z h73 o73 "com/example/copyspan/copyspan/exchanges/SenderColours" "lowestUnused" "I" (.int 0) := D73 (Or.inl (w33 hw)) (ty := .int) (by decide)
  have go : n0 ≤ o73 := by rw [ea73]; exact Z0
  refine g_dup (pc := 76) hK at_76 rfl ?_
  refine g_iload (pc := 77) hK at_77 rfl ?_
  refine g_i2l (pc := 79) hK at_79 ?_
  refine g_special_1V (pc := 80) hK 8 at_80 rfl (w6 hw) (w7 hw) (w5 hw) (w8 hw) (by decide) (rmN _ Z a0 hw n0 _ _ go p.toInt64 (by rw [c_i2l]; exact hp) E73 F73_palette F73_words F73_touched F73_touchedCount F73_lowestUnused) pd_8 rfl rfl rfl (fun h80 q80 gr80 => ?_)
  have e3 : p.toInt64.toInt32 = p := by simp
  rw [e3, c_i2l] at q80
  refine g_astore_14 (pc := 83) hK at_83 rfl ?_
  exact J85 p nn _ ca cb cc ce hp hnn hca hcb hcc hce o73 _ q80
set_option maxRecDepth 65536 in
set_option maxHeartbeats 40000000 in
theorem comes_1 {Post : Tables → Env → Array Value → State → Outcome → State → Prop} (hpost : ∀ tb e args s v u, (limb_1_1.after args s (.returned v) u = true ∧ limb_1_2.after args s (.returned v) u = true ∧ True) → FrameEnd s (.returned v) u (Jvm.fieldLocs frame_1_writes args s ++ Jvm.arrayLocs frame_1_arrays args s ++ Jvm.staticLocs frame_1_statics s) 16 128 → Post tb e args s (.returned v) u) :
    ArmFor flags0 classFile x code maxLocals ret World_1 tables_1 room_1 Calls_1 rest_1 Pre_1 Post := by
  intro l hfl _ _ p e ha hc hk s m args below hf hA hF happ hP
  obtain ⟨hcalls, hrest, hpre⟩ := hP
  obtain ⟨-, -, -, hnamed, -, -, -, hat⟩ := (Spec.applies_iff hf).mp happ
  obtain ⟨hg, hn⟩ := and_e (Cond.before_iff.mp (show (Jvm.Cond.and given_1 narrow_1).before args s = true from hpre))
  obtain ⟨gc, g0⟩ := and_e hg
  obtain ⟨u0, g1⟩ := and_e g0
  obtain ⟨u1, g2⟩ := and_e g1
  obtain ⟨u2, g3⟩ := and_e g2
  obtain ⟨u3, g4⟩ := and_e g3
  obtain ⟨v0, v1, v2, v3, v4, rfl⟩ : ∃ v0 v1 v2 v3 v4 : Value, args = #[v0, v1, v2, v3, v4] := by
    have hs : args.size = 5 := by simpa [Cond.value, given_1] using gc
    obtain ⟨L⟩ := args
    match L, hs with
    | [v0, v1, v2, v3, v4], _ => exact ⟨v0, v1, v2, v3, v4, rfl⟩
  have hw := fun d (hd : d ∈ tables_1) => atoms_spec (ws := Jvm.Cond.code x code maxLocals ret :: tables_1) hat d (List.mem_cons_of_mem _ hd)
  obtain ⟨i0, ei0⟩ := isL_v u0
  obtain rfl : v0 = (.long i0) := Option.some.inj ei0
  obtain ⟨i1, ei1⟩ := is_v u1
  obtain rfl : v1 = (.int i1) := Option.some.inj ei1
  obtain ⟨i2, ei2⟩ := is_v u2
  obtain rfl : v2 = (.int i2) := Option.some.inj ei2
  obtain ⟨i3, ei3⟩ := is_v u3
  obtain rfl : v3 = (.int i3) := Option.some.inj ei3
  obtain ⟨i4, ei4⟩ := is_v g4
  obtain rfl : v4 = (.int i4) := Option.some.inj ei4
  obtain ⟨n, o, h1, h2, h3, _, L, rfl, ⟨⟨_, rfl, rfl⟩, N, _⟩, hq⟩ := rm0 l s _ hw s.heap.size s.heap (Nat.le_refl _) i0 i1 i2 i3 i4 p e ha hc hk s m _ below hf ((Spec.applies_iff_loose hf).mp happ).1 ⟨rfl, State.Warmed39.refl s, rfl⟩ trivial
  refine ⟨n, _, h1, h2, h3, hpost _ _ _ _ _ _ ⟨Cond.after_iff.mpr rfl, Cond.after_iff.mpr (eq_i res_at (Term.int_eval (1)) rfl), trivial⟩ ⟨hq.1, hq.2.1, (hq.2.2.sift fun y hy => Or.inr (N y hy)).mono (by decide) (by decide)⟩⟩
theorem main_1_1 : Claimed_1_1 := comes_1 fun _ _ _ _ _ _ h hF => ⟨h.1, hF⟩
theorem main_1_2 : Claimed_1_2 := comes_1 fun _ _ _ _ _ _ h hF => ⟨h.2.1, hF⟩
end Jvm.Pilot.@@N@@
namespace Jvm.Pilot.@@N@@
open Jvm Jvm.ClassFile Sem Op Lib Jvm.Free Jvm.Stand Jvm.Pilot.@@N@@.Jvm.D
/-! MADE BY PROGRAM (witnessworld.py) out of the Statement's table words and the real class files: 11 classes; the members and pool entries that the words name. The judged class is class 1, her method 3. -/
namespace start1
open Jvm.ClassFile
def u (s : String) : CpInfo := .utf8 (stringToUtf16 s)
/-- a pool by its gaps: so many unusable entries, then the entry; so many at the end -/
def gap : Nat → List CpInfo → List CpInfo
  | 0, r => r
  | n + 1, r => .unusable :: gap n r
def poolList (es : List (Nat × CpInfo)) (last : Nat) : List CpInfo := es.foldr (fun e r => gap e.1 (e.2 :: r)) (gap last [])
def pool (es : List (Nat × CpInfo)) (last : Nat) : Array CpInfo := ⟨poolList es last⟩
def fileOf (pool : Array CpInfo) (this : Nat) (attrs : Array Attribute := #[]) (ms : Array MethodInfo := #[]) (fl : Nat := 33) (sup : Nat := 0) (ifs : Array Nat := #[]) (fds : Array FieldInfo := #[]) : ClassFile where
  minorVersion := 0
  majorVersion := 65
  constantPool := pool
  accessFlags := fl
  thisClass := this
  superClass := sup
  interfaces := ifs
  fields := fds
  methods := ms
  attributes := attrs
def plain (name : String) (sup : Option ClassId) : Class where
  name := name
  kind := .ordinary
  loader := none
  accessFlags := 33
  super := sup
  interfaces := #[]
  cf := none
  fields := #[]
  methods := #[]
  instanceTypes := #[]
  staticTypes := #[]
  resolved := #[]
  callSites := []
  init := .initialized
  statics := none
  mirror := none

def pool0 : Array CpInfo := pool [(5, u "<init>"), (0, u "()V"), (1, .class_ 10), (1, u "java/lang/Object")] 113

def k0c0 : Code := { maxStack := 0, maxLocals := 1, code := object_method_1_code, exceptionTable := #[], attributes := #[] }
def k0m0 : Method := { name := "<init>", desc := "()V", sig := { parameters := [], returnType := none }, accessFlags := 1, code := some k0c0 }
/-- java/lang/Object -/
def k0 : Class := { plain "java/lang/Object" none with
  accessFlags := 33
  interfaces := #[]
  cf := some (fileOf pool0 8 #[] #[{ accessFlags := 1, nameIndex := 5, descriptorIndex := 6, attributes := #[] }] 33 0 #[] #[])
  fields := #[]
  methods := #[k0m0]
  instanceTypes := #[]
  staticTypes := #[]
  resolved := Array.replicate 124 none
  statics := none }

def pool1 : Array CpInfo := pool [(2, .class_ 4), (1, u "java/lang/Object"), (0, u "<init>"), (0, u "()V"), (0, .long 18446744073709551615), (1, .methodref 10 11), (0, .class_ 12), (0, .nameAndType 13 14), (0, u "com/example/copyspan/copyspan/exchanges/SenderColours"), (0, u "usedIn"), (0, u "(I)J"), (0, .methodref 16 17), (0, .class_ 18), (0, .nameAndType 19 20), (0, u "com/example/copyspan/copyspan/exchanges/SenderColoursStartPinLaw"), (0, u "beyond"), (0, u "(III)J"), (0, .long 255), (1, .long 3), (1, .integer 2147483647), (0, .methodref 10 27), (0, .nameAndType 5 28), (0, u "(J)V"), (0, .methodref 10 30), (0, .nameAndType 31 32), (0, u "use"), (0, u "(I)V"), (0, .methodref 10 34), (0, .nameAndType 35 6), (0, u "start"), (0, .methodref 10 37), (0, .nameAndType 38 39), (0, u "lowestUnused"), (0, u "()I"), (0, .methodref 16 41), (0, .nameAndType 42 43), (0, u "clean"), (0, u "(Lcom/example/copyspan/copyspan/exchanges/SenderColours;III)Z"), (3, u "law"), (0, u "(JIIII)Z")] 2

def k1m0 : Method := { name := "<init>", desc := "()V", sig := { parameters := [], returnType := none }, accessFlags := 1, code := none }
def k1c1 : Code := { maxStack := 4, maxLocals := 4, code := method_2_code, exceptionTable := #[], attributes := #[] }
def k1m1 : Method := { name := "beyond", desc := "(III)J", sig := { parameters := [.int, .int, .int], returnType := some .long }, accessFlags := 10, code := some k1c1 }
def k1c2 : Code := { maxStack := 5, maxLocals := 4, code := method_3_code, exceptionTable := #[], attributes := #[] }
def k1m2 : Method := { name := "clean", desc := "(Lcom/example/copyspan/copyspan/exchanges/SenderColours;III)Z", sig := { parameters := [(.object "com/example/copyspan/copyspan/exchanges/SenderColours"), .int, .int, .int], returnType := some .boolean }, accessFlags := 10, code := some k1c2 }
def k1c3 : Code := { maxStack := 7, maxLocals := 17, code := code, exceptionTable := #[], attributes := #[] }
def k1m3 : Method := { name := "law", desc := "(JIIII)Z", sig := { parameters := [.long, .int, .int, .int, .int], returnType := some .boolean }, accessFlags := 9, code := some k1c3 }
/-- com/example/copyspan/copyspan/exchanges/SenderColoursStartPinLaw -/
def k1 : Class := { plain "com/example/copyspan/copyspan/exchanges/SenderColoursStartPinLaw" (some 0) with
  accessFlags := 49
  interfaces := #[]
  cf := some (fileOf pool1 16 #[] #[{ accessFlags := 1, nameIndex := 5, descriptorIndex := 6, attributes := #[] }, { accessFlags := 10, nameIndex := 19, descriptorIndex := 20, attributes := #[] }, { accessFlags := 10, nameIndex := 42, descriptorIndex := 43, attributes := #[] }, { accessFlags := 9, nameIndex := 47, descriptorIndex := 48, attributes := #[] }] 49 2 #[] #[])
  fields := #[]
  methods := #[k1m0, k1m1, k1m2, k1m3]
  instanceTypes := #[]
  staticTypes := #[]
  resolved := Array.replicate 51 none
  statics := none }

def pool2 : Array CpInfo := pool [(5, .methodref 6 7), (0, .class_ 8), (0, .nameAndType 9 10), (0, u "java/lang/Object"), (0, u "<init>"), (0, u "()V"), (0, .class_ 12), (0, u "com/example/copyspan/copyspan/exchanges/SenderColours"), (0, .long 2147483639), (8, .fieldref 11 23), (0, .nameAndType 24 25), (0, u "palette"), (0, u "I"), (0, .methodref 11 27), (0, .nameAndType 28 29), (0, u "wordCount"), (0, u "(I)I"), (0, .fieldref 11 31), (0, .nameAndType 32 33), (0, u "words"), (0, u "[J"), (0, .fieldref 11 35), (0, .nameAndType 36 37), (0, u "touched"), (0, u "[I"), (0, .long 64), (1, .fieldref 11 41), (0, .nameAndType 42 25), (0, u "touchedCount"), (0, .fieldref 11 44), (0, .nameAndType 45 25), (0, u "lowestUnused"), (0, .methodref 11 47), (0, .nameAndType 48 49), (0, u "used"), (0, u "(I)Z"), (0, .long 18446744073709551615), (1, u "WORD"), (2, u "MOST"), (1, u "(J)V"), (3, u "()I"), (0, u "start"), (0, u "use"), (0, u "(I)V"), (0, u "usedIn"), (0, u "(I)J")] 2

def k2c0 : Code := { maxStack := 4, maxLocals := 3, code := prog_28_method_1_code, exceptionTable := #[], attributes := #[] }
def k2m0 : Method := { name := "<init>", desc := "(J)V", sig := { parameters := [.long], returnType := none }, accessFlags := 0, code := some k2c0 }
def k2c1 : Code := { maxStack := 4, maxLocals := 1, code := prog_28_method_2_code, exceptionTable := #[], attributes := #[] }
def k2m1 : Method := { name := "wordCount", desc := "(I)I", sig := { parameters := [.int], returnType := some .int }, accessFlags := 8, code := some k2c1 }
def k2c2 : Code := { maxStack := 4, maxLocals := 2, code := prog_28_method_4_code, exceptionTable := #[], attributes := #[] }
def k2m2 : Method := { name := "start", desc := "()V", sig := { parameters := [], returnType := none }, accessFlags := 0, code := some k2c2 }
def k2c3 : Code := { maxStack := 6, maxLocals := 2, code := prog_28_method_5_code, exceptionTable := #[], attributes := #[] }
def k2m3 : Method := { name := "used", desc := "(I)Z", sig := { parameters := [.int], returnType := some .boolean }, accessFlags := 0, code := some k2c3 }
def k2c4 : Code := { maxStack := 8, maxLocals := 3, code := prog_28_method_6_code, exceptionTable := #[], attributes := #[] }
def k2m4 : Method := { name := "use", desc := "(I)V", sig := { parameters := [.int], returnType := none }, accessFlags := 0, code := some k2c4 }
def k2c5 : Code := { maxStack := 4, maxLocals := 4, code := prog_28_method_7_code, exceptionTable := #[], attributes := #[] }
def k2m5 : Method := { name := "usedIn", desc := "(I)J", sig := { parameters := [.int], returnType := some .long }, accessFlags := 0, code := some k2c5 }
def k2c6 : Code := { maxStack := 1, maxLocals := 1, code := prog_28_method_8_code, exceptionTable := #[], attributes := #[] }
def k2m6 : Method := { name := "lowestUnused", desc := "()I", sig := { parameters := [], returnType := some .int }, accessFlags := 0, code := some k2c6 }
/-- com/example/copyspan/copyspan/exchanges/SenderColours -/
def k2 : Class := { plain "com/example/copyspan/copyspan/exchanges/SenderColours" (some 0) with
  accessFlags := 48
  interfaces := #[]
  cf := some (fileOf pool2 11 #[] #[{ accessFlags := 0, nameIndex := 9, descriptorIndex := 57, attributes := #[] }, { accessFlags := 8, nameIndex := 28, descriptorIndex := 29, attributes := #[] }, { accessFlags := 0, nameIndex := 62, descriptorIndex := 10, attributes := #[] }, { accessFlags := 0, nameIndex := 48, descriptorIndex := 49, attributes := #[] }, { accessFlags := 0, nameIndex := 63, descriptorIndex := 64, attributes := #[] }, { accessFlags := 0, nameIndex := 65, descriptorIndex := 66, attributes := #[] }, { accessFlags := 0, nameIndex := 45, descriptorIndex := 61, attributes := #[] }] 48 6 #[] #[{ accessFlags := 24, nameIndex := 52, descriptorIndex := 25, attributes := #[] }, { accessFlags := 26, nameIndex := 55, descriptorIndex := 25, attributes := #[] }, { accessFlags := 18, nameIndex := 24, descriptorIndex := 25, attributes := #[] }, { accessFlags := 18, nameIndex := 32, descriptorIndex := 33, attributes := #[] }, { accessFlags := 18, nameIndex := 36, descriptorIndex := 37, attributes := #[] }, { accessFlags := 2, nameIndex := 42, descriptorIndex := 25, attributes := #[] }, { accessFlags := 2, nameIndex := 45, descriptorIndex := 25, attributes := #[] }])
  fields := #[{ name := "WORD", type := .int, accessFlags := 24, slot := 0, constantValue := 0 }, { name := "MOST", type := .int, accessFlags := 26, slot := 1, constantValue := 0 }, { name := "palette", type := .int, accessFlags := 18, slot := 0, constantValue := 0 }, { name := "words", type := (.array .long), accessFlags := 18, slot := 1, constantValue := 0 }, { name := "touched", type := (.array .int), accessFlags := 18, slot := 2, constantValue := 0 }, { name := "touchedCount", type := .int, accessFlags := 2, slot := 3, constantValue := 0 }, { name := "lowestUnused", type := .int, accessFlags := 2, slot := 4, constantValue := 0 }]
  methods := #[k2m0, k2m1, k2m2, k2m3, k2m4, k2m5, k2m6]
  instanceTypes := #[.int, (.array .long), (.array .int), .int, .int]
  staticTypes := #[.int, .int]
  resolved := Array.replicate 69 none
  statics := none }

def pool3 : Array CpInfo := pool [(1, u "java/lang/Cloneable"), (0, .class_ 1), (0, u "java/lang/Object"), (0, .class_ 3)] 3

/-- java/lang/Cloneable -/
def k3 : Class := { plain "java/lang/Cloneable" (some 0) with
  accessFlags := 1537
  interfaces := #[]
  cf := some (fileOf pool3 2 #[] #[] 1537 4 #[] #[])
  fields := #[]
  methods := #[]
  instanceTypes := #[]
  staticTypes := #[]
  resolved := Array.replicate 8 none
  statics := none }

def pool4 : Array CpInfo := pool [(1, u "java/io/Serializable"), (0, .class_ 1), (0, u "java/lang/Object"), (0, .class_ 3)] 3

/-- java/io/Serializable -/
def k4 : Class := { plain "java/io/Serializable" (some 0) with
  accessFlags := 1537
  interfaces := #[]
  cf := some (fileOf pool4 2 #[] #[] 1537 4 #[] #[])
  fields := #[]
  methods := #[]
  instanceTypes := #[]
  staticTypes := #[]
  resolved := Array.replicate 8 none
  statics := none }

/-- the primitive byte -/
def k5 : Class := { plain "byte" none with kind := .primitive 'B', accessFlags := 0x411 }
/-- [B -/
def k6 : Class := { plain "[B" (some 0) with kind := .array 5 .byte, interfaces := #[3, 4], accessFlags := 1041 }

/-- the primitive int -/
def k7 : Class := { plain "int" none with kind := .primitive 'I', accessFlags := 0x411 }
/-- [I -/
def k8 : Class := { plain "[I" (some 0) with kind := .array 7 .int, interfaces := #[3, 4], accessFlags := 1041 }

/-- the primitive long -/
def k9 : Class := { plain "long" none with kind := .primitive 'J', accessFlags := 0x411 }
/-- [J -/
def k10 : Class := { plain "[J" (some 0) with kind := .array 9 .long, interfaces := #[3, 4], accessFlags := 1041 }

def heap : Heap := #[]
def classes : Array Class := #[k0, k1, k2, k3, k4, k5, k6, k7, k8, k9, k10]
def interned : List (Array UInt16 × Addr) := []
def slotsUsed : Nat := 0
def theMethod : MethodId := ⟨1, 3⟩
def args0 : Array Value := #[.long 97, .int 3, .int 1, .int 2, .int 5]
def aboutOver (below : List Frame) : State where
  vm := { classes := classes, interned := interned.toArray }
  heap := heap
  slotsUsed := slotsUsed
  threads := #[{ frames := .invoking theMethod args0 :: below }]
def below0 : List Frame := [.native { method := ⟨0, 0⟩, args := #[] }]
def about1 : State := aboutOver below0
def p0 : Program := .bare "" "" ""
def e0 : Env := launch0.env 0 0 0
theorem w_frames : about1.frames = Frame.invoking theMethod args0 :: below0 := rfl
set_option maxRecDepth 65536 in
theorem w_args : argsFit about1.vm theMethod args0 = true := by decide +kernel
set_option maxRecDepth 65536 in
theorem w_heap : heapFits about1 = true := by decide +kernel
set_option maxRecDepth 65536 in
theorem w_runnable : about1.curStatus? = some .runnable := by decide +kernel
set_option maxRecDepth 65536 in
theorem w_alone : about1.alone = true := by decide +kernel
set_option maxRecDepth 65536 in
theorem w_named : about1.methodNamed? x = some theMethod := by decide +kernel
set_option maxRecDepth 65536 in
theorem w_hears : about1.hears theMethod below0 = true := by decide +kernel
set_option maxRecDepth 65536 in
theorem w_ripe : about1.ripe theMethod args0 below0 = true := by decide +kernel
theorem w_running : about1.status = .running := rfl
set_option maxRecDepth 65536 in
theorem w_room : about1.hasRoom e0.platform room_1 = true :=
  launch0.hasRoom_least _ room_1 (by decide +kernel) (by decide +kernel) (by decide +kernel) (by decide +kernel) (by decide +kernel) (by decide +kernel)
theorem allAtoms_all (ts : List Jvm.Cond) (a : Array Jvm.Value) (st : Jvm.State) : (allAtoms ts).before a st = ts.all (fun c => c.before a st) := by
  induction ts with
  | nil => rfl
  | cons c t ih =>
    show (Jvm.Cond.and c (allAtoms t)).before a st = _
    rw [Jvm.Cond.before_and, ih, List.all_cons]
def words1 : List Jvm.Cond := Jvm.Cond.code x code maxLocals ret :: tables_1
/-- a 'code' word, met by the world's own term for the bytes: nothing is compared byte by byte -/
theorem code_word {y : MethodName} {bytes : ByteArray} {mx : Nat} {rt : Option FieldType} {a : Array Value} {s : State} {m : MethodId} {meth : Method} {c : Code} (h1 : s.methodNamed? y = some m) (h2 : s.vm.method? m = some meth) (h3 : meth.code = some c) (h4 : c.code = bytes)
    (h5 : (c.maxLocals == mx && c.exceptionTable.isEmpty && decide (c.maxStack ≤ mostOperands) && decide (meth.sig.returnType = rt) && !meth.locks && decide (parseMethodDescriptor y.desc = some meth.sig)) = true) : (Jvm.Cond.code y bytes mx rt).before a s = true := by
  simp only [Bool.and_eq_true, beq_iff_eq, Bool.not_eq_true', decide_eq_true_eq] at h5
  obtain ⟨⟨⟨⟨⟨g1, g2⟩, g3⟩, g4⟩, g5⟩, g6⟩ := h5
  simp [Cond.before, Cond.holds, Cond.value, h1, h2, h3, h4, g1, g2, g3, g4, g5, g6]
def isCode : Jvm.Cond → Bool
  | .code _ _ _ _ => true
  | _ => false
theorem all_split {L : List Jvm.Cond} {P : Jvm.Cond → Bool} (h1 : L.all (fun c => isCode c || P c) = true) (h2 : ∀ c ∈ L.filter isCode, P c = true) : L.all P = true := by
  refine List.all_eq_true.mpr fun c hc => ?_
  have h := List.all_eq_true.mp h1 c hc
  rcases Bool.eq_false_or_eq_true (isCode c) with hi | hi
  · exact h2 c (List.mem_filter.mpr ⟨hc, hi⟩)
  · simpa [hi] using h
set_option maxRecDepth 65536 in
theorem w_c0 : (Jvm.Cond.code x code maxLocals ret).before args0 about1 = true := code_word (m := ⟨1, 3⟩) (meth := k1m3) (c := k1c3) (by decide +kernel) rfl rfl rfl (by decide +kernel)
set_option maxRecDepth 65536 in
theorem w_c1 : (Jvm.Cond.code ({ cls := "com/example/copyspan/copyspan/exchanges/SenderColours", name := "<init>", desc := "(J)V" } : Jvm.MethodName) prog_28_method_1_code (3 : Nat) (Option.none : Option Jvm.ClassFile.FieldType)).before args0 about1 = true := code_word (m := ⟨2, 0⟩) (meth := k2m0) (c := k2c0) (by decide +kernel) rfl rfl rfl (by decide +kernel)
set_option maxRecDepth 65536 in
theorem w_c2 : (Jvm.Cond.code ({ cls := "java/lang/Object", name := "<init>", desc := "()V" } : Jvm.MethodName) object_method_1_code (1 : Nat) (Option.none : Option Jvm.ClassFile.FieldType)).before args0 about1 = true := code_word (m := ⟨0, 0⟩) (meth := k0m0) (c := k0c0) (by decide +kernel) rfl rfl rfl (by decide +kernel)
set_option maxRecDepth 65536 in
theorem w_c3 : (Jvm.Cond.code ({ cls := "com/example/copyspan/copyspan/exchanges/SenderColours", name := "wordCount", desc := "(I)I" } : Jvm.MethodName) prog_28_method_2_code (1 : Nat) (Option.some Jvm.ClassFile.FieldType.int)).before args0 about1 = true := code_word (m := ⟨2, 1⟩) (meth := k2m1) (c := k2c1) (by decide +kernel) rfl rfl rfl (by decide +kernel)
set_option maxRecDepth 65536 in
theorem w_c4 : (Jvm.Cond.code ({ cls := "com/example/copyspan/copyspan/exchanges/SenderColours", name := "start", desc := "()V" } : Jvm.MethodName) prog_28_method_4_code (2 : Nat) (Option.none : Option Jvm.ClassFile.FieldType)).before args0 about1 = true := code_word (m := ⟨2, 2⟩) (meth := k2m2) (c := k2c2) (by decide +kernel) rfl rfl rfl (by decide +kernel)
set_option maxRecDepth 65536 in
theorem w_c5 : (Jvm.Cond.code ({ cls := "com/example/copyspan/copyspan/exchanges/SenderColours", name := "lowestUnused", desc := "()I" } : Jvm.MethodName) prog_28_method_8_code (1 : Nat) (Option.some Jvm.ClassFile.FieldType.int)).before args0 about1 = true := code_word (m := ⟨2, 6⟩) (meth := k2m6) (c := k2c6) (by decide +kernel) rfl rfl rfl (by decide +kernel)
set_option maxRecDepth 65536 in
theorem w_c6 : (Jvm.Cond.code ({ cls := "com/example/copyspan/copyspan/exchanges/SenderColoursStartPinLaw", name := "clean", desc := "(Lcom/example/copyspan/copyspan/exchanges/SenderColours;III)Z" } : Jvm.MethodName) method_3_code (4 : Nat) (Option.some Jvm.ClassFile.FieldType.boolean)).before args0 about1 = true := code_word (m := ⟨1, 2⟩) (meth := k1m2) (c := k1c2) (by decide +kernel) rfl rfl rfl (by decide +kernel)
set_option maxRecDepth 65536 in
theorem w_c7 : (Jvm.Cond.code ({ cls := "com/example/copyspan/copyspan/exchanges/SenderColours", name := "usedIn", desc := "(I)J" } : Jvm.MethodName) prog_28_method_7_code (4 : Nat) (Option.some Jvm.ClassFile.FieldType.long)).before args0 about1 = true := code_word (m := ⟨2, 5⟩) (meth := k2m5) (c := k2c5) (by decide +kernel) rfl rfl rfl (by decide +kernel)
set_option maxRecDepth 65536 in
theorem w_c8 : (Jvm.Cond.code ({ cls := "com/example/copyspan/copyspan/exchanges/SenderColoursStartPinLaw", name := "beyond", desc := "(III)J" } : Jvm.MethodName) method_2_code (4 : Nat) (Option.some Jvm.ClassFile.FieldType.long)).before args0 about1 = true := code_word (m := ⟨1, 1⟩) (meth := k1m1) (c := k1c1) (by decide +kernel) rfl rfl rfl (by decide +kernel)
set_option maxRecDepth 65536 in
theorem w_c9 : (Jvm.Cond.code ({ cls := "com/example/copyspan/copyspan/exchanges/SenderColours", name := "use", desc := "(I)V" } : Jvm.MethodName) prog_28_method_6_code (3 : Nat) (Option.none : Option Jvm.ClassFile.FieldType)).before args0 about1 = true := code_word (m := ⟨2, 4⟩) (meth := k2m4) (c := k2c4) (by decide +kernel) rfl rfl rfl (by decide +kernel)
set_option maxRecDepth 65536 in
theorem w_c10 : (Jvm.Cond.code ({ cls := "com/example/copyspan/copyspan/exchanges/SenderColours", name := "used", desc := "(I)Z" } : Jvm.MethodName) prog_28_method_5_code (2 : Nat) (Option.some Jvm.ClassFile.FieldType.boolean)).before args0 about1 = true := code_word (m := ⟨2, 3⟩) (meth := k2m3) (c := k2c3) (by decide +kernel) rfl rfl rfl (by decide +kernel)
def codes1 : List Jvm.Cond := [Jvm.Cond.code x code maxLocals ret, Jvm.Cond.code ({ cls := "com/example/copyspan/copyspan/exchanges/SenderColours", name := "<init>", desc := "(J)V" } : Jvm.MethodName) prog_28_method_1_code (3 : Nat) (Option.none : Option Jvm.ClassFile.FieldType), Jvm.Cond.code ({ cls := "java/lang/Object", name := "<init>", desc := "()V" } : Jvm.MethodName) object_method_1_code (1 : Nat) (Option.none : Option Jvm.ClassFile.FieldType), Jvm.Cond.code ({ cls := "com/example/copyspan/copyspan/exchanges/SenderColours", name := "wordCount", desc := "(I)I" } : Jvm.MethodName) prog_28_method_2_code (1 : Nat) (Option.some Jvm.ClassFile.FieldType.int), Jvm.Cond.code ({ cls := "com/example/copyspan/copyspan/exchanges/SenderColours", name := "start", desc := "()V" } : Jvm.MethodName) prog_28_method_4_code (2 : Nat) (Option.none : Option Jvm.ClassFile.FieldType), Jvm.Cond.code ({ cls := "com/example/copyspan/copyspan/exchanges/SenderColours", name := "lowestUnused", desc := "()I" } : Jvm.MethodName) prog_28_method_8_code (1 : Nat) (Option.some Jvm.ClassFile.FieldType.int), Jvm.Cond.code ({ cls := "com/example/copyspan/copyspan/exchanges/SenderColoursStartPinLaw", name := "clean", desc := "(Lcom/example/copyspan/copyspan/exchanges/SenderColours;III)Z" } : Jvm.MethodName) method_3_code (4 : Nat) (Option.some Jvm.ClassFile.FieldType.boolean), Jvm.Cond.code ({ cls := "com/example/copyspan/copyspan/exchanges/SenderColours", name := "usedIn", desc := "(I)J" } : Jvm.MethodName) prog_28_method_7_code (4 : Nat) (Option.some Jvm.ClassFile.FieldType.long), Jvm.Cond.code ({ cls := "com/example/copyspan/copyspan/exchanges/SenderColoursStartPinLaw", name := "beyond", desc := "(III)J" } : Jvm.MethodName) method_2_code (4 : Nat) (Option.some Jvm.ClassFile.FieldType.long), Jvm.Cond.code ({ cls := "com/example/copyspan/copyspan/exchanges/SenderColours", name := "use", desc := "(I)V" } : Jvm.MethodName) prog_28_method_6_code (3 : Nat) (Option.none : Option Jvm.ClassFile.FieldType), Jvm.Cond.code ({ cls := "com/example/copyspan/copyspan/exchanges/SenderColours", name := "used", desc := "(I)Z" } : Jvm.MethodName) prog_28_method_5_code (2 : Nat) (Option.some Jvm.ClassFile.FieldType.boolean)]
set_option maxRecDepth 65536 in
theorem codes_eq : words1.filter isCode = codes1 := rfl
theorem w_codes : ∀ c ∈ words1.filter isCode, c.before args0 about1 = true := by
  rw [codes_eq]
  intro c hc
  simp only [codes1, List.mem_cons, List.not_mem_nil, or_false] at hc
  rcases hc with rfl | rfl | rfl | rfl | rfl | rfl | rfl | rfl | rfl | rfl | rfl
  · exact w_c0
  · exact w_c1
  · exact w_c2
  · exact w_c3
  · exact w_c4
  · exact w_c5
  · exact w_c6
  · exact w_c7
  · exact w_c8
  · exact w_c9
  · exact w_c10
set_option maxRecDepth 65536 in
theorem w_t1 : (words1.take 24).all (fun c => isCode c || c.before args0 about1) = true := by decide +kernel
set_option maxRecDepth 65536 in
theorem w_t2 : ((words1.drop 24).take 24).all (fun c => isCode c || c.before args0 about1) = true := by decide +kernel
set_option maxRecDepth 65536 in
theorem w_t3 : ((words1.drop 24).drop 24).all (fun c => isCode c || c.before args0 about1) = true := by decide +kernel
theorem w_tables : (allAtoms (Jvm.Cond.code x code maxLocals ret :: tables_1)).before args0 about1 = true := by
  rw [allAtoms_all]
  show words1.all (fun c => c.before args0 about1) = true
  refine all_split ?_ w_codes
  rw [← List.take_append_drop 24 words1, List.all_append, w_t1, ← List.take_append_drop 24 (words1.drop 24), List.all_append, w_t2, w_t3]
  rfl
set_option maxRecDepth 65536 in
theorem w_case : (Jvm.Cond.and given_1 narrow_1).before args0 about1 = true := by decide +kernel
theorem w_applies : (headSpec (Jvm.Cond.code x code maxLocals ret :: tables_1) room_1).applies x e0.platform about1 = true :=
  (Spec.applies_iff w_frames).mpr ⟨w_running, w_runnable, w_alone, w_named, w_hears, w_ripe, w_room, w_tables⟩
theorem atStart : AtStart classFile x code maxLocals ret World_1 tables_1 room_1 Calls_1 rest_1 Pre_1 launch0 p0 e0 about1 theMethod args0 below0 :=
  ⟨lists_1, trivial, launch0.admits_env _ _ _, launch0.least_env, fairChoices_fair.cas, fairChoices_fair.clock, w_frames, w_args, w_heap, w_applies, trivial, trivial, w_case⟩
end start1
theorem witness_1 : WitnessClaimed_1 := ⟨start1.p0, start1.e0, start1.about1, start1.theMethod, start1.args0, start1.below0, start1.atStart⟩
end Jvm.Pilot.@@N@@
