import JvmDerived
import JvmDerived.Pilot.@@N@@Statement
import JvmDerived.Pilot.@@N@@Code
set_option linter.unusedVariables false
set_option linter.unusedSimpArgs false
namespace Jvm.Pilot.@@N@@
open Jvm Jvm.ClassFile Sem Op Lib Jvm.Free Jvm.Stand Jvm.LawKit Jvm.RoadKit Bundle Jvm.Pilot.@@N@@.Jvm.D

/-! ## own_: from here the walk goes on; said backwards -/
abbrev Ctx := Program × Launch × Env × State × MethodId × Array Value × List Frame × Method × Code
abbrev kP (K : Ctx) : Program := K.1
abbrev kL (K : Ctx) : Launch := K.2.1
abbrev kE (K : Ctx) : Env := K.2.2.1
abbrev kS (K : Ctx) : State := K.2.2.2.1
abbrev kM (K : Ctx) : MethodId := K.2.2.2.2.1
abbrev kA (K : Ctx) : Array Value := K.2.2.2.2.2.1
abbrev kB (K : Ctx) : List Frame := K.2.2.2.2.2.2.1
abbrev kI (K : Ctx) : Method := K.2.2.2.2.2.2.2.1
abbrev kC (K : Ctx) : Code := K.2.2.2.2.2.2.2.2
/-- from pc, with these locals and this stack, over the heap h: the body ends, and Q says what it returns and leaves; only cells from n0 on are written -/
def Go (K : Ctx) (R : Room) (n0 : Nat) (B : State → List Loc → Prop) (Q : Option Value → Heap → Prop) (h : Heap) (cells slots pc : Nat) (Ls : List Slot) (st : List Value) : Prop :=
  ∀ (T : State) (locs : List Loc), Stand (kP K) (kL K) (kE K) R (kS K) (kM K) (kA K) (kB K) (kI K) (kC K) T locs cells slots → Fr n0 locs → T.heap = h →
    ∃ (s₂ : State) (v : Option Value) (L : List Loc), Steps (kP K).tables (kE K) (kB K) (T.setTop (mkF (kM K) pc ⟨Ls⟩ st)) s₂ ∧ s₂.status = .running ∧ Ended s₂ (kB K) (.returned v) ∧ Q v s₂.heap ∧ Fr n0 L ∧ B s₂ L
/-- the frame of an end -/
abbrev nB (s : State) (R : Room) (s₂ : State) (L : List Loc) : Prop := s.WarmedH s₂.vm ∧ s.sameButNew ({ s₂ with vm := s.vm } : State) L R.cells R.slots
def Cx (K : Ctx) (Z : State) (own : String) (bs : ByteArray) (mx : Nat) (rt : Option FieldType) (nm : String) : Prop :=
  (kP K).tables.exec = Jvm.exec ∧ (kC K).code = bs ∧ (kC K).maxLocals = mx ∧ (kS K).vm.findClass own = some (kM K).cls ∧ (kI K).name = nm ∧ (kI K).sig.returnType = rt ∧ (kI K).locks = false ∧ Z.Warmed39 (kS K).vm
/-- a method's contract, at these arguments and this heap -/
def Con (l : Launch) (y : MethodName) (bs : ByteArray) (mx : Nat) (rt : Option FieldType) (ws : List Jvm.Cond) (rm : Room) (Z : State) (n0 : Nat) (as : Array Value) (h : Heap) (Q : Option Value → Heap → Prop) : Prop :=
  MetFree l y (head1 (Jvm.Cond.code y bs mx rt :: ws) rm) (fun a U => a = as ∧ Z.Warmed39 U.vm ∧ U.heap = h) (fun _ _ _ _ _ => True)
    (fun _ U o U' => ∃ v L, o = .returned v ∧ (Q v U'.heap ∧ Fr n0 L ∧ h.size ≤ U'.heap.size) ∧ FrameEnd U o U' L rm.cells rm.slots)
def qI (P : Int32 → Heap → Prop) : Option Value → Heap → Prop := fun v h => ∃ z, v = some (.int z) ∧ P z h
def qJ (P : Int64 → Heap → Prop) : Option Value → Heap → Prop := fun v h => ∃ z, v = some (.long z) ∧ P z h
def qA (P : Addr → Heap → Prop) : Option Value → Heap → Prop := fun v h => ∃ z, v = some (.ref z) ∧ P z h
def qV (P : Heap → Prop) : Option Value → Heap → Prop := fun v h => v = none ∧ P h
theorem con_of_go {l : Launch} {Z : State} {y : MethodName} {bs : ByteArray} {mx : Nat} {rt : Option FieldType} {ws : List Jvm.Cond} {rm : Room} {as : Array Value} {h : Heap} {n0 : Nat} {Q : Option Value → Heap → Prop} {Ls : List Slot}
    (hp : plainFor y = true) (hLs : ∀ m, entryFrame m as mx = mkF m 0 ⟨Ls⟩ []) (G : ∀ K : Ctx, kL K = l → Cx K Z y.cls bs mx rt y.name → Go K rm n0 (nB (kS K) rm) Q h 0 0 0 Ls []) : Con l y bs mx rt ws rm Z n0 as h Q := by
  refine MetFree.of_bodySF hp hisR ?_
  intro p e s m args below meth c s₁ Bd hml hP hK
  obtain ⟨rfl, hZ, hh⟩ := hP
  obtain ⟨s₂, v, L, h1, h2, h3, h4, h5, h6, h7⟩ := G (p, l, e, s, m, args, below, meth, c) rfl ⟨Bd.exec, Bd.bytes, hml, findClass_of_methodNamed Bd.named, (name_of_methodNamed Bd.named Bd.method).1, Bd.returns, Bd.notSynchronized, hZ⟩ s₁ [] (Stand.of_body Bd) (Fr.nil n0) (by rw [← hh, Bd.state]; rfl)
  exact ⟨s₂, .returned v, castTop (hLs m) h1, h2, h3, v, L, rfl, ⟨h4, h5, by rw [← hh]; exact h7.2.1⟩, ⟨v, rfl⟩, h6, h7⟩
theorem Con.mono {l : Launch} {Z : State} {y : MethodName} {bs : ByteArray} {mx : Nat} {rt : Option FieldType} {ws : List Jvm.Cond} {rm : Room} {as : Array Value} {h : Heap} {n0 : Nat} {Q Q' : Option Value → Heap → Prop}
    (C : Con l y bs mx rt ws rm Z n0 as h Q) (q : ∀ v h, Q v h → Q' v h) : Con l y bs mx rt ws rm Z n0 as h Q' := by
  intro p e ha hc hk s m args below hf happ hP hK
  obtain ⟨n, o, h1, h2, h3, v, L, h4, ⟨h5, h6⟩, h7⟩ := C p e ha hc hk s m args below hf happ hP hK
  exact ⟨n, o, h1, h2, h3, v, L, h4, ⟨q _ _ h5, h6⟩, h7⟩
section
variable {K : Ctx} {R : Room} {n0 : Nat} {B : State → List Loc → Prop} {Q : Option Value → Heap → Prop} {h : Heap} {cells slots pc pc' : Nat} {Ls Ls' : List Slot} {st st' rest : List Value} {Z : State} {own : String} {bs : ByteArray} {mx : Nat} {rt : Option FieldType} {nm : String} {a0 : Array Value}
theorem Go.grow {cells' slots' : Nat} (G : Go K R n0 B Q h cells' slots' pc Ls st) (h1 : cells ≤ cells') (h2 : slots ≤ slots') : Go K R n0 B Q h cells slots pc Ls st :=
  fun T locs X N eT => G T locs { X with same := X.same.mono h1 h2 } N eT
theorem Go.step (H : ∀ T : State, At T (kM K) (kC K) (kB K) → ∀ target, Steps (kP K).tables (kE K) (kB K) (T.setTop (mkF (kM K) pc' ⟨Ls'⟩ st')) target → Steps (kP K).tables (kE K) (kB K) (T.setTop (mkF (kM K) pc ⟨Ls⟩ st)) target) (G : Go K R n0 B Q h cells slots pc' Ls' st') : Go K R n0 B Q h cells slots pc Ls st := by
  intro T locs X N eT
  obtain ⟨s₂, v, L, h1, r⟩ := G T locs X N eT
  exact ⟨s₂, v, L, H T X.here _ h1, r⟩
theorem Go.stepX (H : ∀ (T : State) (locs : List Loc), Stand (kP K) (kL K) (kE K) R (kS K) (kM K) (kA K) (kB K) (kI K) (kC K) T locs cells slots → T.heap = h → ∀ target, Steps (kP K).tables (kE K) (kB K) (T.setTop (mkF (kM K) pc' ⟨Ls'⟩ st')) target → Steps (kP K).tables (kE K) (kB K) (T.setTop (mkF (kM K) pc ⟨Ls⟩ st)) target) (G : Go K R n0 B Q h cells slots pc' Ls' st') : Go K R n0 B Q h cells slots pc Ls st := by
  intro T locs X N eT
  obtain ⟨s₂, v, L, h1, r⟩ := G T locs X N eT
  exact ⟨s₂, v, L, H T locs X eT _ h1, r⟩
theorem g_iloadN (hK : Cx K Z own bs mx rt nm) {k : Fin 4} {v : Int32} (hd : decode bs pc = .ok (.iload_n k, 1)) (hl : Ls[k.val]? = some (.val (.int v))) (G : Go K R n0 B Q h cells slots (pc + 1) Ls (.int v :: st)) : Go K R n0 B Q h cells slots pc Ls st :=
  G.step fun T A t S => XS.iloadN A hK.1 rfl (hb hK.2.1 hd) (by simpa using hl) S
theorem g_iload (hK : Cx K Z own bs mx rt nm) {k : Nat} {v : Int32} (hd : decode bs pc = .ok (.iload k, 2)) (hl : Ls[k]? = some (.val (.int v))) (G : Go K R n0 B Q h cells slots (pc + 2) Ls (.int v :: st)) : Go K R n0 B Q h cells slots pc Ls st :=
  G.step fun T A t S => XS.iload A hK.1 rfl (hb hK.2.1 hd) (by simpa using hl) S
theorem g_lloadN (hK : Cx K Z own bs mx rt nm) {k : Fin 4} {v : Int64} (hd : decode bs pc = .ok (.lload_n k, 1)) (hl : Ls[k.val]? = some (.val (.long v))) (G : Go K R n0 B Q h cells slots (pc + 1) Ls (.long v :: st)) : Go K R n0 B Q h cells slots pc Ls st :=
  G.step fun T A t S => XS.lloadN A hK.1 rfl (hb hK.2.1 hd) (by simpa using hl) S
theorem g_lload (hK : Cx K Z own bs mx rt nm) {k : Nat} {v : Int64} (hd : decode bs pc = .ok (.lload k, 2)) (hl : Ls[k]? = some (.val (.long v))) (G : Go K R n0 B Q h cells slots (pc + 2) Ls (.long v :: st)) : Go K R n0 B Q h cells slots pc Ls st :=
  G.step fun T A t S => XS.lload A hK.1 rfl (hb hK.2.1 hd) (by simpa using hl) S
theorem g_aloadN (hK : Cx K Z own bs mx rt nm) {k : Fin 4} {v : Addr} (hd : decode bs pc = .ok (.aload_n k, 1)) (hl : Ls[k.val]? = some (.val (.ref v))) (G : Go K R n0 B Q h cells slots (pc + 1) Ls (.ref v :: st)) : Go K R n0 B Q h cells slots pc Ls st :=
  G.step fun T A t S => XS.aloadN A hK.1 rfl (hb hK.2.1 hd) (by simpa using hl) rfl S
theorem g_aload (hK : Cx K Z own bs mx rt nm) {k : Nat} {v : Addr} (hd : decode bs pc = .ok (.aload k, 2)) (hl : Ls[k]? = some (.val (.ref v))) (G : Go K R n0 B Q h cells slots (pc + 2) Ls (.ref v :: st)) : Go K R n0 B Q h cells slots pc Ls st :=
  G.step fun T A t S => XS.aload A hK.1 rfl (hb hK.2.1 hd) (by simpa using hl) rfl S
theorem g_iconst (hK : Cx K Z own bs mx rt nm) {i : Int} {z : Int32} (hd : decode bs pc = .ok (.iconst i, 1)) (hz : (Int32.ofInt i) = z) (G : Go K R n0 B Q h cells slots (pc + 1) Ls (.int z :: st)) : Go K R n0 B Q h cells slots pc Ls st :=
  G.step fun T A t S => XS.iconst A hK.1 rfl (hb hK.2.1 hd) (by subst hz; exact S)
theorem g_bipush (hK : Cx K Z own bs mx rt nm) {i : Int} {z : Int32} (hd : decode bs pc = .ok (.bipush i, 2)) (hz : (Int8.ofInt i).toInt32 = z) (G : Go K R n0 B Q h cells slots (pc + 2) Ls (.int z :: st)) : Go K R n0 B Q h cells slots pc Ls st :=
  G.step fun T A t S => XS.bipush A hK.1 rfl (hb hK.2.1 hd) (by subst hz; exact S)
theorem g_sipush (hK : Cx K Z own bs mx rt nm) {i : Int} {z : Int32} (hd : decode bs pc = .ok (.sipush i, 3)) (hz : (Int16.ofInt i).toInt32 = z) (G : Go K R n0 B Q h cells slots (pc + 3) Ls (.int z :: st)) : Go K R n0 B Q h cells slots pc Ls st :=
  G.step fun T A t S => XS.sipush A hK.1 rfl (hb hK.2.1 hd) (by subst hz; exact S)
theorem g_lconst (hK : Cx K Z own bs mx rt nm) {k : Fin 2} {z : Int64} (hd : decode bs pc = .ok (.lconst k, 1)) (hz : (Int64.ofNat k) = z) (G : Go K R n0 B Q h cells slots (pc + 1) Ls (.long z :: st)) : Go K R n0 B Q h cells slots pc Ls st :=
  G.step fun T A t S => XS.lconst A hK.1 rfl (hb hK.2.1 hd) (by subst hz; exact S)
theorem g_aconst_null (hK : Cx K Z own bs mx rt nm) (hd : decode bs pc = .ok (.aconst_null, 1)) (G : Go K R n0 B Q h cells slots (pc + 1) Ls (.null :: st)) : Go K R n0 B Q h cells slots pc Ls st :=
  G.step fun T A t S => XS.aconstNull A hK.1 rfl (hb hK.2.1 hd) S
theorem g_iadd (hK : Cx K Z own bs mx rt nm) {x y : Int32} (hd : decode bs pc = .ok (.iadd, 1)) (G : Go K R n0 B Q h cells slots (pc + 1) Ls (.int (x + y) :: rest)) : Go K R n0 B Q h cells slots pc Ls (.int y :: .int x :: rest) :=
  G.step fun T A t S => XS.iadd A hK.1 rfl (hb hK.2.1 hd) rfl S
theorem g_isub (hK : Cx K Z own bs mx rt nm) {x y : Int32} (hd : decode bs pc = .ok (.isub, 1)) (G : Go K R n0 B Q h cells slots (pc + 1) Ls (.int (x - y) :: rest)) : Go K R n0 B Q h cells slots pc Ls (.int y :: .int x :: rest) :=
  G.step fun T A t S => XS.isub A hK.1 rfl (hb hK.2.1 hd) rfl S
theorem g_imul (hK : Cx K Z own bs mx rt nm) {x y : Int32} (hd : decode bs pc = .ok (.imul, 1)) (G : Go K R n0 B Q h cells slots (pc + 1) Ls (.int (x * y) :: rest)) : Go K R n0 B Q h cells slots pc Ls (.int y :: .int x :: rest) :=
  G.step fun T A t S => XS.imul A hK.1 rfl (hb hK.2.1 hd) rfl S
theorem g_iand (hK : Cx K Z own bs mx rt nm) {x y : Int32} (hd : decode bs pc = .ok (.iand, 1)) (G : Go K R n0 B Q h cells slots (pc + 1) Ls (.int (x &&& y) :: rest)) : Go K R n0 B Q h cells slots pc Ls (.int y :: .int x :: rest) :=
  G.step fun T A t S => XS.iand A hK.1 rfl (hb hK.2.1 hd) rfl S
theorem g_ior (hK : Cx K Z own bs mx rt nm) {x y : Int32} (hd : decode bs pc = .ok (.ior, 1)) (G : Go K R n0 B Q h cells slots (pc + 1) Ls (.int (x ||| y) :: rest)) : Go K R n0 B Q h cells slots pc Ls (.int y :: .int x :: rest) :=
  G.step fun T A t S => XS.ior A hK.1 rfl (hb hK.2.1 hd) rfl S
theorem g_ixor (hK : Cx K Z own bs mx rt nm) {x y : Int32} (hd : decode bs pc = .ok (.ixor, 1)) (G : Go K R n0 B Q h cells slots (pc + 1) Ls (.int (x ^^^ y) :: rest)) : Go K R n0 B Q h cells slots pc Ls (.int y :: .int x :: rest) :=
  G.step fun T A t S => XS.ixor A hK.1 rfl (hb hK.2.1 hd) rfl S
theorem g_ishl (hK : Cx K Z own bs mx rt nm) {x y : Int32} (hd : decode bs pc = .ok (.ishl, 1)) (G : Go K R n0 B Q h cells slots (pc + 1) Ls (.int (x <<< (y &&& 31)) :: rest)) : Go K R n0 B Q h cells slots pc Ls (.int y :: .int x :: rest) :=
  G.step fun T A t S => XS.ishl A hK.1 rfl (hb hK.2.1 hd) rfl S
theorem g_ishr (hK : Cx K Z own bs mx rt nm) {x y : Int32} (hd : decode bs pc = .ok (.ishr, 1)) (G : Go K R n0 B Q h cells slots (pc + 1) Ls (.int (x >>> (y &&& 31)) :: rest)) : Go K R n0 B Q h cells slots pc Ls (.int y :: .int x :: rest) :=
  G.step fun T A t S => XS.ishr A hK.1 rfl (hb hK.2.1 hd) rfl S
theorem g_iushr (hK : Cx K Z own bs mx rt nm) {x y : Int32} (hd : decode bs pc = .ok (.iushr, 1)) (G : Go K R n0 B Q h cells slots (pc + 1) Ls (.int ((x.toUInt32 >>> (y &&& 31).toUInt32).toInt32) :: rest)) : Go K R n0 B Q h cells slots pc Ls (.int y :: .int x :: rest) :=
  G.step fun T A t S => XS.iushr A hK.1 rfl (hb hK.2.1 hd) rfl S
theorem irem_mod (x y : Int32) : x - (x / y) * y = x % y := by
  apply Int32.toInt_inj.mp
  have h1 := Int32.le_toInt (x % y)
  have h2 := Int32.toInt_lt (x % y)
  rw [Int32.toInt_sub, Int32.toInt_mul, Int32.toInt_div, Int.bmod_mul_bmod, Int.sub_bmod_bmod, Int.mul_comm (x.toInt.tdiv y.toInt), ← Int.tmod_def, ← Int32.toInt_mod]
  exact Int.bmod_eq_of_le_mul_two (by omega) (by omega)
theorem g_idiv (hK : Cx K Z own bs mx rt nm) {x y : Int32} (hd : decode bs pc = .ok (.idiv, 1)) (hy : y ≠ 0) (G : Go K R n0 B Q h cells slots (pc + 1) Ls (.int (x / y) :: rest)) : Go K R n0 B Q h cells slots pc Ls (.int y :: .int x :: rest) :=
  G.step fun T A t S => XS.idiv A hK.1 rfl (hb hK.2.1 hd) rfl hy S
theorem g_irem (hK : Cx K Z own bs mx rt nm) {x y : Int32} (hd : decode bs pc = .ok (.irem, 1)) (hy : y ≠ 0) (G : Go K R n0 B Q h cells slots (pc + 1) Ls (.int (x % y) :: rest)) : Go K R n0 B Q h cells slots pc Ls (.int y :: .int x :: rest) :=
  G.step fun T A t S => XS.irem A hK.1 rfl (hb hK.2.1 hd) rfl hy (by rw [irem_mod]; exact S)
theorem g_ineg (hK : Cx K Z own bs mx rt nm) {x : Int32} (hd : decode bs pc = .ok (.ineg, 1)) (G : Go K R n0 B Q h cells slots (pc + 1) Ls (.int (-x) :: rest)) : Go K R n0 B Q h cells slots pc Ls (.int x :: rest) :=
  G.step fun T A t S => XS.ineg A hK.1 rfl (hb hK.2.1 hd) rfl S
theorem g_ladd (hK : Cx K Z own bs mx rt nm) {x y : Int64} (hd : decode bs pc = .ok (.ladd, 1)) (G : Go K R n0 B Q h cells slots (pc + 1) Ls (.long (x + y) :: rest)) : Go K R n0 B Q h cells slots pc Ls (.long y :: .long x :: rest) :=
  G.step fun T A t S => XS.ladd A hK.1 rfl (hb hK.2.1 hd) rfl S
theorem g_lsub (hK : Cx K Z own bs mx rt nm) {x y : Int64} (hd : decode bs pc = .ok (.lsub, 1)) (G : Go K R n0 B Q h cells slots (pc + 1) Ls (.long (x - y) :: rest)) : Go K R n0 B Q h cells slots pc Ls (.long y :: .long x :: rest) :=
  G.step fun T A t S => XS.lsub A hK.1 rfl (hb hK.2.1 hd) rfl S
theorem g_lmul (hK : Cx K Z own bs mx rt nm) {x y : Int64} (hd : decode bs pc = .ok (.lmul, 1)) (G : Go K R n0 B Q h cells slots (pc + 1) Ls (.long (x * y) :: rest)) : Go K R n0 B Q h cells slots pc Ls (.long y :: .long x :: rest) :=
  G.step fun T A t S => XS.lmul A hK.1 rfl (hb hK.2.1 hd) rfl S
theorem g_land (hK : Cx K Z own bs mx rt nm) {x y : Int64} (hd : decode bs pc = .ok (.land, 1)) (G : Go K R n0 B Q h cells slots (pc + 1) Ls (.long (x &&& y) :: rest)) : Go K R n0 B Q h cells slots pc Ls (.long y :: .long x :: rest) :=
  G.step fun T A t S => XS.land A hK.1 rfl (hb hK.2.1 hd) rfl S
theorem g_lor (hK : Cx K Z own bs mx rt nm) {x y : Int64} (hd : decode bs pc = .ok (.lor, 1)) (G : Go K R n0 B Q h cells slots (pc + 1) Ls (.long (x ||| y) :: rest)) : Go K R n0 B Q h cells slots pc Ls (.long y :: .long x :: rest) :=
  G.step fun T A t S => XS.lor A hK.1 rfl (hb hK.2.1 hd) rfl S
theorem g_lxor (hK : Cx K Z own bs mx rt nm) {x y : Int64} (hd : decode bs pc = .ok (.lxor, 1)) (G : Go K R n0 B Q h cells slots (pc + 1) Ls (.long (x ^^^ y) :: rest)) : Go K R n0 B Q h cells slots pc Ls (.long y :: .long x :: rest) :=
  G.step fun T A t S => XS.lxor A hK.1 rfl (hb hK.2.1 hd) rfl S
theorem g_ldiv (hK : Cx K Z own bs mx rt nm) {x y : Int64} (hd : decode bs pc = .ok (.ldiv, 1)) (hy : y ≠ 0) (G : Go K R n0 B Q h cells slots (pc + 1) Ls (.long (x / y) :: rest)) : Go K R n0 B Q h cells slots pc Ls (.long y :: .long x :: rest) :=
  G.step fun T A t S => XS.ldiv A hK.1 rfl (hb hK.2.1 hd) rfl hy S
theorem g_lshl (hK : Cx K Z own bs mx rt nm) {x : Int64} {y : Int32} (hd : decode bs pc = .ok (.lshl, 1)) (G : Go K R n0 B Q h cells slots (pc + 1) Ls (.long (x <<< (y &&& 0x3f).toInt64) :: rest)) : Go K R n0 B Q h cells slots pc Ls (.int y :: .long x :: rest) :=
  G.step fun T A t S => XS.lshl A hK.1 rfl (hb hK.2.1 hd) rfl S
theorem g_lshr (hK : Cx K Z own bs mx rt nm) {x : Int64} {y : Int32} (hd : decode bs pc = .ok (.lshr, 1)) (G : Go K R n0 B Q h cells slots (pc + 1) Ls (.long (x >>> (y &&& 0x3f).toInt64) :: rest)) : Go K R n0 B Q h cells slots pc Ls (.int y :: .long x :: rest) :=
  G.step fun T A t S => XS.lshr A hK.1 rfl (hb hK.2.1 hd) rfl S
theorem g_lushr (hK : Cx K Z own bs mx rt nm) {x : Int64} {y : Int32} (hd : decode bs pc = .ok (.lushr, 1)) (G : Go K R n0 B Q h cells slots (pc + 1) Ls (.long ((x.toUInt64 >>> (y &&& 0x3f).toInt64.toUInt64).toInt64) :: rest)) : Go K R n0 B Q h cells slots pc Ls (.int y :: .long x :: rest) :=
  G.step fun T A t S => XS.lushr A hK.1 rfl (hb hK.2.1 hd) rfl S
theorem g_i2l (hK : Cx K Z own bs mx rt nm) {x : Int32} (hd : decode bs pc = .ok (.i2l, 1)) (G : Go K R n0 B Q h cells slots (pc + 1) Ls (.long x.toInt64 :: rest)) : Go K R n0 B Q h cells slots pc Ls (.int x :: rest) :=
  G.step fun T A t S => XS.i2l A hK.1 rfl (hb hK.2.1 hd) rfl S
theorem g_l2i (hK : Cx K Z own bs mx rt nm) {x : Int64} (hd : decode bs pc = .ok (.l2i, 1)) (G : Go K R n0 B Q h cells slots (pc + 1) Ls (.int x.toInt32 :: rest)) : Go K R n0 B Q h cells slots pc Ls (.long x :: rest) :=
  G.step fun T A t S => XS.l2i A hK.1 rfl (hb hK.2.1 hd) rfl S
theorem g_i2b (hK : Cx K Z own bs mx rt nm) {x : Int32} (hd : decode bs pc = .ok (.i2b, 1)) (G : Go K R n0 B Q h cells slots (pc + 1) Ls (.int x.toInt8.toInt32 :: rest)) : Go K R n0 B Q h cells slots pc Ls (.int x :: rest) :=
  G.step fun T A t S => XS.i2b A hK.1 rfl (hb hK.2.1 hd) rfl S
theorem g_dup (hK : Cx K Z own bs mx rt nm) {x : Value} (hd : decode bs pc = .ok (.dup, 1)) (hc : x.category = 1) (G : Go K R n0 B Q h cells slots (pc + 1) Ls (x :: x :: rest)) : Go K R n0 B Q h cells slots pc Ls (x :: rest) :=
  G.step fun T A t S => XS.dup A hK.1 rfl (hb hK.2.1 hd) rfl hc S
theorem g_pop (hK : Cx K Z own bs mx rt nm) {x : Value} (hd : decode bs pc = .ok (.pop, 1)) (hc : x.category = 1) (G : Go K R n0 B Q h cells slots (pc + 1) Ls rest) : Go K R n0 B Q h cells slots pc Ls (x :: rest) :=
  G.step fun T A t S => XS.pop A hK.1 rfl (hb hK.2.1 hd) rfl hc S
theorem g_dup_x1 (hK : Cx K Z own bs mx rt nm) {x y : Value} (hd : decode bs pc = .ok (.dup_x1, 1)) (hc : x.category = 1) (hc2 : y.category = 1) (G : Go K R n0 B Q h cells slots (pc + 1) Ls (x :: y :: x :: rest)) : Go K R n0 B Q h cells slots pc Ls (x :: y :: rest) :=
  G.step fun T A t S => XS.dupX1 A hK.1 rfl (hb hK.2.1 hd) rfl hc hc2 S
theorem g_dup2 (hK : Cx K Z own bs mx rt nm) {x y : Value} (hd : decode bs pc = .ok (.dup2, 1)) (hc : x.category = 1) (hc2 : y.category = 1) (G : Go K R n0 B Q h cells slots (pc + 1) Ls (x :: y :: x :: y :: rest)) : Go K R n0 B Q h cells slots pc Ls (x :: y :: rest) :=
  G.step fun T A t S => XT.dup2 A hK.1 rfl (hb hK.2.1 hd) rfl hc hc2 S
theorem g_goto (hK : Cx K Z own bs mx rt nm) {o : Int} (hd : decode bs pc = .ok (.goto o, 3)) (ho : 0 ≤ (pc : Int) + o ∧ ((pc : Int) + o).toNat = pc') (G : Go K R n0 B Q h cells slots pc' Ls st) : Go K R n0 B Q h cells slots pc Ls st :=
  G.step fun T A t S => XS.goto A hK.1 rfl rfl (hb hK.2.1 hd) ho.1 ho.2 S
theorem ih_eq (x y : Int32) : if_icmp.holds .eq x y = decide (x = y) := by by_cases q : x = y <;> simp [if_icmp.holds, q]
theorem ih_ne (x y : Int32) : if_icmp.holds .ne x y = decide (x ≠ y) := by by_cases q : x = y <;> simp [if_icmp.holds, q]
theorem ih_lt (x y : Int32) : if_icmp.holds .lt x y = decide (x.toInt < y.toInt) := by by_cases q : x.toInt < y.toInt <;> simp [if_icmp.holds, Int32.lt_iff_toInt_lt, Int32.le_iff_toInt_le, q]
theorem ih_ge (x y : Int32) : if_icmp.holds .ge x y = decide (y.toInt ≤ x.toInt) := by by_cases q : y.toInt ≤ x.toInt <;> simp [if_icmp.holds, Int32.lt_iff_toInt_lt, Int32.le_iff_toInt_le, q]
theorem ih_gt (x y : Int32) : if_icmp.holds .gt x y = decide (y.toInt < x.toInt) := by by_cases q : y.toInt < x.toInt <;> simp [if_icmp.holds, Int32.lt_iff_toInt_lt, Int32.le_iff_toInt_le, q]
theorem ih_le (x y : Int32) : if_icmp.holds .le x y = decide (x.toInt ≤ y.toInt) := by by_cases q : x.toInt ≤ y.toInt <;> simp [if_icmp.holds, Int32.lt_iff_toInt_lt, Int32.le_iff_toInt_le, q]
theorem gY_icmp_eq (hK : Cx K Z own bs mx rt nm) {o : Int} {x y : Int32} (hd : decode bs pc = .ok (.if_icmp .eq o, 3)) (ho : 0 ≤ (pc : Int) + o ∧ ((pc : Int) + o).toNat = pc') (q : x = y) (G : Go K R n0 B Q h cells slots pc' Ls rest) : Go K R n0 B Q h cells slots pc Ls (.int y :: .int x :: rest) :=
  G.step fun T A t S => XS.icmpYes A hK.1 rfl rfl (hb hK.2.1 hd) rfl (by rw [ih_eq]; exact decide_eq_true q) ho.1 ho.2 S
theorem gN_icmp_eq (hK : Cx K Z own bs mx rt nm) {o : Int} {x y : Int32} (hd : decode bs pc = .ok (.if_icmp .eq o, 3)) (q : x ≠ y) (G : Go K R n0 B Q h cells slots (pc + 3) Ls rest) : Go K R n0 B Q h cells slots pc Ls (.int y :: .int x :: rest) :=
  G.step fun T A t S => XS.icmpNo A hK.1 rfl (hb hK.2.1 hd) rfl (by rw [ih_eq]; exact decide_eq_false (q)) S
theorem g_icmp_eq (hK : Cx K Z own bs mx rt nm) {o : Int} {x y : Int32} (hd : decode bs pc = .ok (.if_icmp .eq o, 3)) (ho : 0 ≤ (pc : Int) + o ∧ ((pc : Int) + o).toNat = pc') (G1 : x = y → Go K R n0 B Q h cells slots pc' Ls rest) (G2 : x ≠ y → Go K R n0 B Q h cells slots (pc + 3) Ls rest) : Go K R n0 B Q h cells slots pc Ls (.int y :: .int x :: rest) :=
  (Decidable.em (x = y)).elim (fun z => gY_icmp_eq hK hd ho z (G1 z)) (fun z => gN_icmp_eq hK hd (z) ((fun z => G2 z) z))
theorem gY_icmp_ne (hK : Cx K Z own bs mx rt nm) {o : Int} {x y : Int32} (hd : decode bs pc = .ok (.if_icmp .ne o, 3)) (ho : 0 ≤ (pc : Int) + o ∧ ((pc : Int) + o).toNat = pc') (q : x ≠ y) (G : Go K R n0 B Q h cells slots pc' Ls rest) : Go K R n0 B Q h cells slots pc Ls (.int y :: .int x :: rest) :=
  G.step fun T A t S => XS.icmpYes A hK.1 rfl rfl (hb hK.2.1 hd) rfl (by rw [ih_ne]; exact decide_eq_true q) ho.1 ho.2 S
theorem gN_icmp_ne (hK : Cx K Z own bs mx rt nm) {o : Int} {x y : Int32} (hd : decode bs pc = .ok (.if_icmp .ne o, 3)) (q : x = y) (G : Go K R n0 B Q h cells slots (pc + 3) Ls rest) : Go K R n0 B Q h cells slots pc Ls (.int y :: .int x :: rest) :=
  G.step fun T A t S => XS.icmpNo A hK.1 rfl (hb hK.2.1 hd) rfl (by rw [ih_ne]; exact decide_eq_false (fun z => z q)) S
theorem g_icmp_ne (hK : Cx K Z own bs mx rt nm) {o : Int} {x y : Int32} (hd : decode bs pc = .ok (.if_icmp .ne o, 3)) (ho : 0 ≤ (pc : Int) + o ∧ ((pc : Int) + o).toNat = pc') (G1 : x ≠ y → Go K R n0 B Q h cells slots pc' Ls rest) (G2 : x = y → Go K R n0 B Q h cells slots (pc + 3) Ls rest) : Go K R n0 B Q h cells slots pc Ls (.int y :: .int x :: rest) :=
  (Decidable.em (x ≠ y)).elim (fun z => gY_icmp_ne hK hd ho z (G1 z)) (fun z => gN_icmp_ne hK hd (Decidable.not_not.mp z) ((fun z => G2 (Decidable.not_not.mp z)) z))
theorem gY_icmp_lt (hK : Cx K Z own bs mx rt nm) {o : Int} {x y : Int32} (hd : decode bs pc = .ok (.if_icmp .lt o, 3)) (ho : 0 ≤ (pc : Int) + o ∧ ((pc : Int) + o).toNat = pc') (q : x.toInt < y.toInt) (G : Go K R n0 B Q h cells slots pc' Ls rest) : Go K R n0 B Q h cells slots pc Ls (.int y :: .int x :: rest) :=
  G.step fun T A t S => XS.icmpYes A hK.1 rfl rfl (hb hK.2.1 hd) rfl (by rw [ih_lt]; exact decide_eq_true q) ho.1 ho.2 S
theorem gN_icmp_lt (hK : Cx K Z own bs mx rt nm) {o : Int} {x y : Int32} (hd : decode bs pc = .ok (.if_icmp .lt o, 3)) (q : y.toInt ≤ x.toInt) (G : Go K R n0 B Q h cells slots (pc + 3) Ls rest) : Go K R n0 B Q h cells slots pc Ls (.int y :: .int x :: rest) :=
  G.step fun T A t S => XS.icmpNo A hK.1 rfl (hb hK.2.1 hd) rfl (by rw [ih_lt]; exact decide_eq_false (Int.not_lt.mpr q)) S
theorem g_icmp_lt (hK : Cx K Z own bs mx rt nm) {o : Int} {x y : Int32} (hd : decode bs pc = .ok (.if_icmp .lt o, 3)) (ho : 0 ≤ (pc : Int) + o ∧ ((pc : Int) + o).toNat = pc') (G1 : x.toInt < y.toInt → Go K R n0 B Q h cells slots pc' Ls rest) (G2 : y.toInt ≤ x.toInt → Go K R n0 B Q h cells slots (pc + 3) Ls rest) : Go K R n0 B Q h cells slots pc Ls (.int y :: .int x :: rest) :=
  (Decidable.em (x.toInt < y.toInt)).elim (fun z => gY_icmp_lt hK hd ho z (G1 z)) (fun z => gN_icmp_lt hK hd (Int.not_lt.mp z) ((fun z => G2 (Int.not_lt.mp z)) z))
theorem gY_icmp_ge (hK : Cx K Z own bs mx rt nm) {o : Int} {x y : Int32} (hd : decode bs pc = .ok (.if_icmp .ge o, 3)) (ho : 0 ≤ (pc : Int) + o ∧ ((pc : Int) + o).toNat = pc') (q : y.toInt ≤ x.toInt) (G : Go K R n0 B Q h cells slots pc' Ls rest) : Go K R n0 B Q h cells slots pc Ls (.int y :: .int x :: rest) :=
  G.step fun T A t S => XS.icmpYes A hK.1 rfl rfl (hb hK.2.1 hd) rfl (by rw [ih_ge]; exact decide_eq_true q) ho.1 ho.2 S
theorem gN_icmp_ge (hK : Cx K Z own bs mx rt nm) {o : Int} {x y : Int32} (hd : decode bs pc = .ok (.if_icmp .ge o, 3)) (q : x.toInt < y.toInt) (G : Go K R n0 B Q h cells slots (pc + 3) Ls rest) : Go K R n0 B Q h cells slots pc Ls (.int y :: .int x :: rest) :=
  G.step fun T A t S => XS.icmpNo A hK.1 rfl (hb hK.2.1 hd) rfl (by rw [ih_ge]; exact decide_eq_false (Int.not_le.mpr q)) S
theorem g_icmp_ge (hK : Cx K Z own bs mx rt nm) {o : Int} {x y : Int32} (hd : decode bs pc = .ok (.if_icmp .ge o, 3)) (ho : 0 ≤ (pc : Int) + o ∧ ((pc : Int) + o).toNat = pc') (G1 : y.toInt ≤ x.toInt → Go K R n0 B Q h cells slots pc' Ls rest) (G2 : x.toInt < y.toInt → Go K R n0 B Q h cells slots (pc + 3) Ls rest) : Go K R n0 B Q h cells slots pc Ls (.int y :: .int x :: rest) :=
  (Decidable.em (y.toInt ≤ x.toInt)).elim (fun z => gY_icmp_ge hK hd ho z (G1 z)) (fun z => gN_icmp_ge hK hd (Int.not_le.mp z) ((fun z => G2 (Int.not_le.mp z)) z))
theorem gY_icmp_gt (hK : Cx K Z own bs mx rt nm) {o : Int} {x y : Int32} (hd : decode bs pc = .ok (.if_icmp .gt o, 3)) (ho : 0 ≤ (pc : Int) + o ∧ ((pc : Int) + o).toNat = pc') (q : y.toInt < x.toInt) (G : Go K R n0 B Q h cells slots pc' Ls rest) : Go K R n0 B Q h cells slots pc Ls (.int y :: .int x :: rest) :=
  G.step fun T A t S => XS.icmpYes A hK.1 rfl rfl (hb hK.2.1 hd) rfl (by rw [ih_gt]; exact decide_eq_true q) ho.1 ho.2 S
theorem gN_icmp_gt (hK : Cx K Z own bs mx rt nm) {o : Int} {x y : Int32} (hd : decode bs pc = .ok (.if_icmp .gt o, 3)) (q : x.toInt ≤ y.toInt) (G : Go K R n0 B Q h cells slots (pc + 3) Ls rest) : Go K R n0 B Q h cells slots pc Ls (.int y :: .int x :: rest) :=
  G.step fun T A t S => XS.icmpNo A hK.1 rfl (hb hK.2.1 hd) rfl (by rw [ih_gt]; exact decide_eq_false (Int.not_lt.mpr q)) S
theorem g_icmp_gt (hK : Cx K Z own bs mx rt nm) {o : Int} {x y : Int32} (hd : decode bs pc = .ok (.if_icmp .gt o, 3)) (ho : 0 ≤ (pc : Int) + o ∧ ((pc : Int) + o).toNat = pc') (G1 : y.toInt < x.toInt → Go K R n0 B Q h cells slots pc' Ls rest) (G2 : x.toInt ≤ y.toInt → Go K R n0 B Q h cells slots (pc + 3) Ls rest) : Go K R n0 B Q h cells slots pc Ls (.int y :: .int x :: rest) :=
  (Decidable.em (y.toInt < x.toInt)).elim (fun z => gY_icmp_gt hK hd ho z (G1 z)) (fun z => gN_icmp_gt hK hd (Int.not_lt.mp z) ((fun z => G2 (Int.not_lt.mp z)) z))
theorem gY_icmp_le (hK : Cx K Z own bs mx rt nm) {o : Int} {x y : Int32} (hd : decode bs pc = .ok (.if_icmp .le o, 3)) (ho : 0 ≤ (pc : Int) + o ∧ ((pc : Int) + o).toNat = pc') (q : x.toInt ≤ y.toInt) (G : Go K R n0 B Q h cells slots pc' Ls rest) : Go K R n0 B Q h cells slots pc Ls (.int y :: .int x :: rest) :=
  G.step fun T A t S => XS.icmpYes A hK.1 rfl rfl (hb hK.2.1 hd) rfl (by rw [ih_le]; exact decide_eq_true q) ho.1 ho.2 S
theorem gN_icmp_le (hK : Cx K Z own bs mx rt nm) {o : Int} {x y : Int32} (hd : decode bs pc = .ok (.if_icmp .le o, 3)) (q : y.toInt < x.toInt) (G : Go K R n0 B Q h cells slots (pc + 3) Ls rest) : Go K R n0 B Q h cells slots pc Ls (.int y :: .int x :: rest) :=
  G.step fun T A t S => XS.icmpNo A hK.1 rfl (hb hK.2.1 hd) rfl (by rw [ih_le]; exact decide_eq_false (Int.not_le.mpr q)) S
theorem g_icmp_le (hK : Cx K Z own bs mx rt nm) {o : Int} {x y : Int32} (hd : decode bs pc = .ok (.if_icmp .le o, 3)) (ho : 0 ≤ (pc : Int) + o ∧ ((pc : Int) + o).toNat = pc') (G1 : x.toInt ≤ y.toInt → Go K R n0 B Q h cells slots pc' Ls rest) (G2 : y.toInt < x.toInt → Go K R n0 B Q h cells slots (pc + 3) Ls rest) : Go K R n0 B Q h cells slots pc Ls (.int y :: .int x :: rest) :=
  (Decidable.em (x.toInt ≤ y.toInt)).elim (fun z => gY_icmp_le hK hd ho z (G1 z)) (fun z => gN_icmp_le hK hd (Int.not_le.mp z) ((fun z => G2 (Int.not_le.mp z)) z))
theorem gY_if_eq (hK : Cx K Z own bs mx rt nm) {o : Int} {x : Int32} (hd : decode bs pc = .ok (.ifCond .eq o, 3)) (ho : 0 ≤ (pc : Int) + o ∧ ((pc : Int) + o).toNat = pc') (q : x = 0) (G : Go K R n0 B Q h cells slots pc' Ls rest) : Go K R n0 B Q h cells slots pc Ls (.int x :: rest) :=
  G.step fun T A t S => XS.ifYes A hK.1 rfl rfl (hb hK.2.1 hd) rfl (by rw [if0, ih_eq]; exact decide_eq_true q) ho.1 ho.2 S
theorem gN_if_eq (hK : Cx K Z own bs mx rt nm) {o : Int} {x : Int32} (hd : decode bs pc = .ok (.ifCond .eq o, 3)) (q : x ≠ 0) (G : Go K R n0 B Q h cells slots (pc + 3) Ls rest) : Go K R n0 B Q h cells slots pc Ls (.int x :: rest) :=
  G.step fun T A t S => XS.ifNo A hK.1 rfl (hb hK.2.1 hd) rfl (by rw [if0, ih_eq]; exact decide_eq_false (q)) S
theorem g_if_eq (hK : Cx K Z own bs mx rt nm) {o : Int} {x : Int32} (hd : decode bs pc = .ok (.ifCond .eq o, 3)) (ho : 0 ≤ (pc : Int) + o ∧ ((pc : Int) + o).toNat = pc') (G1 : x = 0 → Go K R n0 B Q h cells slots pc' Ls rest) (G2 : x ≠ 0 → Go K R n0 B Q h cells slots (pc + 3) Ls rest) : Go K R n0 B Q h cells slots pc Ls (.int x :: rest) :=
  (Decidable.em (x = 0)).elim (fun z => gY_if_eq hK hd ho z (G1 z)) (fun z => gN_if_eq hK hd (z) (G2 (z)))
theorem gY_if_ne (hK : Cx K Z own bs mx rt nm) {o : Int} {x : Int32} (hd : decode bs pc = .ok (.ifCond .ne o, 3)) (ho : 0 ≤ (pc : Int) + o ∧ ((pc : Int) + o).toNat = pc') (q : x ≠ 0) (G : Go K R n0 B Q h cells slots pc' Ls rest) : Go K R n0 B Q h cells slots pc Ls (.int x :: rest) :=
  G.step fun T A t S => XS.ifYes A hK.1 rfl rfl (hb hK.2.1 hd) rfl (by rw [if0, ih_ne]; exact decide_eq_true q) ho.1 ho.2 S
theorem gN_if_ne (hK : Cx K Z own bs mx rt nm) {o : Int} {x : Int32} (hd : decode bs pc = .ok (.ifCond .ne o, 3)) (q : x = 0) (G : Go K R n0 B Q h cells slots (pc + 3) Ls rest) : Go K R n0 B Q h cells slots pc Ls (.int x :: rest) :=
  G.step fun T A t S => XS.ifNo A hK.1 rfl (hb hK.2.1 hd) rfl (by rw [if0, ih_ne]; exact decide_eq_false (fun z => z q)) S
theorem g_if_ne (hK : Cx K Z own bs mx rt nm) {o : Int} {x : Int32} (hd : decode bs pc = .ok (.ifCond .ne o, 3)) (ho : 0 ≤ (pc : Int) + o ∧ ((pc : Int) + o).toNat = pc') (G1 : x ≠ 0 → Go K R n0 B Q h cells slots pc' Ls rest) (G2 : x = 0 → Go K R n0 B Q h cells slots (pc + 3) Ls rest) : Go K R n0 B Q h cells slots pc Ls (.int x :: rest) :=
  (Decidable.em (x ≠ 0)).elim (fun z => gY_if_ne hK hd ho z (G1 z)) (fun z => gN_if_ne hK hd (Decidable.not_not.mp z) (G2 (Decidable.not_not.mp z)))
theorem gY_if_lt (hK : Cx K Z own bs mx rt nm) {o : Int} {x : Int32} (hd : decode bs pc = .ok (.ifCond .lt o, 3)) (ho : 0 ≤ (pc : Int) + o ∧ ((pc : Int) + o).toNat = pc') (q : x.toInt < 0) (G : Go K R n0 B Q h cells slots pc' Ls rest) : Go K R n0 B Q h cells slots pc Ls (.int x :: rest) :=
  G.step fun T A t S => XS.ifYes A hK.1 rfl rfl (hb hK.2.1 hd) rfl (by rw [if0, ih_lt]; exact decide_eq_true q) ho.1 ho.2 S
theorem gN_if_lt (hK : Cx K Z own bs mx rt nm) {o : Int} {x : Int32} (hd : decode bs pc = .ok (.ifCond .lt o, 3)) (q : 0 ≤ x.toInt) (G : Go K R n0 B Q h cells slots (pc + 3) Ls rest) : Go K R n0 B Q h cells slots pc Ls (.int x :: rest) :=
  G.step fun T A t S => XS.ifNo A hK.1 rfl (hb hK.2.1 hd) rfl (by rw [if0, ih_lt]; exact decide_eq_false (Int.not_lt.mpr q)) S
theorem g_if_lt (hK : Cx K Z own bs mx rt nm) {o : Int} {x : Int32} (hd : decode bs pc = .ok (.ifCond .lt o, 3)) (ho : 0 ≤ (pc : Int) + o ∧ ((pc : Int) + o).toNat = pc') (G1 : x.toInt < 0 → Go K R n0 B Q h cells slots pc' Ls rest) (G2 : 0 ≤ x.toInt → Go K R n0 B Q h cells slots (pc + 3) Ls rest) : Go K R n0 B Q h cells slots pc Ls (.int x :: rest) :=
  (Decidable.em (x.toInt < 0)).elim (fun z => gY_if_lt hK hd ho z (G1 z)) (fun z => gN_if_lt hK hd (Int.not_lt.mp z) (G2 (Int.not_lt.mp z)))
theorem gY_if_ge (hK : Cx K Z own bs mx rt nm) {o : Int} {x : Int32} (hd : decode bs pc = .ok (.ifCond .ge o, 3)) (ho : 0 ≤ (pc : Int) + o ∧ ((pc : Int) + o).toNat = pc') (q : 0 ≤ x.toInt) (G : Go K R n0 B Q h cells slots pc' Ls rest) : Go K R n0 B Q h cells slots pc Ls (.int x :: rest) :=
  G.step fun T A t S => XS.ifYes A hK.1 rfl rfl (hb hK.2.1 hd) rfl (by rw [if0, ih_ge]; exact decide_eq_true q) ho.1 ho.2 S
theorem gN_if_ge (hK : Cx K Z own bs mx rt nm) {o : Int} {x : Int32} (hd : decode bs pc = .ok (.ifCond .ge o, 3)) (q : x.toInt < 0) (G : Go K R n0 B Q h cells slots (pc + 3) Ls rest) : Go K R n0 B Q h cells slots pc Ls (.int x :: rest) :=
  G.step fun T A t S => XS.ifNo A hK.1 rfl (hb hK.2.1 hd) rfl (by rw [if0, ih_ge]; exact decide_eq_false (Int.not_le.mpr q)) S
theorem g_if_ge (hK : Cx K Z own bs mx rt nm) {o : Int} {x : Int32} (hd : decode bs pc = .ok (.ifCond .ge o, 3)) (ho : 0 ≤ (pc : Int) + o ∧ ((pc : Int) + o).toNat = pc') (G1 : 0 ≤ x.toInt → Go K R n0 B Q h cells slots pc' Ls rest) (G2 : x.toInt < 0 → Go K R n0 B Q h cells slots (pc + 3) Ls rest) : Go K R n0 B Q h cells slots pc Ls (.int x :: rest) :=
  (Decidable.em (0 ≤ x.toInt)).elim (fun z => gY_if_ge hK hd ho z (G1 z)) (fun z => gN_if_ge hK hd (Int.not_le.mp z) (G2 (Int.not_le.mp z)))
theorem gY_if_gt (hK : Cx K Z own bs mx rt nm) {o : Int} {x : Int32} (hd : decode bs pc = .ok (.ifCond .gt o, 3)) (ho : 0 ≤ (pc : Int) + o ∧ ((pc : Int) + o).toNat = pc') (q : 0 < x.toInt) (G : Go K R n0 B Q h cells slots pc' Ls rest) : Go K R n0 B Q h cells slots pc Ls (.int x :: rest) :=
  G.step fun T A t S => XS.ifYes A hK.1 rfl rfl (hb hK.2.1 hd) rfl (by rw [if0, ih_gt]; exact decide_eq_true q) ho.1 ho.2 S
theorem gN_if_gt (hK : Cx K Z own bs mx rt nm) {o : Int} {x : Int32} (hd : decode bs pc = .ok (.ifCond .gt o, 3)) (q : x.toInt ≤ 0) (G : Go K R n0 B Q h cells slots (pc + 3) Ls rest) : Go K R n0 B Q h cells slots pc Ls (.int x :: rest) :=
  G.step fun T A t S => XS.ifNo A hK.1 rfl (hb hK.2.1 hd) rfl (by rw [if0, ih_gt]; exact decide_eq_false (Int.not_lt.mpr q)) S
theorem g_if_gt (hK : Cx K Z own bs mx rt nm) {o : Int} {x : Int32} (hd : decode bs pc = .ok (.ifCond .gt o, 3)) (ho : 0 ≤ (pc : Int) + o ∧ ((pc : Int) + o).toNat = pc') (G1 : 0 < x.toInt → Go K R n0 B Q h cells slots pc' Ls rest) (G2 : x.toInt ≤ 0 → Go K R n0 B Q h cells slots (pc + 3) Ls rest) : Go K R n0 B Q h cells slots pc Ls (.int x :: rest) :=
  (Decidable.em (0 < x.toInt)).elim (fun z => gY_if_gt hK hd ho z (G1 z)) (fun z => gN_if_gt hK hd (Int.not_lt.mp z) (G2 (Int.not_lt.mp z)))
theorem gY_if_le (hK : Cx K Z own bs mx rt nm) {o : Int} {x : Int32} (hd : decode bs pc = .ok (.ifCond .le o, 3)) (ho : 0 ≤ (pc : Int) + o ∧ ((pc : Int) + o).toNat = pc') (q : x.toInt ≤ 0) (G : Go K R n0 B Q h cells slots pc' Ls rest) : Go K R n0 B Q h cells slots pc Ls (.int x :: rest) :=
  G.step fun T A t S => XS.ifYes A hK.1 rfl rfl (hb hK.2.1 hd) rfl (by rw [if0, ih_le]; exact decide_eq_true q) ho.1 ho.2 S
theorem gN_if_le (hK : Cx K Z own bs mx rt nm) {o : Int} {x : Int32} (hd : decode bs pc = .ok (.ifCond .le o, 3)) (q : 0 < x.toInt) (G : Go K R n0 B Q h cells slots (pc + 3) Ls rest) : Go K R n0 B Q h cells slots pc Ls (.int x :: rest) :=
  G.step fun T A t S => XS.ifNo A hK.1 rfl (hb hK.2.1 hd) rfl (by rw [if0, ih_le]; exact decide_eq_false (Int.not_le.mpr q)) S
theorem g_if_le (hK : Cx K Z own bs mx rt nm) {o : Int} {x : Int32} (hd : decode bs pc = .ok (.ifCond .le o, 3)) (ho : 0 ≤ (pc : Int) + o ∧ ((pc : Int) + o).toNat = pc') (G1 : x.toInt ≤ 0 → Go K R n0 B Q h cells slots pc' Ls rest) (G2 : 0 < x.toInt → Go K R n0 B Q h cells slots (pc + 3) Ls rest) : Go K R n0 B Q h cells slots pc Ls (.int x :: rest) :=
  (Decidable.em (x.toInt ≤ 0)).elim (fun z => gY_if_le hK hd ho z (G1 z)) (fun z => gN_if_le hK hd (Int.not_le.mp z) (G2 (Int.not_le.mp z)))
theorem gY_lif_eq (hK : Cx K Z own bs mx rt nm) {o : Int} {x y : Int64} (hd0 : decode bs pc = .ok (.lcmp, 1)) (hd : decode bs (pc + 1) = .ok (.ifCond .eq o, 3)) (ho : 0 ≤ ((pc + 1 : Nat) : Int) + o ∧ (((pc + 1 : Nat) : Int) + o).toNat = pc') (q : x = y) (G : Go K R n0 B Q h cells slots pc' Ls rest) : Go K R n0 B Q h cells slots pc Ls (.long y :: .long x :: rest) :=
  Go.step (fun T A t S => XS.lcmp A hK.1 rfl (hb hK.2.1 hd0) rfl S) (gY_if_eq (x := lcmpW x y) hK hd ho ((lw_eq x y).mpr q) G)
theorem gN_lif_eq (hK : Cx K Z own bs mx rt nm) {o : Int} {x y : Int64} (hd0 : decode bs pc = .ok (.lcmp, 1)) (hd : decode bs (pc + 1) = .ok (.ifCond .eq o, 3)) (q : x ≠ y) (G : Go K R n0 B Q h cells slots (pc + 4) Ls rest) : Go K R n0 B Q h cells slots pc Ls (.long y :: .long x :: rest) :=
  Go.step (fun T A t S => XS.lcmp A hK.1 rfl (hb hK.2.1 hd0) rfl S) (gN_if_eq (x := lcmpW x y) hK hd (fun z => q ((lw_eq x y).mp z)) G)
theorem g_lif_eq (hK : Cx K Z own bs mx rt nm) {o : Int} {x y : Int64} (hd0 : decode bs pc = .ok (.lcmp, 1)) (hd : decode bs (pc + 1) = .ok (.ifCond .eq o, 3)) (ho : 0 ≤ ((pc + 1 : Nat) : Int) + o ∧ (((pc + 1 : Nat) : Int) + o).toNat = pc') (G1 : x = y → Go K R n0 B Q h cells slots pc' Ls rest) (G2 : x ≠ y → Go K R n0 B Q h cells slots (pc + 4) Ls rest) : Go K R n0 B Q h cells slots pc Ls (.long y :: .long x :: rest) :=
  (Decidable.em (x = y)).elim (fun z => gY_lif_eq hK hd0 hd ho z (G1 z)) (fun z => gN_lif_eq hK hd0 hd (z) (G2 (z)))
theorem gY_lif_ne (hK : Cx K Z own bs mx rt nm) {o : Int} {x y : Int64} (hd0 : decode bs pc = .ok (.lcmp, 1)) (hd : decode bs (pc + 1) = .ok (.ifCond .ne o, 3)) (ho : 0 ≤ ((pc + 1 : Nat) : Int) + o ∧ (((pc + 1 : Nat) : Int) + o).toNat = pc') (q : x ≠ y) (G : Go K R n0 B Q h cells slots pc' Ls rest) : Go K R n0 B Q h cells slots pc Ls (.long y :: .long x :: rest) :=
  Go.step (fun T A t S => XS.lcmp A hK.1 rfl (hb hK.2.1 hd0) rfl S) (gY_if_ne (x := lcmpW x y) hK hd ho (fun z => q ((lw_eq x y).mp z)) G)
theorem gN_lif_ne (hK : Cx K Z own bs mx rt nm) {o : Int} {x y : Int64} (hd0 : decode bs pc = .ok (.lcmp, 1)) (hd : decode bs (pc + 1) = .ok (.ifCond .ne o, 3)) (q : x = y) (G : Go K R n0 B Q h cells slots (pc + 4) Ls rest) : Go K R n0 B Q h cells slots pc Ls (.long y :: .long x :: rest) :=
  Go.step (fun T A t S => XS.lcmp A hK.1 rfl (hb hK.2.1 hd0) rfl S) (gN_if_ne (x := lcmpW x y) hK hd ((lw_eq x y).mpr q) G)
theorem g_lif_ne (hK : Cx K Z own bs mx rt nm) {o : Int} {x y : Int64} (hd0 : decode bs pc = .ok (.lcmp, 1)) (hd : decode bs (pc + 1) = .ok (.ifCond .ne o, 3)) (ho : 0 ≤ ((pc + 1 : Nat) : Int) + o ∧ (((pc + 1 : Nat) : Int) + o).toNat = pc') (G1 : x ≠ y → Go K R n0 B Q h cells slots pc' Ls rest) (G2 : x = y → Go K R n0 B Q h cells slots (pc + 4) Ls rest) : Go K R n0 B Q h cells slots pc Ls (.long y :: .long x :: rest) :=
  (Decidable.em (x ≠ y)).elim (fun z => gY_lif_ne hK hd0 hd ho z (G1 z)) (fun z => gN_lif_ne hK hd0 hd (Decidable.not_not.mp z) (G2 (Decidable.not_not.mp z)))
theorem gY_lif_lt (hK : Cx K Z own bs mx rt nm) {o : Int} {x y : Int64} (hd0 : decode bs pc = .ok (.lcmp, 1)) (hd : decode bs (pc + 1) = .ok (.ifCond .lt o, 3)) (ho : 0 ≤ ((pc + 1 : Nat) : Int) + o ∧ (((pc + 1 : Nat) : Int) + o).toNat = pc') (q : x.toInt < y.toInt) (G : Go K R n0 B Q h cells slots pc' Ls rest) : Go K R n0 B Q h cells slots pc Ls (.long y :: .long x :: rest) :=
  Go.step (fun T A t S => XS.lcmp A hK.1 rfl (hb hK.2.1 hd0) rfl S) (gY_if_lt (x := lcmpW x y) hK hd ho (by have c1 := (c_lcmp x y).1; have c2 := (c_lcmp x y).2.1; have c3 := (c_lcmp x y).2.2; omega) G)
theorem gN_lif_lt (hK : Cx K Z own bs mx rt nm) {o : Int} {x y : Int64} (hd0 : decode bs pc = .ok (.lcmp, 1)) (hd : decode bs (pc + 1) = .ok (.ifCond .lt o, 3)) (q : y.toInt ≤ x.toInt) (G : Go K R n0 B Q h cells slots (pc + 4) Ls rest) : Go K R n0 B Q h cells slots pc Ls (.long y :: .long x :: rest) :=
  Go.step (fun T A t S => XS.lcmp A hK.1 rfl (hb hK.2.1 hd0) rfl S) (gN_if_lt (x := lcmpW x y) hK hd (by have c1 := (c_lcmp x y).1; have c2 := (c_lcmp x y).2.1; have c3 := (c_lcmp x y).2.2; omega) G)
theorem g_lif_lt (hK : Cx K Z own bs mx rt nm) {o : Int} {x y : Int64} (hd0 : decode bs pc = .ok (.lcmp, 1)) (hd : decode bs (pc + 1) = .ok (.ifCond .lt o, 3)) (ho : 0 ≤ ((pc + 1 : Nat) : Int) + o ∧ (((pc + 1 : Nat) : Int) + o).toNat = pc') (G1 : x.toInt < y.toInt → Go K R n0 B Q h cells slots pc' Ls rest) (G2 : y.toInt ≤ x.toInt → Go K R n0 B Q h cells slots (pc + 4) Ls rest) : Go K R n0 B Q h cells slots pc Ls (.long y :: .long x :: rest) :=
  (Decidable.em (x.toInt < y.toInt)).elim (fun z => gY_lif_lt hK hd0 hd ho z (G1 z)) (fun z => gN_lif_lt hK hd0 hd (Int.not_lt.mp z) (G2 (Int.not_lt.mp z)))
theorem gY_lif_ge (hK : Cx K Z own bs mx rt nm) {o : Int} {x y : Int64} (hd0 : decode bs pc = .ok (.lcmp, 1)) (hd : decode bs (pc + 1) = .ok (.ifCond .ge o, 3)) (ho : 0 ≤ ((pc + 1 : Nat) : Int) + o ∧ (((pc + 1 : Nat) : Int) + o).toNat = pc') (q : y.toInt ≤ x.toInt) (G : Go K R n0 B Q h cells slots pc' Ls rest) : Go K R n0 B Q h cells slots pc Ls (.long y :: .long x :: rest) :=
  Go.step (fun T A t S => XS.lcmp A hK.1 rfl (hb hK.2.1 hd0) rfl S) (gY_if_ge (x := lcmpW x y) hK hd ho (by have c1 := (c_lcmp x y).1; have c2 := (c_lcmp x y).2.1; have c3 := (c_lcmp x y).2.2; omega) G)
theorem gN_lif_ge (hK : Cx K Z own bs mx rt nm) {o : Int} {x y : Int64} (hd0 : decode bs pc = .ok (.lcmp, 1)) (hd : decode bs (pc + 1) = .ok (.ifCond .ge o, 3)) (q : x.toInt < y.toInt) (G : Go K R n0 B Q h cells slots (pc + 4) Ls rest) : Go K R n0 B Q h cells slots pc Ls (.long y :: .long x :: rest) :=
  Go.step (fun T A t S => XS.lcmp A hK.1 rfl (hb hK.2.1 hd0) rfl S) (gN_if_ge (x := lcmpW x y) hK hd (by have c1 := (c_lcmp x y).1; have c2 := (c_lcmp x y).2.1; have c3 := (c_lcmp x y).2.2; omega) G)
theorem g_lif_ge (hK : Cx K Z own bs mx rt nm) {o : Int} {x y : Int64} (hd0 : decode bs pc = .ok (.lcmp, 1)) (hd : decode bs (pc + 1) = .ok (.ifCond .ge o, 3)) (ho : 0 ≤ ((pc + 1 : Nat) : Int) + o ∧ (((pc + 1 : Nat) : Int) + o).toNat = pc') (G1 : y.toInt ≤ x.toInt → Go K R n0 B Q h cells slots pc' Ls rest) (G2 : x.toInt < y.toInt → Go K R n0 B Q h cells slots (pc + 4) Ls rest) : Go K R n0 B Q h cells slots pc Ls (.long y :: .long x :: rest) :=
  (Decidable.em (y.toInt ≤ x.toInt)).elim (fun z => gY_lif_ge hK hd0 hd ho z (G1 z)) (fun z => gN_lif_ge hK hd0 hd (Int.not_le.mp z) (G2 (Int.not_le.mp z)))
theorem gY_lif_gt (hK : Cx K Z own bs mx rt nm) {o : Int} {x y : Int64} (hd0 : decode bs pc = .ok (.lcmp, 1)) (hd : decode bs (pc + 1) = .ok (.ifCond .gt o, 3)) (ho : 0 ≤ ((pc + 1 : Nat) : Int) + o ∧ (((pc + 1 : Nat) : Int) + o).toNat = pc') (q : y.toInt < x.toInt) (G : Go K R n0 B Q h cells slots pc' Ls rest) : Go K R n0 B Q h cells slots pc Ls (.long y :: .long x :: rest) :=
  Go.step (fun T A t S => XS.lcmp A hK.1 rfl (hb hK.2.1 hd0) rfl S) (gY_if_gt (x := lcmpW x y) hK hd ho (by have c1 := (c_lcmp x y).1; have c2 := (c_lcmp x y).2.1; have c3 := (c_lcmp x y).2.2; omega) G)
theorem gN_lif_gt (hK : Cx K Z own bs mx rt nm) {o : Int} {x y : Int64} (hd0 : decode bs pc = .ok (.lcmp, 1)) (hd : decode bs (pc + 1) = .ok (.ifCond .gt o, 3)) (q : x.toInt ≤ y.toInt) (G : Go K R n0 B Q h cells slots (pc + 4) Ls rest) : Go K R n0 B Q h cells slots pc Ls (.long y :: .long x :: rest) :=
  Go.step (fun T A t S => XS.lcmp A hK.1 rfl (hb hK.2.1 hd0) rfl S) (gN_if_gt (x := lcmpW x y) hK hd (by have c1 := (c_lcmp x y).1; have c2 := (c_lcmp x y).2.1; have c3 := (c_lcmp x y).2.2; omega) G)
theorem g_lif_gt (hK : Cx K Z own bs mx rt nm) {o : Int} {x y : Int64} (hd0 : decode bs pc = .ok (.lcmp, 1)) (hd : decode bs (pc + 1) = .ok (.ifCond .gt o, 3)) (ho : 0 ≤ ((pc + 1 : Nat) : Int) + o ∧ (((pc + 1 : Nat) : Int) + o).toNat = pc') (G1 : y.toInt < x.toInt → Go K R n0 B Q h cells slots pc' Ls rest) (G2 : x.toInt ≤ y.toInt → Go K R n0 B Q h cells slots (pc + 4) Ls rest) : Go K R n0 B Q h cells slots pc Ls (.long y :: .long x :: rest) :=
  (Decidable.em (y.toInt < x.toInt)).elim (fun z => gY_lif_gt hK hd0 hd ho z (G1 z)) (fun z => gN_lif_gt hK hd0 hd (Int.not_lt.mp z) (G2 (Int.not_lt.mp z)))
theorem gY_lif_le (hK : Cx K Z own bs mx rt nm) {o : Int} {x y : Int64} (hd0 : decode bs pc = .ok (.lcmp, 1)) (hd : decode bs (pc + 1) = .ok (.ifCond .le o, 3)) (ho : 0 ≤ ((pc + 1 : Nat) : Int) + o ∧ (((pc + 1 : Nat) : Int) + o).toNat = pc') (q : x.toInt ≤ y.toInt) (G : Go K R n0 B Q h cells slots pc' Ls rest) : Go K R n0 B Q h cells slots pc Ls (.long y :: .long x :: rest) :=
  Go.step (fun T A t S => XS.lcmp A hK.1 rfl (hb hK.2.1 hd0) rfl S) (gY_if_le (x := lcmpW x y) hK hd ho (by have c1 := (c_lcmp x y).1; have c2 := (c_lcmp x y).2.1; have c3 := (c_lcmp x y).2.2; omega) G)
theorem gN_lif_le (hK : Cx K Z own bs mx rt nm) {o : Int} {x y : Int64} (hd0 : decode bs pc = .ok (.lcmp, 1)) (hd : decode bs (pc + 1) = .ok (.ifCond .le o, 3)) (q : y.toInt < x.toInt) (G : Go K R n0 B Q h cells slots (pc + 4) Ls rest) : Go K R n0 B Q h cells slots pc Ls (.long y :: .long x :: rest) :=
  Go.step (fun T A t S => XS.lcmp A hK.1 rfl (hb hK.2.1 hd0) rfl S) (gN_if_le (x := lcmpW x y) hK hd (by have c1 := (c_lcmp x y).1; have c2 := (c_lcmp x y).2.1; have c3 := (c_lcmp x y).2.2; omega) G)
theorem g_lif_le (hK : Cx K Z own bs mx rt nm) {o : Int} {x y : Int64} (hd0 : decode bs pc = .ok (.lcmp, 1)) (hd : decode bs (pc + 1) = .ok (.ifCond .le o, 3)) (ho : 0 ≤ ((pc + 1 : Nat) : Int) + o ∧ (((pc + 1 : Nat) : Int) + o).toNat = pc') (G1 : x.toInt ≤ y.toInt → Go K R n0 B Q h cells slots pc' Ls rest) (G2 : y.toInt < x.toInt → Go K R n0 B Q h cells slots (pc + 4) Ls rest) : Go K R n0 B Q h cells slots pc Ls (.long y :: .long x :: rest) :=
  (Decidable.em (x.toInt ≤ y.toInt)).elim (fun z => gY_lif_le hK hd0 hd ho z (G1 z)) (fun z => gN_lif_le hK hd0 hd (Int.not_le.mp z) (G2 (Int.not_le.mp z)))
/-! the constants of the pool -/
theorem g_ldc (hK : Cx K Z own bs mx rt nm) {i : Nat} {v : Int32} (w : (Jvm.Cond.constant own i v).before a0 Z = true) (hd : decode bs pc = .ok (.ldc i, 2)) (G : Go K R n0 B Q h cells slots (pc + 2) Ls (.int v :: st)) : Go K R n0 B Q h cells slots pc Ls st :=
  G.stepX fun T locs X e t S => X.ldcInt hK.1 hK.2.2.2.1 (mvT hK.2.2.2.2.2.2.2 w) (g := mkF (kM K) pc ⟨Ls⟩ st) rfl (hb hK.2.1 hd) t S
theorem g_ldc_w (hK : Cx K Z own bs mx rt nm) {i : Nat} {v : Int32} (w : (Jvm.Cond.constant own i v).before a0 Z = true) (hd : decode bs pc = .ok (.ldc_w i, 3)) (G : Go K R n0 B Q h cells slots (pc + 3) Ls (.int v :: st)) : Go K R n0 B Q h cells slots pc Ls st :=
  G.stepX fun T locs X e t S => X.ldcwInt hK.1 hK.2.2.2.1 (mvT hK.2.2.2.2.2.2.2 w) (g := mkF (kM K) pc ⟨Ls⟩ st) rfl (hb hK.2.1 hd) t S
theorem g_ldc2 (hK : Cx K Z own bs mx rt nm) {i : Nat} {v : Int64} (w : (Jvm.Cond.constantLong own i v).before a0 Z = true) (hd : decode bs pc = .ok (.ldc2_w i, 3)) (G : Go K R n0 B Q h cells slots (pc + 3) Ls (.long v :: st)) : Go K R n0 B Q h cells slots pc Ls st :=
  G.stepX fun T locs X e t S => X.ldc2Long hK.1 hK.2.2.2.1 (mvT hK.2.2.2.2.2.2.2 w) (g := mkF (kM K) pc ⟨Ls⟩ st) rfl (hb hK.2.1 hd) t S
/-! fields, objects, arrays -/
theorem g_get (hK : Cx K Z own bs mx rt nm) {C n d : String} {i : Nat} {a : Addr} {v : Value} (w : (Jvm.Cond.fieldLink own i C n d).before a0 Z = true) (hd : decode bs pc = .ok (.getfield i, 3)) (F : Fld Z h a C n d v) (G : Go K R n0 B Q h cells slots (pc + 3) Ls (v :: st)) : Go K R n0 B Q h cells slots pc Ls (.ref a :: st) := by
  intro T locs X N eT
  obtain ⟨T', X', e', S⟩ := getF X hK.1 hK.2.2.2.2.2.2.2 hK.2.2.2.1 (host := "") (Or.inl w) Via.refl eT F (g := mkF (kM K) pc ⟨Ls⟩ (.ref a :: st)) rfl rfl (hb hK.2.1 hd)
  obtain ⟨s₂, v, L, h1, r⟩ := G T' locs X' N e'
  exact ⟨s₂, v, L, S _ h1, r⟩
theorem g_put (hK : Cx K Z own bs mx rt nm) {C n d : String} {i kk : Nat} {ty : FieldType} {a : Addr} {v old : Value} (w : (Jvm.Cond.fieldLink own i C n d).before a0 Z = true) (wl : (Jvm.Cond.lays C C n d).before a0 Z = true ∨ ((Jvm.Cond.laysFinal C C n d).before a0 Z = true ∧ own = C ∧ nm = "<init>")) (wi : (Jvm.Cond.instantiable C kk).before a0 Z = true) (hd : decode bs pc = .ok (.putfield i, 3))
    (F : Fld Z h a C n d old) (E : Exa Z h a C) (hn : n0 ≤ a) (hty : parseFieldDescriptor d = some ty) (h1 : narrow ty v = v) (h2 : fits ty v = true) (G : ∀ h', Wr h h' a (Jvm.RoadKit.slotOf Z C n d) v → Go K R n0 B Q h' cells slots (pc + 3) Ls rest) : Go K R n0 B Q h cells slots pc Ls (v :: .ref a :: rest) := by
  intro T locs X N eT
  obtain ⟨T', h', X', e', W, S⟩ := putF X hK.1 hK.2.2.2.2.2.2.2 hK.2.2.2.1 (host := "") (Or.inl w) Via.refl eT F E (wl.imp id fun q => ⟨q.1, q.2.1, hK.2.2.2.2.1.trans q.2.2⟩) wi hty h1 h2 (g := mkF (kM K) pc ⟨Ls⟩ (v :: .ref a :: rest)) rfl rfl (hb hK.2.1 hd)
  obtain ⟨s₂, v, L, h1, r⟩ := G h' W T' _ X' (Fr.snoc X' N hn) e'
  exact ⟨s₂, v, L, S _ h1, r⟩
theorem g_new (hK : Cx K Z own bs mx rt nm) {C : String} {i n : Nat} (w : (Jvm.Cond.classLink own i C).before a0 Z = true) (wi : (Jvm.Cond.instantiable C n).before a0 Z = true) (wz : (Jvm.Cond.initialized C).before a0 Z = true) (hd : decode bs pc = .ok (.new i, 3)) (hr : (Nat.ble (cells + 1) R.cells && Nat.ble (slots + n) R.slots) = true)
    (G : ∀ h' a, a = h.size → Ext h h' → Exa Z h' a C → (∀ {O nm d : String} {ty : FieldType}, Laid Z a0 C O nm d → parseFieldDescriptor d = some ty → Fld Z h' a O nm d (defaultValue ty)) → Go K R n0 B Q h' (cells + 1) (slots + n) (pc + 3) Ls (.ref a :: st)) : Go K R n0 B Q h cells slots pc Ls st := by
  intro T locs X N eT
  simp only [Bool.and_eq_true] at hr
  obtain ⟨T', h', X', e', E, A, D, -, S⟩ := newO X hK.1 hK.2.2.2.2.2.2.2 hK.2.2.2.1 w wi wz eT (g := mkF (kM K) pc ⟨Ls⟩ st) rfl (hb hK.2.1 hd) (Nat.le_of_ble_eq_true hr.1) (Nat.le_of_ble_eq_true hr.2)
  obtain ⟨s₂, v, L, h1, r⟩ := G h' h.size rfl E A D T' _ X' N e'
  exact ⟨s₂, v, L, S _ h1, r⟩
theorem g_newarray (hK : Cx K Z own bs mx rt nm) {aty : ArrayType} {n : Int32} (cap : Nat) (w : (Jvm.Cond.arrayClass (newarray.typeOf aty)).before a0 Z = true) (hd : decode bs pc = .ok (.newarray aty, 2)) (hn : ¬ n < 0) (hcap : n.toNatClampNeg ≤ cap) (hr : (Nat.ble (cap * 8) 536870912 && Nat.ble (cells + 1) R.cells && Nat.ble (slots + cap) R.slots) = true)
    (G : ∀ h' a cA, a = h.size → Ext h h' → Arr Z h' a (newA cA (newarray.typeOf aty) n) (newarray.typeOf aty) → Go K R n0 B Q h' (cells + 1) (slots + cap) (pc + 2) Ls (.ref a :: rest)) : Go K R n0 B Q h cells slots pc Ls (.int n :: rest) := by
  intro T locs X N eT
  simp only [Bool.and_eq_true] at hr
  obtain ⟨T', h', cA, X', e', E, A, S⟩ := newP X hK.1 hK.2.2.2.2.2.2.2 w eT (g := mkF (kM K) pc ⟨Ls⟩ (.int n :: rest)) rfl (hb hK.2.1 hd) rfl hn hcap (Nat.le_of_ble_eq_true hr.1.1) (Nat.le_of_ble_eq_true hr.1.2) (Nat.le_of_ble_eq_true hr.2)
  obtain ⟨s₂, v, L, h1, r⟩ := G h' h.size cA rfl E A T' _ X' N e'
  exact ⟨s₂, v, L, S _ h1, r⟩
theorem g_arraylength (hK : Cx K Z own bs mx rt nm) {a : Addr} {cl : Cell} {ty : FieldType} {z : Int32} (A : Arr Z h a cl ty) (hz : cl.slots.size.toInt32 = z) (hd : decode bs pc = .ok (.arraylength, 1)) (G : Go K R n0 B Q h cells slots (pc + 1) Ls (.int z :: rest)) : Go K R n0 B Q h cells slots pc Ls (.ref a :: rest) :=
  G.stepX fun T locs X e t S => X.arraylength hK.1 (by rw [e]; exact A.1) (State.isArrayOf_alike hK.2.2.2.2.2.2.2.alike A.2.1) (g := mkF (kM K) pc ⟨Ls⟩ (.ref a :: rest)) rfl rfl (hb hK.2.1 hd) t (by subst hz; exact S)
theorem g_iaload (hK : Cx K Z own bs mx rt nm) {a : Addr} {cl : Cell} {j v : Int32} (A : Arr Z h a cl .int) (hj : ¬ (j < 0 ∨ cl.slots.size ≤ j.toNatClampNeg)) (hv : cl.slots[j.toNatClampNeg]? = some (.int v)) (hd : decode bs pc = .ok (.iaload, 1)) (G : Go K R n0 B Q h cells slots (pc + 1) Ls (.int v :: rest)) : Go K R n0 B Q h cells slots pc Ls (.int j :: .ref a :: rest) :=
  G.stepX fun T locs X e t S => X.iaload hK.1 (by rw [e]; exact A.1) (State.isArrayOf_alike hK.2.2.2.2.2.2.2.alike A.2.1) A.2.2 hj hv (g := mkF (kM K) pc ⟨Ls⟩ (.int j :: .ref a :: rest)) rfl rfl (hb hK.2.1 hd) t S
theorem g_laload (hK : Cx K Z own bs mx rt nm) {a : Addr} {cl : Cell} {j : Int32} {v : Int64} (A : Arr Z h a cl .long) (hj : ¬ (j < 0 ∨ cl.slots.size ≤ j.toNatClampNeg)) (hv : cl.slots[j.toNatClampNeg]? = some (.long v)) (hd : decode bs pc = .ok (.laload, 1)) (G : Go K R n0 B Q h cells slots (pc + 1) Ls (.long v :: rest)) : Go K R n0 B Q h cells slots pc Ls (.int j :: .ref a :: rest) :=
  G.stepX fun T locs X e t S => X.laload hK.1 (by rw [e]; exact A.1) (State.isArrayOf_alike hK.2.2.2.2.2.2.2.alike A.2.1) A.2.2 hj hv (g := mkF (kM K) pc ⟨Ls⟩ (.int j :: .ref a :: rest)) rfl rfl (hb hK.2.1 hd) t S
theorem g_iastore (hK : Cx K Z own bs mx rt nm) {a : Addr} {cl : Cell} {j x : Int32} (A : Arr Z h a cl .int) (hj : ¬ (j < 0 ∨ cl.slots.size ≤ j.toNatClampNeg)) (hn : n0 ≤ a) (hd : decode bs pc = .ok (.iastore, 1)) (G : ∀ h', Wr h h' a j.toNatClampNeg (.int x) → Go K R n0 B Q h' cells slots (pc + 1) Ls rest) : Go K R n0 B Q h cells slots pc Ls (.int x :: .int j :: .ref a :: rest) := by
  intro T locs X N eT
  obtain ⟨T', h', X', e', W, S⟩ := stI X hK.1 hK.2.2.2.2.2.2.2 eT A hj (g := mkF (kM K) pc ⟨Ls⟩ (.int x :: .int j :: .ref a :: rest)) rfl rfl (hb hK.2.1 hd)
  obtain ⟨s₂, v, L, h1, r⟩ := G h' W T' _ X' (Fr.snoc X' N hn) e'
  exact ⟨s₂, v, L, S _ h1, r⟩
theorem g_lastore (hK : Cx K Z own bs mx rt nm) {a : Addr} {cl : Cell} {j : Int32} {x : Int64} (A : Arr Z h a cl .long) (hj : ¬ (j < 0 ∨ cl.slots.size ≤ j.toNatClampNeg)) (hn : n0 ≤ a) (hd : decode bs pc = .ok (.lastore, 1)) (G : ∀ h', Wr h h' a j.toNatClampNeg (.long x) → Go K R n0 B Q h' cells slots (pc + 1) Ls rest) : Go K R n0 B Q h cells slots pc Ls (.long x :: .int j :: .ref a :: rest) := by
  intro T locs X N eT
  obtain ⟨T', h', X', e', W, S⟩ := stJ X hK.1 hK.2.2.2.2.2.2.2 eT A hj (g := mkF (kM K) pc ⟨Ls⟩ (.long x :: .int j :: .ref a :: rest)) rfl rfl (hb hK.2.1 hd)
  obtain ⟨s₂, v, L, h1, r⟩ := G h' W T' _ X' (Fr.snoc X' N hn) e'
  exact ⟨s₂, v, L, S _ h1, r⟩
/-! Object.<init> -/
theorem g_objinit (hK : Cx K Z own bs mx rt nm) {i : Nat} {a : Addr} (W : Nat) (w1 : (Jvm.Cond.methodLink own i Lib.objectInit).before a0 Z = true) (w2 : (Jvm.Cond.instanceMethod Lib.objectInit).before a0 Z = true) (w3 : (Jvm.Cond.code Lib.objectInit ⟨#[0xb1]⟩ 1 none).before a0 Z = true) (hd : decode bs pc = .ok (.invokespecial i, 3)) (hsz : Ls.length = mx)
    (hr : (Nat.ble 1 R.frames && Nat.ble (rest.map fun v => v.category).sum W && Nat.ble (W + 12) R.locals) = true) (G : Go K R n0 B Q h cells slots (pc + 3) Ls rest) : Go K R n0 B Q h cells slots pc Ls (.ref a :: rest) := by
  intro T locs X N eT
  simp only [Bool.and_eq_true] at hr
  obtain ⟨T', X', e', S⟩ := initO X hK.1 hK.2.2.2.2.2.2.2 hK.2.2.2.1 w1 w2 w3 eT (g := mkF (kM K) pc ⟨Ls⟩ (.ref a :: rest)) rfl (by rw [hK.2.2.1]; exact hsz) rfl (hb hK.2.1 hd) (Nat.le_of_ble_eq_true hr.1.1) (W := W) (by show 2 * 0 + _ ≤ _; rw [Nat.mul_zero, Nat.zero_add]; exact Nat.le_of_ble_eq_true hr.1.2) (Nat.le_of_ble_eq_true hr.2)
  obtain ⟨s₂, v, L, h1, r⟩ := G T' locs X' N e'
  exact ⟨s₂, v, L, S _ h1, r⟩
/-! the returns -/
theorem g_ret {w : Value} {t : FieldType} {ins : Instr} (hK : Cx K Z own bs mx (some t) nm) (hn : narrow t w = w) (hi : (ins = .ireturn ∧ (t = .int ∨ t = .boolean ∨ t = .byte ∨ t = .char ∨ t = .short) ∧ ∃ z, w = .int z) ∨ (ins = .lreturn ∧ t = .long ∧ ∃ z, w = .long z) ∨ (ins = .dreturn ∧ t = .double ∧ ∃ z, w = .double z) ∨ (ins = .freturn ∧ t = .float ∧ ∃ z, w = .float z) ∨ (ins = .areturn ∧ t.isReference = true ∧ w.isRef = true))
    (hd : decode bs pc = .ok (ins, 1)) (hr : (Nat.ble cells R.cells && Nat.ble slots R.slots) = true) (q : Q (some w) h) : Go K R n0 (nB (kS K) R) Q h cells slots pc Ls (w :: rest) := by
  intro T locs X N eT
  simp only [Bool.and_eq_true] at hr
  have hlk := hK.2.2.2.2.2.2.1
  obtain ⟨fs, hl, hrun, hended, hW, hsame⟩ := X.leave (v := some w) (fun e => by rw [hK.2.2.2.2.2.1] at e; cases e) hlk
  refine ⟨_, some w, locs, retOut X hK.1 hK.2.2.2.2.2.1 hn hi (hb hK.2.1 hd) hl, hrun, hended, ?_, N, hW, hsame.mono (Nat.le_of_ble_eq_true hr.1) (Nat.le_of_ble_eq_true hr.2)⟩
  show Q (some w) T.heap
  rw [eT]; exact q
theorem g_ireturn {z : Int32} {P : Int32 → Heap → Prop} (hK : Cx K Z own bs mx (some .int) nm) (hd : decode bs pc = .ok (.ireturn, 1)) (hr : (Nat.ble cells R.cells && Nat.ble slots R.slots) = true) (q : P z h) : Go K R n0 (nB (kS K) R) (qI P) h cells slots pc Ls (.int z :: rest) :=
  g_ret hK rfl (Or.inl ⟨rfl, Or.inl rfl, z, rfl⟩) hd hr ⟨z, rfl, q⟩
theorem g_zreturn {z : Int32} {P : Int32 → Heap → Prop} (hK : Cx K Z own bs mx (some .boolean) nm) (hd : decode bs pc = .ok (.ireturn, 1)) (hn : narrow .boolean (.int z) = .int z) (hr : (Nat.ble cells R.cells && Nat.ble slots R.slots) = true) (q : P z h) : Go K R n0 (nB (kS K) R) (qI P) h cells slots pc Ls (.int z :: rest) :=
  g_ret hK hn (Or.inl ⟨rfl, Or.inr (Or.inl rfl), z, rfl⟩) hd hr ⟨z, rfl, q⟩
theorem g_lreturn {z : Int64} {P : Int64 → Heap → Prop} (hK : Cx K Z own bs mx (some .long) nm) (hd : decode bs pc = .ok (.lreturn, 1)) (hr : (Nat.ble cells R.cells && Nat.ble slots R.slots) = true) (q : P z h) : Go K R n0 (nB (kS K) R) (qJ P) h cells slots pc Ls (.long z :: rest) :=
  g_ret hK rfl (Or.inr (Or.inl ⟨rfl, rfl, z, rfl⟩)) hd hr ⟨z, rfl, q⟩
theorem g_areturn {z : Addr} {t : FieldType} {P : Addr → Heap → Prop} (hK : Cx K Z own bs mx (some t) nm) (ht : t.isReference = true) (hn : narrow t (.ref z) = .ref z) (hd : decode bs pc = .ok (.areturn, 1)) (hr : (Nat.ble cells R.cells && Nat.ble slots R.slots) = true) (q : P z h) : Go K R n0 (nB (kS K) R) (qA P) h cells slots pc Ls (.ref z :: rest) :=
  g_ret hK hn (Or.inr (Or.inr (Or.inr (Or.inr ⟨rfl, ht, rfl⟩)))) hd hr ⟨z, rfl, q⟩
theorem g_return {P : Heap → Prop} (hK : Cx K Z own bs mx none nm) (hd : decode bs pc = .ok (.return_, 1)) (hr : (Nat.ble cells R.cells && Nat.ble slots R.slots) = true) (q : P h) : Go K R n0 (nB (kS K) R) (qV P) h cells slots pc Ls [] := by
  intro T locs X N eT
  simp only [Bool.and_eq_true] at hr
  have hlk := hK.2.2.2.2.2.2.1
  obtain ⟨fs, hl, hrun, hended, hW, hsame⟩ := X.leave (v := none) (fun _ => rfl) hlk
  refine ⟨_, none, locs, X.returnOut hK.1 hK.2.2.2.2.2.1 (hb hK.2.1 hd) hl, hrun, hended, ⟨rfl, ?_⟩, N, hW, hsame.mono (Nat.le_of_ble_eq_true hr.1) (Nat.le_of_ble_eq_true hr.2)⟩
  show P T.heap
  rw [eT]; exact q
/-! stores -/
def isOne : Slot → Bool
  | .unset => true
  | .val w => w.category == 1
  | .second => false
theorem isOne_one {o : Slot} (q : isOne o = true) : o = .unset ∨ ∃ w, o = .val w ∧ w.category = 1 := by
  cases o with
  | unset => exact Or.inl rfl
  | second => cases q
  | val w => exact Or.inr ⟨w, rfl, by simpa [isOne] using q⟩
theorem stL1 {pre post : List Slot} {o : Slot} {v : Value} (ho : isOne o = true) (hv : v.category = 1) : storeLocals ⟨pre ++ o :: post⟩ pre.length v = some ⟨pre ++ .val v :: post⟩ := by
  rw [XS.store1 (o := o) (by simp) (isOne_one ho) hv]; simp
theorem g_istoreG (hK : Cx K Z own bs mx rt nm) {pre post : List Slot} {o : Slot} {x : Int32} {k : Nat} (hk : pre.length = k) (hd : decode bs pc = .ok (.istore k, 2)) (ho : isOne o = true) (G : Go K R n0 B Q h cells slots (pc + 2) (pre ++ .val (.int x) :: post) rest) : Go K R n0 B Q h cells slots pc (pre ++ o :: post) (.int x :: rest) :=
  G.step fun T A t S => XS.istore A hK.1 rfl (hb hK.2.1 hd) rfl (by subst hk; exact stL1 ho rfl) S
theorem g_istoreNG (hK : Cx K Z own bs mx rt nm) {pre post : List Slot} {o : Slot} {x : Int32} {k : Fin 4} (hk : pre.length = k.val) (hd : decode bs pc = .ok (.istore_n k, 1)) (ho : isOne o = true) (G : Go K R n0 B Q h cells slots (pc + 1) (pre ++ .val (.int x) :: post) rest) : Go K R n0 B Q h cells slots pc (pre ++ o :: post) (.int x :: rest) :=
  G.step fun T A t S => XS.istoreN A hK.1 rfl (hb hK.2.1 hd) rfl (by rw [← hk]; exact stL1 ho rfl) S
theorem g_astoreG (hK : Cx K Z own bs mx rt nm) {pre post : List Slot} {o : Slot} {x : Addr} {k : Nat} (hk : pre.length = k) (hd : decode bs pc = .ok (.astore k, 2)) (ho : isOne o = true) (G : Go K R n0 B Q h cells slots (pc + 2) (pre ++ .val (.ref x) :: post) rest) : Go K R n0 B Q h cells slots pc (pre ++ o :: post) (.ref x :: rest) :=
  G.step fun T A t S => XS.astore A hK.1 rfl (hb hK.2.1 hd) rfl rfl (by subst hk; exact stL1 ho rfl) S
theorem g_astoreNG (hK : Cx K Z own bs mx rt nm) {pre post : List Slot} {o : Slot} {x : Addr} {k : Fin 4} (hk : pre.length = k.val) (hd : decode bs pc = .ok (.astore_n k, 1)) (ho : isOne o = true) (G : Go K R n0 B Q h cells slots (pc + 1) (pre ++ .val (.ref x) :: post) rest) : Go K R n0 B Q h cells slots pc (pre ++ o :: post) (.ref x :: rest) :=
  G.step fun T A t S => XS.astoreN A hK.1 rfl (hb hK.2.1 hd) rfl rfl (by rw [← hk]; exact stL1 ho rfl) S
theorem g_iincG (hK : Cx K Z own bs mx rt nm) {pre post : List Slot} {x : Int32} {k : Nat} {cst : Int} (hk : pre.length = k) (hd : decode bs pc = .ok (.iinc k cst, 3)) (G : Go K R n0 B Q h cells slots (pc + 3) (pre ++ .val (.int (x + Int32.ofInt cst)) :: post) st) : Go K R n0 B Q h cells slots pc (pre ++ .val (.int x) :: post) st :=
  G.step fun T A t S => XS.iinc A hK.1 rfl (hb hK.2.1 hd) (x := x) (by subst hk; simp) (by subst hk; exact stL1 rfl rfl) S
def isTwo : Slot → Slot → Bool
  | .unset, .unset => true
  | .val (.long _), .second => true
  | _, _ => false
theorem stL2 {pre post : List Slot} {o q : Slot} {x : Int64} (ho : isTwo o q = true) : storeLocals ⟨pre ++ o :: q :: post⟩ pre.length (.long x) = some ⟨pre ++ .val (.long x) :: .second :: post⟩ := by
  have e1 : ∀ (a b : Slot), (⟨pre ++ a :: b :: post⟩ : Array Slot)[pre.length]? = some a := fun a b => by simp
  have e2 : ∀ (a b : Slot), (⟨pre ++ a :: b :: post⟩ : Array Slot)[pre.length + 1]? = some b := fun a b => by
    simp [List.getElem?_append_right]
  have s1 : ∀ (a b c : Slot), setAt ⟨pre ++ a :: b :: post⟩ pre.length c = some ⟨pre ++ c :: b :: post⟩ := fun a b c => by
    simp [setAt]
  have s2 : ∀ (a b c : Slot), setAt ⟨pre ++ a :: b :: post⟩ (pre.length + 1) c = some ⟨pre ++ a :: c :: post⟩ := fun a b c => by
    simp [setAt, List.set_append_right]
  have key : ∀ (a b : Slot), (∀ w, b = .val w → w.category ≠ 2) → storeSelf ⟨pre ++ a :: b :: post⟩ pre.length (.long x) = some ⟨pre ++ .val (.long x) :: .second :: post⟩ := fun a b hb' => by
    have c2 : (Value.long x).category = 2 := rfl
    simp only [storeSelf, s1, Option.bind_eq_bind, Option.bind_some, c2, if_true, e2, s2]
    cases b with
    | unset => rfl
    | second => rfl
    | val w => simp only [if_neg (hb' w rfl)]
  rw [storeLocals, e1]
  cases o with
  | unset =>
    cases q with
    | unset => exact key _ _ (fun w e => by cases e)
    | second => cases ho
    | val w => cases ho
  | second => cases ho
  | val w =>
    cases w <;> first | (cases ho; done) | skip
    cases q <;> first | (cases ho; done) | skip
    simp only [Option.bind_eq_bind, Option.bind_some, Value.category, if_true, s2]
    exact key _ _ (fun w e => by cases e)
theorem g_lstoreG (hK : Cx K Z own bs mx rt nm) {pre post : List Slot} {o q : Slot} {x : Int64} {k : Nat} (hk : pre.length = k) (hd : decode bs pc = .ok (.lstore k, 2)) (ho : isTwo o q = true) (G : Go K R n0 B Q h cells slots (pc + 2) (pre ++ .val (.long x) :: .second :: post) rest) : Go K R n0 B Q h cells slots pc (pre ++ o :: q :: post) (.long x :: rest) :=
  G.step fun T A t S => XS.lstore A hK.1 rfl (hb hK.2.1 hd) rfl (by subst hk; exact stL2 ho) S
theorem g_lstoreNG (hK : Cx K Z own bs mx rt nm) {pre post : List Slot} {o q : Slot} {x : Int64} {k : Fin 4} (hk : pre.length = k.val) (hd : decode bs pc = .ok (.lstore_n k, 1)) (ho : isTwo o q = true) (G : Go K R n0 B Q h cells slots (pc + 1) (pre ++ .val (.long x) :: .second :: post) rest) : Go K R n0 B Q h cells slots pc (pre ++ o :: q :: post) (.long x :: rest) :=
  G.step fun T A t S => XS.lstoreN A hK.1 rfl (hb hK.2.1 hd) rfl (by rw [← hk]; exact stL2 ho) S
/-! the calls -/
theorem g_static (hK : Cx K Z own bs mx rt nm) {y : MethodName} {bs' : ByteArray} {mx' i : Nat} {rt' : Option FieldType} {rm : Room} {argsL : List Value} {Q' : Option Value → Heap → Prop} {ps : List FieldType} {r : Option FieldType} (W : Nat) (C : Con (kL K) y bs' mx' rt' [] rm Z n0 argsL.toArray h Q')
    (w1 : (Jvm.Cond.methodLink own i y).before a0 Z = true) (w2 : (Jvm.Cond.static y).before a0 Z = true) (w3 : (Jvm.Cond.initialized y.cls).before a0 Z = true) (w4 : (Jvm.Cond.code y bs' mx' rt').before a0 Z = true) (hy : y.cls ≠ "java/lang/invoke/MethodHandle" ∧ y.cls ≠ "java/lang/invoke/VarHandle")
    (pd : parseMethodDescriptor y.desc = some ⟨ps, r⟩) (hlen : argsL.length = ps.length) (hd : decode bs pc = .ok (.invokestatic i, 3)) (hsz : Ls.length = mx)
    (hr : (Nat.ble (rm.frames + 1) R.frames && Nat.ble (W + (mx' + 11) + rm.locals) R.locals && Nat.ble (rest.map fun v => v.category).sum W && Nat.ble (cells + rm.cells) R.cells && Nat.ble (slots + rm.slots) R.slots) = true)
    (G : ∀ v h', Q' v h' → h.size ≤ h'.size → Go K R n0 B Q h' (cells + rm.cells) (slots + rm.slots) (pc + 3) Ls (v.toList ++ rest)) : Go K R n0 B Q h cells slots pc Ls (argsL.reverse ++ rest) := by
  intro T locs X N eT
  simp only [Bool.and_eq_true] at hr
  obtain ⟨v, _, ⟨T', L', k', n'⟩, -, X', ⟨Lc, ⟨hQ, hF, hgr⟩, e1, e2, e3⟩, S⟩ := Jvm.LawKit.callS X hK.1 (y := y) hK.2.2.2.1 (mvT hK.2.2.2.2.2.2.2 w1) (mvT hK.2.2.2.2.2.2.2 w2) (mvT hK.2.2.2.2.2.2.2 w3) (mvT hK.2.2.2.2.2.2.2 w4) hy
    (backOf (W := W) (Q := fun v h' L => Q' v h' ∧ Fr n0 L ∧ h.size ≤ h'.size) C hK.2.2.2.2.2.2.2 w4 w3 (Nat.le_of_ble_eq_true hr.1.1.1.1) (Nat.le_of_ble_eq_true hr.1.1.1.2)) (g := mkF (kM K) pc ⟨Ls⟩ (argsL.reverse ++ rest)) rfl (by rw [hK.2.2.1]; exact hsz) (argsL := argsL) (rest := rest) (lenOf pd hlen) rfl (by show 2 * 0 + _ ≤ _; rw [Nat.mul_zero, Nat.zero_add]; exact Nat.le_of_ble_eq_true hr.1.1.2) (hb hK.2.1 hd)
    (fun _ _ => ⟨rfl, eT, Nat.le_of_ble_eq_true hr.1.2, Nat.le_of_ble_eq_true hr.2⟩)
  dsimp only [Pt.U, Pt.locs, Pt.cells, Pt.slots] at X' e1 e2 e3 S hQ hgr
  subst e1 e2 e3
  obtain ⟨s₂, v', L, h1, rr⟩ := G v T'.heap hQ hgr T' _ X' (Fr.app N hF) rfl
  exact ⟨s₂, v', L, S _ h1, rr⟩
theorem g_special (hK : Cx K Z own bs mx rt nm) {y : MethodName} {bs' : ByteArray} {mx' i : Nat} {rm : Room} {a : Addr} {argsL : List Value} {Q' : Option Value → Heap → Prop} {ps : List FieldType} {r : Option FieldType} (W : Nat) (C : Con (kL K) y bs' mx' none [] rm Z n0 (.ref a :: argsL).toArray h Q') (hy1 : y.name = "<init>")
    (w1 : (Jvm.Cond.methodLink own i y).before a0 Z = true) (w2 : (Jvm.Cond.instanceMethod y).before a0 Z = true) (w3 : (Jvm.Cond.initialized y.cls).before a0 Z = true) (w4 : (Jvm.Cond.code y bs' mx' none).before a0 Z = true) (hy : y.cls ≠ "java/lang/invoke/MethodHandle" ∧ y.cls ≠ "java/lang/invoke/VarHandle")
    (pd : parseMethodDescriptor y.desc = some ⟨ps, r⟩) (hlen : argsL.length = ps.length) (hd : decode bs pc = .ok (.invokespecial i, 3)) (hsz : Ls.length = mx)
    (hr : (Nat.ble (rm.frames + 1) R.frames && Nat.ble (W + (mx' + 11) + rm.locals) R.locals && Nat.ble (rest.map fun v => v.category).sum W && Nat.ble (cells + rm.cells) R.cells && Nat.ble (slots + rm.slots) R.slots) = true)
    (G : ∀ v h', Q' v h' → h.size ≤ h'.size → Go K R n0 B Q h' (cells + rm.cells) (slots + rm.slots) (pc + 3) Ls (v.toList ++ rest)) : Go K R n0 B Q h cells slots pc Ls (argsL.reverse ++ .ref a :: rest) := by
  intro T locs X N eT
  simp only [Bool.and_eq_true] at hr
  obtain ⟨v, _, ⟨T', L', k', n'⟩, -, X', ⟨Lc, ⟨hQ, hF, hgr⟩, e1, e2, e3⟩, S⟩ := X.specialBack hK.1 (y := y) hy1 hK.2.2.2.1 (mvT hK.2.2.2.2.2.2.2 w1) (mvT hK.2.2.2.2.2.2.2 w2) (mvT hK.2.2.2.2.2.2.2 w4) hy
    (backOf (W := W) (Q := fun v h' L => Q' v h' ∧ Fr n0 L ∧ h.size ≤ h'.size) C hK.2.2.2.2.2.2.2 w4 w3 (Nat.le_of_ble_eq_true hr.1.1.1.1) (Nat.le_of_ble_eq_true hr.1.1.1.2)) (g := mkF (kM K) pc ⟨Ls⟩ (argsL.reverse ++ .ref a :: rest)) rfl (by rw [hK.2.2.1]; exact hsz) (Steps.refl _) (a := a) (argsL := argsL) (rest := rest) (lenOf pd hlen) rfl (by show 2 * 0 + _ ≤ _; rw [Nat.mul_zero, Nat.zero_add]; exact Nat.le_of_ble_eq_true hr.1.1.2) (hb hK.2.1 hd)
    (fun _ _ => ⟨rfl, eT, Nat.le_of_ble_eq_true hr.1.2, Nat.le_of_ble_eq_true hr.2⟩)
  dsimp only [Pt.U, Pt.locs, Pt.cells, Pt.slots] at X' e1 e2 e3 S hQ hgr
  subst e1 e2 e3
  obtain ⟨s₂, v', L, h1, rr⟩ := G v T'.heap hQ hgr T' _ X' (Fr.app N hF) rfl
  exact ⟨s₂, v', L, S.trans h1, rr⟩
theorem g_virtual (hK : Cx K Z own bs mx rt nm) {y : MethodName} {bs' : ByteArray} {mx' i : Nat} {rt' : Option FieldType} {rm : Room} {a : Addr} {argsL : List Value} {Q' : Option Value → Heap → Prop} {ps : List FieldType} {r : Option FieldType} (W : Nat) (C : Con (kL K) y bs' mx' rt' [] rm Z n0 (.ref a :: argsL).toArray h Q') (E : Exa Z h a y.cls)
    (w1 : (Jvm.Cond.methodLink own i y).before a0 Z = true) (w2 : (Jvm.Cond.declares y).before a0 Z = true) (w3 : (Jvm.Cond.selects y.cls y y).before a0 Z = true) (w4 : (Jvm.Cond.instanceMethod y).before a0 Z = true) (w5 : (Jvm.Cond.initialized y.cls).before a0 Z = true) (w6 : (Jvm.Cond.code y bs' mx' rt').before a0 Z = true) (hy : y.cls ≠ "java/lang/invoke/MethodHandle" ∧ y.cls ≠ "java/lang/invoke/VarHandle")
    (pd : parseMethodDescriptor y.desc = some ⟨ps, r⟩) (hlen : argsL.length = ps.length) (hd : decode bs pc = .ok (.invokevirtual i, 3)) (hsz : Ls.length = mx)
    (hr : (Nat.ble (rm.frames + 1) R.frames && Nat.ble (W + (mx' + 11) + rm.locals) R.locals && Nat.ble (rest.map fun v => v.category).sum W && Nat.ble (cells + rm.cells) R.cells && Nat.ble (slots + rm.slots) R.slots) = true)
    (G : ∀ v h', Q' v h' → h.size ≤ h'.size → Go K R n0 B Q h' (cells + rm.cells) (slots + rm.slots) (pc + 3) Ls (v.toList ++ rest)) : Go K R n0 B Q h cells slots pc Ls (argsL.reverse ++ .ref a :: rest) := by
  intro T locs X N eT
  simp only [Bool.and_eq_true] at hr
  obtain ⟨cq, kq, q1, q2, q3⟩ := isOf hK.2.2.2.2.2.2.2 eT E
  obtain ⟨v, _, ⟨T', L', k', n'⟩, -, X', ⟨Lc, ⟨hQ, hF, hgr⟩, e1, e2, e3⟩, S⟩ := X.virtualBack hK.1 (y := y) (z := y) hK.2.2.2.1 (mvT hK.2.2.2.2.2.2.2 w1) (mvT hK.2.2.2.2.2.2.2 w2) (notFace_of_selects (args := #[]) (mvT hK.2.2.2.2.2.2.2 w3)) (mvT hK.2.2.2.2.2.2.2 w3) (mvT hK.2.2.2.2.2.2.2 w4) hy
    (backOf (W := W) (Q := fun v h' L => Q' v h' ∧ Fr n0 L ∧ h.size ≤ h'.size) C hK.2.2.2.2.2.2.2 w6 w5 (Nat.le_of_ble_eq_true hr.1.1.1.1) (Nat.le_of_ble_eq_true hr.1.1.1.2)) q1 q3 (g := mkF (kM K) pc ⟨Ls⟩ (argsL.reverse ++ .ref a :: rest)) rfl (by rw [hK.2.2.1]; exact hsz) (Steps.refl _) (argsL := argsL) (rest := rest) (lenOf pd hlen) rfl (by show 2 * 0 + _ ≤ _; rw [Nat.mul_zero, Nat.zero_add]; exact Nat.le_of_ble_eq_true hr.1.1.2) (hb hK.2.1 hd)
    (fun _ _ => ⟨rfl, eT, Nat.le_of_ble_eq_true hr.1.2, Nat.le_of_ble_eq_true hr.2⟩)
  dsimp only [Pt.U, Pt.locs, Pt.cells, Pt.slots] at X' e1 e2 e3 S hQ hgr
  subst e1 e2 e3
  obtain ⟨s₂, v', L, h1, rr⟩ := G v T'.heap hQ hgr T' _ X' (Fr.app N hF) rfl
  exact ⟨s₂, v', L, S.trans h1, rr⟩
end
section
variable {K : Ctx} {R : Room} {n0 : Nat} {B : State → List Loc → Prop} {Q : Option Value → Heap → Prop} {h : Heap} {cells slots pc : Nat} {st rest post : List Slot} {rs : List Value} {Z : State} {own : String} {bs : ByteArray} {mx : Nat} {rt : Option FieldType} {nm : String}
theorem g_istore_3 (hK : Cx K Z own bs mx rt nm) {s0 s1 s2 : Slot} {o : Slot} {x : Int32} (hd : decode bs pc = .ok (.istore_n 3, 1)) (ho : isOne o = true) (G : Go K R n0 B Q h cells slots (pc + 1) (s0 :: s1 :: s2 :: .val (.int x) :: post) rs) : Go K R n0 B Q h cells slots pc (s0 :: s1 :: s2 :: o :: post) (.int x :: rs) :=
  g_istoreNG (pre := [s0, s1, s2]) hK rfl hd ho G
theorem g_istore_4 (hK : Cx K Z own bs mx rt nm) {s0 s1 s2 s3 : Slot} {o : Slot} {x : Int32} (hd : decode bs pc = .ok (.istore 4, 2)) (ho : isOne o = true) (G : Go K R n0 B Q h cells slots (pc + 2) (s0 :: s1 :: s2 :: s3 :: .val (.int x) :: post) rs) : Go K R n0 B Q h cells slots pc (s0 :: s1 :: s2 :: s3 :: o :: post) (.int x :: rs) :=
  g_istoreG (pre := [s0, s1, s2, s3]) hK rfl hd ho G
theorem g_istore_5 (hK : Cx K Z own bs mx rt nm) {s0 s1 s2 s3 s4 : Slot} {o : Slot} {x : Int32} (hd : decode bs pc = .ok (.istore 5, 2)) (ho : isOne o = true) (G : Go K R n0 B Q h cells slots (pc + 2) (s0 :: s1 :: s2 :: s3 :: s4 :: .val (.int x) :: post) rs) : Go K R n0 B Q h cells slots pc (s0 :: s1 :: s2 :: s3 :: s4 :: o :: post) (.int x :: rs) :=
  g_istoreG (pre := [s0, s1, s2, s3, s4]) hK rfl hd ho G
theorem g_istore_6 (hK : Cx K Z own bs mx rt nm) {s0 s1 s2 s3 s4 s5 : Slot} {o : Slot} {x : Int32} (hd : decode bs pc = .ok (.istore 6, 2)) (ho : isOne o = true) (G : Go K R n0 B Q h cells slots (pc + 2) (s0 :: s1 :: s2 :: s3 :: s4 :: s5 :: .val (.int x) :: post) rs) : Go K R n0 B Q h cells slots pc (s0 :: s1 :: s2 :: s3 :: s4 :: s5 :: o :: post) (.int x :: rs) :=
  g_istoreG (pre := [s0, s1, s2, s3, s4, s5]) hK rfl hd ho G
theorem g_istore_7 (hK : Cx K Z own bs mx rt nm) {s0 s1 s2 s3 s4 s5 s6 : Slot} {o : Slot} {x : Int32} (hd : decode bs pc = .ok (.istore 7, 2)) (ho : isOne o = true) (G : Go K R n0 B Q h cells slots (pc + 2) (s0 :: s1 :: s2 :: s3 :: s4 :: s5 :: s6 :: .val (.int x) :: post) rs) : Go K R n0 B Q h cells slots pc (s0 :: s1 :: s2 :: s3 :: s4 :: s5 :: s6 :: o :: post) (.int x :: rs) :=
  g_istoreG (pre := [s0, s1, s2, s3, s4, s5, s6]) hK rfl hd ho G
end
section
variable {K : Ctx} {R : Room} {n0 : Nat} {B : State → List Loc → Prop} {Q : Option Value → Heap → Prop} {h : Heap} {cells slots pc : Nat} {Ls : List Slot} {rest : List Value} {Z : State} {own : String} {bs : ByteArray} {mx : Nat} {rt : Option FieldType} {nm : String} {a0 : Array Value}
theorem g_static_2I (hK : Cx K Z own bs mx rt nm) {y : MethodName} {bs' : ByteArray} {mx' i : Nat} {rt' : Option FieldType} {rm : Room} {x0 x1 : Value} {P : Int32 → Heap → Prop} {ps : List FieldType} {r : Option FieldType} (W : Nat) (hd : decode bs pc = .ok (.invokestatic i, 3)) (w1 : (Jvm.Cond.methodLink own i y).before a0 Z = true) (w2 : (Jvm.Cond.static y).before a0 Z = true) (w3 : (Jvm.Cond.initialized y.cls).before a0 Z = true) (w4 : (Jvm.Cond.code y bs' mx' rt').before a0 Z = true) (hy : y.cls ≠ "java/lang/invoke/MethodHandle" ∧ y.cls ≠ "java/lang/invoke/VarHandle")
    (C : Con (kL K) y bs' mx' rt' [] rm Z n0 #[x0, x1] h (qI P)) (pd : parseMethodDescriptor y.desc = some ⟨ps, r⟩) (hlen : 2 = ps.length) (hsz : Ls.length = mx)
    (hr : (Nat.ble (rm.frames + 1) R.frames && Nat.ble (W + (mx' + 11) + rm.locals) R.locals && Nat.ble (rest.map fun v => v.category).sum W && Nat.ble (cells + rm.cells) R.cells && Nat.ble (slots + rm.slots) R.slots) = true)
    (G : ∀ z h', P z h' → h.size ≤ h'.size → Go K R n0 B Q h' (cells + rm.cells) (slots + rm.slots) (pc + 3) Ls (.int z :: rest)) : Go K R n0 B Q h cells slots pc Ls (x1 :: x0 :: rest) :=
  g_static (argsL := [x0, x1]) hK W C w1 w2 w3 w4 hy pd hlen hd hsz hr (fun v h' q gr => by obtain ⟨z, rfl, p⟩ := q; exact G z h' p gr)
end
theorem d1_0 : decode prog_106_method_7_code 0 = .ok (.iload_n 1, 1) := by decide +kernel
theorem d1_1 : decode prog_106_method_7_code 1 = .ok (.iload_n 0, 1) := by decide +kernel
theorem d1_2 : decode prog_106_method_7_code 2 = .ok (.if_icmp .ge 5, 3) := by decide +kernel
theorem d1_5 : decode prog_106_method_7_code 5 = .ok (.iconst 0, 1) := by decide +kernel
theorem d1_6 : decode prog_106_method_7_code 6 = .ok (.ireturn, 1) := by decide +kernel
theorem d1_7 : decode prog_106_method_7_code 7 = .ok (.iload_n 1, 1) := by decide +kernel
theorem d1_8 : decode prog_106_method_7_code 8 = .ok (.iload_n 0, 1) := by decide +kernel
theorem d1_9 : decode prog_106_method_7_code 9 = .ok (.if_icmp .le 5, 3) := by decide +kernel
theorem d1_12 : decode prog_106_method_7_code 12 = .ok (.iload_n 1, 1) := by decide +kernel
theorem d1_13 : decode prog_106_method_7_code 13 = .ok (.ireturn, 1) := by decide +kernel
theorem d1_14 : decode prog_106_method_7_code 14 = .ok (.iload_n 0, 1) := by decide +kernel
theorem d1_15 : decode prog_106_method_7_code 15 = .ok (.ifCond .ne 8, 3) := by decide +kernel
theorem d1_18 : decode prog_106_method_7_code 18 = .ok (.bipush 20, 2) := by decide +kernel
theorem d1_20 : decode prog_106_method_7_code 20 = .ok (.goto 7, 3) := by decide +kernel
theorem d1_23 : decode prog_106_method_7_code 23 = .ok (.iload_n 1, 1) := by decide +kernel
theorem d1_24 : decode prog_106_method_7_code 24 = .ok (.bipush 10, 2) := by decide +kernel
theorem d1_26 : decode prog_106_method_7_code 26 = .ok (.iadd, 1) := by decide +kernel
theorem d1_27 : decode prog_106_method_7_code 27 = .ok (.ireturn, 1) := by decide +kernel
theorem w0 {Z : State} {a0 : Array Value} (hw : ∀ d ∈ tables_1, d.before a0 Z = true) : (Jvm.Cond.constant "com/example/kartentisch/kartentisch/games/WunsdorfGamePointsPinLaw" (7 : Nat) (1073741823 : Int32)).before a0 Z = true := hw _ (List.mem_of_getElem? (i := 0) rfl)
theorem w1 {Z : State} {a0 : Array Value} (hw : ∀ d ∈ tables_1, d.before a0 Z = true) : (Jvm.Cond.methodLink "com/example/kartentisch/kartentisch/games/WunsdorfGamePointsPinLaw" (8 : Nat) ({ cls := "com/example/kartentisch/kartentisch/games/WunsdorfGame", name := "points", desc := "(II)I" } : Jvm.MethodName)).before a0 Z = true := hw _ (List.mem_of_getElem? (i := 1) rfl)
theorem w2 {Z : State} {a0 : Array Value} (hw : ∀ d ∈ tables_1, d.before a0 Z = true) : (Jvm.Cond.static ({ cls := "com/example/kartentisch/kartentisch/games/WunsdorfGame", name := "points", desc := "(II)I" } : Jvm.MethodName)).before a0 Z = true := hw _ (List.mem_of_getElem? (i := 2) rfl)
theorem w3 {Z : State} {a0 : Array Value} (hw : ∀ d ∈ tables_1, d.before a0 Z = true) : (Jvm.Cond.initialized "com/example/kartentisch/kartentisch/games/WunsdorfGame").before a0 Z = true := hw _ (List.mem_of_getElem? (i := 3) rfl)
theorem w4 {Z : State} {a0 : Array Value} (hw : ∀ d ∈ tables_1, d.before a0 Z = true) : (Jvm.Cond.code ({ cls := "com/example/kartentisch/kartentisch/games/WunsdorfGame", name := "points", desc := "(II)I" } : Jvm.MethodName) prog_106_method_7_code (2 : Nat) (Option.some Jvm.ClassFile.FieldType.int)).before a0 Z = true := hw _ (List.mem_of_getElem? (i := 4) rfl)
theorem pd_0 : parseMethodDescriptor "(II)I" = some ⟨[.int, .int], some (.int)⟩ := by decide +kernel
set_option maxRecDepth 65536 in
set_option maxHeartbeats 4000000 in
theorem rm1 (l : Launch) (Z : State) (a0 : Array Value) (hw : ∀ d ∈ tables_1, d.before a0 Z = true) (n0 : Nat) (h : Heap) (b t : Int32) : Con l (⟨"com/example/kartentisch/kartentisch/games/WunsdorfGame", "points", "(II)I"⟩ : MethodName) prog_106_method_7_code 2 (some .int) [] ({ frames := 0, cells := 0, slots := 0, locals := 0 } : Room) Z n0 #[.int b, .int t] h (qI fun z h' => ((t.toInt < b.toInt → z = 0) ∧ (b.toInt < t.toInt → z = t) ∧ (t = b → b = 0 → z = 20) ∧ (t = b → b ≠ 0 → z = t + 10)) ∧ h' = h) := by
  refine con_of_go (Ls := [.val (.int b), .val (.int t)]) (plainFor_of_name (by first | (simp [plainName, overriddenIn]; done) | decide +kernel)) (fun m => by first | (simp [entryFrame, mkF, argsToLocals, Value.category]; done) | rfl) ?_
  intro K hl hK
  subst hl
  change Cx K Z "com/example/kartentisch/kartentisch/games/WunsdorfGame" prog_106_method_7_code 2 (some .int) "points" at hK
  refine g_iloadN (pc := 0) hK d1_0 rfl ?_
  refine g_iloadN (pc := 1) hK d1_1 rfl ?_
  refine g_icmp_ge (pc := 2) (pc' := 7) hK d1_2 (by decide) (fun b2 => ?_) (fun b2 => ?_)
  · refine g_iloadN (pc := 7) hK d1_7 rfl ?_
    refine g_iloadN (pc := 8) hK d1_8 rfl ?_
    refine g_icmp_le (pc := 9) (pc' := 14) hK d1_9 (by decide) (fun b9 => ?_) (fun b9 => ?_)
    · refine g_iloadN (pc := 14) hK d1_14 rfl ?_
      refine g_if_ne (pc := 15) (pc' := 23) hK d1_15 (by decide) (fun b15 => ?_) (fun b15 => ?_)
      · refine g_iloadN (pc := 23) hK d1_23 rfl ?_
        refine g_bipush (pc := 24) (z := (10 : Int32)) hK d1_24 (by decide) ?_
        refine g_iadd (pc := 26) hK d1_26 ?_
        exact g_ireturn (pc := 27) hK d1_27 rfl ⟨⟨fun q => by exfalso; omega, fun q => by exfalso; omega, fun q r => by first | rfl | exact absurd r b15, fun q r => by first | rfl | exact absurd b15 r⟩, rfl⟩
      · refine g_bipush (pc := 18) (z := (20 : Int32)) hK d1_18 (by decide) ?_
        refine g_goto (pc := 20) (pc' := 27) hK d1_20 (by decide) ?_
        exact g_ireturn (pc := 27) hK d1_27 rfl ⟨⟨fun q => by exfalso; omega, fun q => by exfalso; omega, fun q r => by first | rfl | exact absurd r b15, fun q r => by first | rfl | exact absurd b15 r⟩, rfl⟩
    · refine g_iloadN (pc := 12) hK d1_12 rfl ?_
      exact g_ireturn (pc := 13) hK d1_13 rfl ⟨⟨fun q => by exfalso; first | omega | (simp only [← Int32.toInt_inj, ne_eq, Int32.reduceToInt] at *; omega), fun q => rfl, fun q r => by exfalso; first | omega | (simp only [← Int32.toInt_inj, ne_eq, Int32.reduceToInt] at *; omega), fun q r => by exfalso; first | omega | (simp only [← Int32.toInt_inj, ne_eq, Int32.reduceToInt] at *; omega)⟩, rfl⟩
  · refine g_iconst (pc := 5) (z := (0 : Int32)) hK d1_5 (by decide) ?_
    exact g_ireturn (pc := 6) hK d1_6 rfl ⟨⟨fun q => rfl, fun q => by exfalso; first | omega | (simp only [← Int32.toInt_inj, ne_eq, Int32.reduceToInt] at *; omega), fun q r => by exfalso; first | omega | (simp only [← Int32.toInt_inj, ne_eq, Int32.reduceToInt] at *; omega), fun q r => by exfalso; first | omega | (simp only [← Int32.toInt_inj, ne_eq, Int32.reduceToInt] at *; omega)⟩, rfl⟩
set_option maxRecDepth 65536 in
set_option maxHeartbeats 4000000 in
theorem rm0 (l : Launch) (Z : State) (a0 : Array Value) (hw : ∀ d ∈ tables_1, d.before a0 Z = true) (n0 : Nat) (h : Heap) (Z0 : n0 ≤ h.size) (i0 i1 i2 : Int32) : Con l x code maxLocals ret tables_1 room_1 Z n0 #[.int i0, .int i1, .int i2] h (qI fun z _ => z = 1) := by
  refine con_of_go (Ls := [.val (.int i0), .val (.int i1), .val (.int i2), .unset, .unset, .unset, .unset, .unset]) (plainFor_of_name (by first | (simp [plainName, overriddenIn]; done) | decide +kernel)) (fun m => by first | (simp [entryFrame, mkF, argsToLocals, Value.category, maxLocals]; done) | rfl) ?_
  intro K hl hK
  subst hl
  change Cx K Z "com/example/kartentisch/kartentisch/games/WunsdorfGamePointsPinLaw" code 8 (some .boolean) "law" at hK
  have m3 := c_mask i0 1073741823 30 (by decide) (by decide)
  have m4 := c_mask i1 1073741823 30 (by decide) (by decide)
  have s1 := c_iadd (i0 &&& 1073741823) 1
  have s2 := c_iadd ((i0 &&& 1073741823) + 1) (i1 &&& 1073741823)
  have r1 := rng32 ((i0 &&& 1073741823) + 1)
  have r2 := rng32 ((i0 &&& 1073741823) + 1 + (i1 &&& 1073741823))
  simp only [Int32.reduceToInt] at s1
  refine g_iloadN (pc := 0) hK at_0 rfl ?_
  refine g_ldc (pc := 1) hK (w0 hw) at_1 ?_
  refine g_iand (pc := 3) hK at_3 ?_
  refine g_istore_3 (pc := 4) hK at_4 rfl ?_
  refine g_iloadN (pc := 5) hK at_5 rfl ?_
  refine g_ldc (pc := 6) hK (w0 hw) at_6 ?_
  refine g_iand (pc := 8) hK at_8 ?_
  refine g_istore_4 (pc := 9) hK at_9 rfl ?_
  refine g_iloadN (pc := 11) hK at_11 rfl ?_
  refine g_iconst (pc := 12) (z := (3 : Int32)) hK at_12 (by decide) ?_
  refine g_iand (pc := 13) hK at_13 ?_
  refine g_istore_5 (pc := 14) hK at_14 rfl ?_
  refine g_iload (pc := 16) hK at_16 rfl ?_
  refine g_if_ne (pc := 18) (pc' := 44) hK at_18 (by decide) (fun b18 => ?_) (fun b18 => ?_)
  · refine g_iload (pc := 44) hK at_44 rfl ?_
    refine g_iconst (pc := 46) (z := (1 : Int32)) hK at_46 (by decide) ?_
    refine g_icmp_ne (pc := 47) (pc' := 75) hK at_47 (by decide) (fun b47 => ?_) (fun b47 => ?_)
    · refine g_iload (pc := 75) hK at_75 rfl ?_
      refine g_iconst (pc := 77) (z := (2 : Int32)) hK at_77 (by decide) ?_
      refine g_icmp_ne (pc := 78) (pc' := 85) hK at_78 (by decide) (fun b78 => ?_) (fun b78 => ?_)
      · refine g_iloadN (pc := 85) hK at_85 rfl ?_
        refine g_bipush (pc := 86) (z := (15 : Int32)) hK at_86 (by decide) ?_
        refine g_iand (pc := 88) hK at_88 ?_
        refine g_istore_6 (pc := 89) hK at_89 rfl ?_
        refine g_iload (pc := 91) hK at_91 rfl ?_
        refine g_if_ne (pc := 93) (pc' := 101) hK at_93 (by decide) (fun b93 => ?_) (fun b93 => ?_)
        · refine g_iload (pc := 101) hK at_101 rfl ?_
          refine g_bipush (pc := 103) (z := (10 : Int32)) hK at_103 (by decide) ?_
          refine g_iadd (pc := 105) hK at_105 ?_
          refine g_istore_7 (pc := 106) hK at_106 rfl ?_
          refine g_iload (pc := 108) hK at_108 rfl ?_
          refine g_iload (pc := 110) hK at_110 rfl ?_
          refine g_static_2I (pc := 112) hK 12 at_112 (w1 hw) (w2 hw) (w3 hw) (w4 hw) (by decide) (rm1 _ Z a0 hw n0 _ _ _) pd_0 rfl rfl rfl (fun z112 h112 q112 gr112 => ?_)
          obtain ⟨⟨p1, p2, p3, p4⟩, rfl⟩ := q112
          refine g_iload (pc := 115) hK at_115 rfl ?_
          refine gN_icmp_ne (pc := 117) hK at_117 (by first | exact p4 rfl b93 | exact p3 rfl b93) ?_
          refine g_iconst (pc := 120) (z := (1 : Int32)) hK at_120 (by decide) ?_
          refine g_goto (pc := 121) (pc' := 125) hK at_121 (by decide) ?_
          exact g_zreturn (pc := 125) hK at_125 (by first | rfl | decide) rfl rfl
        · refine g_bipush (pc := 96) (z := (20 : Int32)) hK at_96 (by decide) ?_
          refine g_goto (pc := 98) (pc' := 106) hK at_98 (by decide) ?_
          refine g_istore_7 (pc := 106) hK at_106 rfl ?_
          refine g_iload (pc := 108) hK at_108 rfl ?_
          refine g_iload (pc := 110) hK at_110 rfl ?_
          refine g_static_2I (pc := 112) hK 12 at_112 (w1 hw) (w2 hw) (w3 hw) (w4 hw) (by decide) (rm1 _ Z a0 hw n0 _ _ _) pd_0 rfl rfl rfl (fun z112 h112 q112 gr112 => ?_)
          obtain ⟨⟨p1, p2, p3, p4⟩, rfl⟩ := q112
          refine g_iload (pc := 115) hK at_115 rfl ?_
          refine gN_icmp_ne (pc := 117) hK at_117 (by first | exact p4 rfl b93 | exact p3 rfl b93) ?_
          refine g_iconst (pc := 120) (z := (1 : Int32)) hK at_120 (by decide) ?_
          refine g_goto (pc := 121) (pc' := 125) hK at_121 (by decide) ?_
          exact g_zreturn (pc := 125) hK at_125 (by first | rfl | decide) rfl rfl
      · refine g_iloadN (pc := 81) hK at_81 rfl ?_
        refine g_goto (pc := 82) (pc' := 89) hK at_82 (by decide) ?_
        refine g_istore_6 (pc := 89) hK at_89 rfl ?_
        refine g_iload (pc := 91) hK at_91 rfl ?_
        refine g_if_ne (pc := 93) (pc' := 101) hK at_93 (by decide) (fun b93 => ?_) (fun b93 => ?_)
        · refine g_iload (pc := 101) hK at_101 rfl ?_
          refine g_bipush (pc := 103) (z := (10 : Int32)) hK at_103 (by decide) ?_
          refine g_iadd (pc := 105) hK at_105 ?_
          refine g_istore_7 (pc := 106) hK at_106 rfl ?_
          refine g_iload (pc := 108) hK at_108 rfl ?_
          refine g_iload (pc := 110) hK at_110 rfl ?_
          refine g_static_2I (pc := 112) hK 12 at_112 (w1 hw) (w2 hw) (w3 hw) (w4 hw) (by decide) (rm1 _ Z a0 hw n0 _ _ _) pd_0 rfl rfl rfl (fun z112 h112 q112 gr112 => ?_)
          obtain ⟨⟨p1, p2, p3, p4⟩, rfl⟩ := q112
          refine g_iload (pc := 115) hK at_115 rfl ?_
          refine gN_icmp_ne (pc := 117) hK at_117 (by first | exact p4 rfl b93 | exact p3 rfl b93) ?_
          refine g_iconst (pc := 120) (z := (1 : Int32)) hK at_120 (by decide) ?_
          refine g_goto (pc := 121) (pc' := 125) hK at_121 (by decide) ?_
          exact g_zreturn (pc := 125) hK at_125 (by first | rfl | decide) rfl rfl
        · refine g_bipush (pc := 96) (z := (20 : Int32)) hK at_96 (by decide) ?_
          refine g_goto (pc := 98) (pc' := 106) hK at_98 (by decide) ?_
          refine g_istore_7 (pc := 106) hK at_106 rfl ?_
          refine g_iload (pc := 108) hK at_108 rfl ?_
          refine g_iload (pc := 110) hK at_110 rfl ?_
          refine g_static_2I (pc := 112) hK 12 at_112 (w1 hw) (w2 hw) (w3 hw) (w4 hw) (by decide) (rm1 _ Z a0 hw n0 _ _ _) pd_0 rfl rfl rfl (fun z112 h112 q112 gr112 => ?_)
          obtain ⟨⟨p1, p2, p3, p4⟩, rfl⟩ := q112
          refine g_iload (pc := 115) hK at_115 rfl ?_
          refine gN_icmp_ne (pc := 117) hK at_117 (by first | exact p4 rfl b93 | exact p3 rfl b93) ?_
          refine g_iconst (pc := 120) (z := (1 : Int32)) hK at_120 (by decide) ?_
          refine g_goto (pc := 121) (pc' := 125) hK at_121 (by decide) ?_
          exact g_zreturn (pc := 125) hK at_125 (by first | rfl | decide) rfl rfl
    · refine g_iloadN (pc := 50) hK at_50 rfl ?_
      refine g_iconst (pc := 51) (z := (1 : Int32)) hK at_51 (by decide) ?_
      refine g_iadd (pc := 52) hK at_52 ?_
      refine g_iload (pc := 53) hK at_53 rfl ?_
      refine g_iadd (pc := 55) hK at_55 ?_
      refine g_istore_6 (pc := 56) hK at_56 rfl ?_
      refine g_iloadN (pc := 58) hK at_58 rfl ?_
      refine g_iload (pc := 59) hK at_59 rfl ?_
      refine g_static_2I (pc := 61) hK 12 at_61 (w1 hw) (w2 hw) (w3 hw) (w4 hw) (by decide) (rm1 _ Z a0 hw n0 _ _ _) pd_0 rfl rfl rfl (fun z61 h61 q61 gr61 => ?_)
      obtain ⟨⟨p1, p2, p3, p4⟩, rfl⟩ := q61
      refine g_iload (pc := 64) hK at_64 rfl ?_
      refine gN_icmp_ne (pc := 66) hK at_66 (p2 (by omega)) ?_
      refine g_iconst (pc := 69) (z := (1 : Int32)) hK at_69 (by decide) ?_
      refine g_goto (pc := 70) (pc' := 74) hK at_70 (by decide) ?_
      exact g_zreturn (pc := 74) hK at_74 (by first | rfl | decide) rfl rfl
  · refine g_iloadN (pc := 21) hK at_21 rfl ?_
    refine g_iconst (pc := 22) (z := (1 : Int32)) hK at_22 (by decide) ?_
    refine g_iadd (pc := 23) hK at_23 ?_
    refine g_iload (pc := 24) hK at_24 rfl ?_
    refine g_iadd (pc := 26) hK at_26 ?_
    refine g_istore_6 (pc := 27) hK at_27 rfl ?_
    refine g_iload (pc := 29) hK at_29 rfl ?_
    refine g_iloadN (pc := 31) hK at_31 rfl ?_
    refine g_static_2I (pc := 32) hK 12 at_32 (w1 hw) (w2 hw) (w3 hw) (w4 hw) (by decide) (rm1 _ Z a0 hw n0 _ _ _) pd_0 rfl rfl rfl (fun z32 h32 q32 gr32 => ?_)
    obtain ⟨⟨p1, p2, p3, p4⟩, rfl⟩ := q32
    refine gN_if_ne (pc := 35) hK at_35 (p1 (by omega)) ?_
    refine g_iconst (pc := 38) (z := (1 : Int32)) hK at_38 (by decide) ?_
    refine g_goto (pc := 39) (pc' := 43) hK at_39 (by decide) ?_
    exact g_zreturn (pc := 43) hK at_43 (by first | rfl | decide) rfl rfl
set_option maxRecDepth 65536 in
set_option maxHeartbeats 40000000 in
theorem comes_1 {Post : Tables → Env → Array Value → State → Outcome → State → Prop} (hpost : ∀ tb e args s v u, (limb_1_1.after args s (.returned v) u = true ∧ limb_1_2.after args s (.returned v) u = true ∧ True) → FrameEnd s (.returned v) u (Jvm.fieldLocs frame_1_writes args s ++ Jvm.arrayLocs frame_1_arrays args s ++ Jvm.staticLocs frame_1_statics s) 0 0 → Post tb e args s (.returned v) u) :
    ArmFor flags0 classFile x code maxLocals ret World_1 tables_1 room_1 Calls_1 rest_1 Pre_1 Post := by
  intro l hfl _ _ p e ha hc hk s m args below hf hA hF happ hP
  obtain ⟨hcalls, hrest, hpre⟩ := hP
  obtain ⟨-, -, -, hnamed, -, -, -, hat⟩ := (Spec.applies_iff hf).mp happ
  obtain ⟨hg, hn⟩ := and_e (Cond.before_iff.mp (show (Jvm.Cond.and given_1 narrow_1).before args s = true from hpre))
  obtain ⟨gc, g0⟩ := and_e hg
  obtain ⟨u0, g1⟩ := and_e g0
  obtain ⟨u1, g2⟩ := and_e g1
  obtain ⟨v0, v1, v2, rfl⟩ : ∃ v0 v1 v2 : Value, args = #[v0, v1, v2] := by
    have hs : args.size = 3 := by simpa [Cond.value, given_1] using gc
    obtain ⟨L⟩ := args
    match L, hs with
    | [v0, v1, v2], _ => exact ⟨v0, v1, v2, rfl⟩
  have hw := fun d (hd : d ∈ tables_1) => atoms_spec (ws := Jvm.Cond.code x code maxLocals ret :: tables_1) hat d (List.mem_cons_of_mem _ hd)
  obtain ⟨i0, ei0⟩ := is_v u0
  obtain rfl : v0 = (.int i0) := Option.some.inj ei0
  obtain ⟨i1, ei1⟩ := is_v u1
  obtain rfl : v1 = (.int i1) := Option.some.inj ei1
  obtain ⟨i2, ei2⟩ := is_v g2
  obtain rfl : v2 = (.int i2) := Option.some.inj ei2
  obtain ⟨n, o, h1, h2, h3, _, L, rfl, ⟨⟨_, rfl, rfl⟩, N, _⟩, hq⟩ := rm0 l s _ hw s.heap.size s.heap (Nat.le_refl _) i0 i1 i2 p e ha hc hk s m _ below hf ((Spec.applies_iff_loose hf).mp happ).1 ⟨rfl, State.Warmed39.refl s, rfl⟩ trivial
  refine ⟨n, _, h1, h2, h3, hpost _ _ _ _ _ _ ⟨Cond.after_iff.mpr rfl, Cond.after_iff.mpr (eq_i res_at (Term.int_eval (1)) rfl), trivial⟩ ⟨hq.1, hq.2.1, (hq.2.2.sift fun y hy => Or.inr (N y hy)).mono (by decide) (by decide)⟩⟩
theorem main_1_1 : Claimed_1_1 := comes_1 fun _ _ _ _ _ _ h hF => ⟨h.1, hF⟩
theorem main_1_2 : Claimed_1_2 := comes_1 fun _ _ _ _ _ _ h hF => ⟨h.2.1, hF⟩
end Jvm.Pilot.@@N@@
namespace Jvm.Pilot.@@N@@
open Jvm Jvm.ClassFile Sem Op Lib Jvm.Free Jvm.Stand Jvm.Pilot.@@N@@.Jvm.D
/-! MADE BY PROGRAM (witnessworld.py) out of the Statement's table words and the real class files: 9 classes; the members and pool entries that the words name. The judged class is class 1, her method 1. -/
namespace start1
open Jvm.ClassFile
def u (s : String) : CpInfo := .utf8 (stringToUtf16 s)
/-- a pool by its gaps: so many unusable entries, then the entry; so many at the end -/
def gap : Nat → List CpInfo → List CpInfo
  | 0, r => r
  | n + 1, r => .unusable :: gap n r
def poolList (es : List (Nat × CpInfo)) (last : Nat) : List CpInfo := es.foldr (fun e r => gap e.1 (e.2 :: r)) (gap last [])
def pool (es : List (Nat × CpInfo)) (last : Nat) : Array CpInfo := ⟨poolList es last⟩
def fileOf (pool : Array CpInfo) (this : Nat) (attrs : Array Attribute := #[]) (ms : Array MethodInfo := #[]) (fl : Nat := 33) (sup : Nat := 0) (ifs : Array Nat := #[]) (fds : Array FieldInfo := #[]) : ClassFile where
  minorVersion := 0
  majorVersion := 65
  constantPool := pool
  accessFlags := fl
  thisClass := this
  superClass := sup
  interfaces := ifs
  fields := fds
  methods := ms
  attributes := attrs
def plain (name : String) (sup : Option ClassId) : Class where
  name := name
  kind := .ordinary
  loader := none
  accessFlags := 33
  super := sup
  interfaces := #[]
  cf := none
  fields := #[]
  methods := #[]
  instanceTypes := #[]
  staticTypes := #[]
  resolved := #[]
  callSites := []
  init := .initialized
  statics := none
  mirror := none

def pool0 : Array CpInfo := pool [(5, u "<init>"), (0, u "()V"), (1, .class_ 10), (1, u "java/lang/Object")] 113

def k0m0 : Method := { name := "<init>", desc := "()V", sig := { parameters := [], returnType := none }, accessFlags := 1, code := none }
/-- java/lang/Object -/
def k0 : Class := { plain "java/lang/Object" none with
  accessFlags := 33
  interfaces := #[]
  cf := some (fileOf pool0 8 #[] #[{ accessFlags := 1, nameIndex := 5, descriptorIndex := 6, attributes := #[] }] 33 0 #[] #[])
  fields := #[]
  methods := #[k0m0]
  instanceTypes := #[]
  staticTypes := #[]
  resolved := Array.replicate 124 none
  statics := none }

def pool1 : Array CpInfo := pool [(2, .class_ 4), (1, u "java/lang/Object"), (0, u "<init>"), (0, u "()V"), (0, .integer 1073741823), (0, .methodref 9 10), (0, .class_ 11), (0, .nameAndType 12 13), (0, u "com/example/kartentisch/kartentisch/games/WunsdorfGame"), (0, u "points"), (0, u "(II)I"), (0, .class_ 15), (0, u "com/example/kartentisch/kartentisch/games/WunsdorfGamePointsPinLaw"), (2, u "law"), (0, u "(III)Z")] 3

def k1m0 : Method := { name := "<init>", desc := "()V", sig := { parameters := [], returnType := none }, accessFlags := 1, code := none }
def k1c1 : Code := { maxStack := 2, maxLocals := 8, code := code, exceptionTable := #[], attributes := #[] }
def k1m1 : Method := { name := "law", desc := "(III)Z", sig := { parameters := [.int, .int, .int], returnType := some .boolean }, accessFlags := 9, code := some k1c1 }
/-- com/example/kartentisch/kartentisch/games/WunsdorfGamePointsPinLaw -/
def k1 : Class := { plain "com/example/kartentisch/kartentisch/games/WunsdorfGamePointsPinLaw" (some 0) with
  accessFlags := 49
  interfaces := #[]
  cf := some (fileOf pool1 14 #[] #[{ accessFlags := 1, nameIndex := 5, descriptorIndex := 6, attributes := #[] }, { accessFlags := 9, nameIndex := 18, descriptorIndex := 19, attributes := #[] }] 49 2 #[] #[])
  fields := #[]
  methods := #[k1m0, k1m1]
  instanceTypes := #[]
  staticTypes := #[]
  resolved := Array.replicate 23 none
  statics := none }

def pool2 : Array CpInfo := pool [(2, .class_ 4), (1, u "java/lang/Object"), (3, .class_ 10), (1, u "com/example/kartentisch/kartentisch/games/WunsdorfGame"), (0, u "totals"), (0, u "[I"), (2, u "rules"), (0, u "Lcom/example/kartentisch/kartentisch/games/WunsdorfRules;"), (2, u "choices"), (0, u "Lcom/example/kartentisch/kartentisch/engine/SeededRandom;"), (20, u "record"), (0, u "Lcom/example/kartentisch/kartentisch/games/MoveRecord;"), (64, u "(II)I"), (27, u "cutShort"), (0, u "Z"), (13, u "rounds"), (0, u "I"), (30, .class_ 183), (0, u "com/example/kartentisch/kartentisch/games/WunsdorfGame$Scored"), (58, u "points"), (0, .class_ 244), (0, u "com/example/kartentisch/kartentisch/games/WunsdorfGame$SeatScore"), (10, u "ROUNDS"), (2, u "FEWEST_PLAYERS"), (1, u "MOST_PLAYERS"), (1, u "LONGEST_ROUND"), (1, u "MADE"), (0, u "NOTHING_MADE")] 75

def k2c0 : Code := { maxStack := 2, maxLocals := 2, code := prog_106_method_7_code, exceptionTable := #[], attributes := #[] }
def k2m0 : Method := { name := "points", desc := "(II)I", sig := { parameters := [.int, .int], returnType := some .int }, accessFlags := 8, code := some k2c0 }
/-- com/example/kartentisch/kartentisch/games/WunsdorfGame -/
def k2 : Class := { plain "com/example/kartentisch/kartentisch/games/WunsdorfGame" (some 0) with
  accessFlags := 48
  interfaces := #[]
  cf := some (fileOf pool2 8 #[.nestMembers #[182, 243]] #[{ accessFlags := 8, nameIndex := 242, descriptorIndex := 107, attributes := #[] }] 48 2 #[] #[{ accessFlags := 24, nameIndex := 255, descriptorIndex := 151, attributes := #[] }, { accessFlags := 24, nameIndex := 258, descriptorIndex := 151, attributes := #[] }, { accessFlags := 24, nameIndex := 260, descriptorIndex := 151, attributes := #[] }, { accessFlags := 26, nameIndex := 262, descriptorIndex := 151, attributes := #[] }, { accessFlags := 26, nameIndex := 264, descriptorIndex := 151, attributes := #[] }, { accessFlags := 26, nameIndex := 265, descriptorIndex := 151, attributes := #[] }, { accessFlags := 18, nameIndex := 19, descriptorIndex := 20, attributes := #[] }, { accessFlags := 18, nameIndex := 11, descriptorIndex := 12, attributes := #[] }, { accessFlags := 18, nameIndex := 15, descriptorIndex := 16, attributes := #[] }, { accessFlags := 18, nameIndex := 41, descriptorIndex := 42, attributes := #[] }, { accessFlags := 2, nameIndex := 150, descriptorIndex := 151, attributes := #[] }, { accessFlags := 2, nameIndex := 135, descriptorIndex := 136, attributes := #[] }])
  fields := #[{ name := "ROUNDS", type := .int, accessFlags := 24, slot := 0, constantValue := 0 }, { name := "FEWEST_PLAYERS", type := .int, accessFlags := 24, slot := 1, constantValue := 0 }, { name := "MOST_PLAYERS", type := .int, accessFlags := 24, slot := 2, constantValue := 0 }, { name := "LONGEST_ROUND", type := .int, accessFlags := 26, slot := 3, constantValue := 0 }, { name := "MADE", type := .int, accessFlags := 26, slot := 4, constantValue := 0 }, { name := "NOTHING_MADE", type := .int, accessFlags := 26, slot := 5, constantValue := 0 }, { name := "choices", type := (.object "com/example/kartentisch/kartentisch/engine/SeededRandom"), accessFlags := 18, slot := 0, constantValue := 0 }, { name := "totals", type := (.array .int), accessFlags := 18, slot := 1, constantValue := 0 }, { name := "rules", type := (.object "com/example/kartentisch/kartentisch/games/WunsdorfRules"), accessFlags := 18, slot := 2, constantValue := 0 }, { name := "record", type := (.object "com/example/kartentisch/kartentisch/games/MoveRecord"), accessFlags := 18, slot := 3, constantValue := 0 }, { name := "rounds", type := .int, accessFlags := 2, slot := 4, constantValue := 0 }, { name := "cutShort", type := .boolean, accessFlags := 2, slot := 5, constantValue := 0 }]
  methods := #[k2m0]
  instanceTypes := #[(.object "com/example/kartentisch/kartentisch/engine/SeededRandom"), (.array .int), (.object "com/example/kartentisch/kartentisch/games/WunsdorfRules"), (.object "com/example/kartentisch/kartentisch/games/MoveRecord"), .int, .boolean]
  staticTypes := #[.int, .int, .int, .int, .int, .int]
  resolved := Array.replicate 341 none
  statics := none }

def pool3 : Array CpInfo := pool [(1, u "java/lang/Cloneable"), (0, .class_ 1), (0, u "java/lang/Object"), (0, .class_ 3)] 3

/-- java/lang/Cloneable -/
def k3 : Class := { plain "java/lang/Cloneable" (some 0) with
  accessFlags := 1537
  interfaces := #[]
  cf := some (fileOf pool3 2 #[] #[] 1537 4 #[] #[])
  fields := #[]
  methods := #[]
  instanceTypes := #[]
  staticTypes := #[]
  resolved := Array.replicate 8 none
  statics := none }

def pool4 : Array CpInfo := pool [(1, u "java/io/Serializable"), (0, .class_ 1), (0, u "java/lang/Object"), (0, .class_ 3)] 3

/-- java/io/Serializable -/
def k4 : Class := { plain "java/io/Serializable" (some 0) with
  accessFlags := 1537
  interfaces := #[]
  cf := some (fileOf pool4 2 #[] #[] 1537 4 #[] #[])
  fields := #[]
  methods := #[]
  instanceTypes := #[]
  staticTypes := #[]
  resolved := Array.replicate 8 none
  statics := none }

/-- the primitive byte -/
def k5 : Class := { plain "byte" none with kind := .primitive 'B', accessFlags := 0x411 }
/-- [B -/
def k6 : Class := { plain "[B" (some 0) with kind := .array 5 .byte, interfaces := #[3, 4], accessFlags := 1041 }

/-- the primitive int -/
def k7 : Class := { plain "int" none with kind := .primitive 'I', accessFlags := 0x411 }
/-- [I -/
def k8 : Class := { plain "[I" (some 0) with kind := .array 7 .int, interfaces := #[3, 4], accessFlags := 1041 }

def heap : Heap := #[]
def classes : Array Class := #[k0, k1, k2, k3, k4, k5, k6, k7, k8]
def interned : List (Array UInt16 × Addr) := []
def slotsUsed : Nat := 0
def theMethod : MethodId := ⟨1, 1⟩
def args0 : Array Value := #[.int 97, .int 3, .int 1]
def aboutOver (below : List Frame) : State where
  vm := { classes := classes, interned := interned.toArray }
  heap := heap
  slotsUsed := slotsUsed
  threads := #[{ frames := .invoking theMethod args0 :: below }]
def below0 : List Frame := [.native { method := ⟨0, 0⟩, args := #[] }]
def about1 : State := aboutOver below0
def p0 : Program := .bare "" "" ""
def e0 : Env := launch0.env 0 0 0
theorem w_frames : about1.frames = Frame.invoking theMethod args0 :: below0 := rfl
set_option maxRecDepth 65536 in
theorem w_args : argsFit about1.vm theMethod args0 = true := by decide +kernel
set_option maxRecDepth 65536 in
theorem w_heap : heapFits about1 = true := by decide +kernel
set_option maxRecDepth 65536 in
theorem w_runnable : about1.curStatus? = some .runnable := by decide +kernel
set_option maxRecDepth 65536 in
theorem w_alone : about1.alone = true := by decide +kernel
set_option maxRecDepth 65536 in
theorem w_named : about1.methodNamed? x = some theMethod := by decide +kernel
set_option maxRecDepth 65536 in
theorem w_hears : about1.hears theMethod below0 = true := by decide +kernel
set_option maxRecDepth 65536 in
theorem w_ripe : about1.ripe theMethod args0 below0 = true := by decide +kernel
theorem w_running : about1.status = .running := rfl
set_option maxRecDepth 65536 in
theorem w_room : about1.hasRoom e0.platform room_1 = true :=
  launch0.hasRoom_least _ room_1 (by decide +kernel) (by decide +kernel) (by decide +kernel) (by decide +kernel) (by decide +kernel) (by decide +kernel)
theorem allAtoms_all (ts : List Jvm.Cond) (a : Array Jvm.Value) (st : Jvm.State) : (allAtoms ts).before a st = ts.all (fun c => c.before a st) := by
  induction ts with
  | nil => rfl
  | cons c t ih =>
    show (Jvm.Cond.and c (allAtoms t)).before a st = _
    rw [Jvm.Cond.before_and, ih, List.all_cons]
def words1 : List Jvm.Cond := Jvm.Cond.code x code maxLocals ret :: tables_1
/-- a 'code' word, met by the world's own term for the bytes: nothing is compared byte by byte -/
theorem code_word {y : MethodName} {bytes : ByteArray} {mx : Nat} {rt : Option FieldType} {a : Array Value} {s : State} {m : MethodId} {meth : Method} {c : Code} (h1 : s.methodNamed? y = some m) (h2 : s.vm.method? m = some meth) (h3 : meth.code = some c) (h4 : c.code = bytes)
    (h5 : (c.maxLocals == mx && c.exceptionTable.isEmpty && decide (c.maxStack ≤ mostOperands) && decide (meth.sig.returnType = rt) && !meth.locks && decide (parseMethodDescriptor y.desc = some meth.sig)) = true) : (Jvm.Cond.code y bytes mx rt).before a s = true := by
  simp only [Bool.and_eq_true, beq_iff_eq, Bool.not_eq_true', decide_eq_true_eq] at h5
  obtain ⟨⟨⟨⟨⟨g1, g2⟩, g3⟩, g4⟩, g5⟩, g6⟩ := h5
  simp [Cond.before, Cond.holds, Cond.value, h1, h2, h3, h4, g1, g2, g3, g4, g5, g6]
def isCode : Jvm.Cond → Bool
  | .code _ _ _ _ => true
  | _ => false
theorem all_split {L : List Jvm.Cond} {P : Jvm.Cond → Bool} (h1 : L.all (fun c => isCode c || P c) = true) (h2 : ∀ c ∈ L.filter isCode, P c = true) : L.all P = true := by
  refine List.all_eq_true.mpr fun c hc => ?_
  have h := List.all_eq_true.mp h1 c hc
  rcases Bool.eq_false_or_eq_true (isCode c) with hi | hi
  · exact h2 c (List.mem_filter.mpr ⟨hc, hi⟩)
  · simpa [hi] using h
set_option maxRecDepth 65536 in
theorem w_c0 : (Jvm.Cond.code x code maxLocals ret).before args0 about1 = true := code_word (m := ⟨1, 1⟩) (meth := k1m1) (c := k1c1) (by decide +kernel) rfl rfl rfl (by decide +kernel)
set_option maxRecDepth 65536 in
theorem w_c1 : (Jvm.Cond.code ({ cls := "com/example/kartentisch/kartentisch/games/WunsdorfGame", name := "points", desc := "(II)I" } : Jvm.MethodName) prog_106_method_7_code (2 : Nat) (Option.some Jvm.ClassFile.FieldType.int)).before args0 about1 = true := code_word (m := ⟨2, 0⟩) (meth := k2m0) (c := k2c0) (by decide +kernel) rfl rfl rfl (by decide +kernel)
def codes1 : List Jvm.Cond := [Jvm.Cond.code x code maxLocals ret, Jvm.Cond.code ({ cls := "com/example/kartentisch/kartentisch/games/WunsdorfGame", name := "points", desc := "(II)I" } : Jvm.MethodName) prog_106_method_7_code (2 : Nat) (Option.some Jvm.ClassFile.FieldType.int)]
set_option maxRecDepth 65536 in
theorem codes_eq : words1.filter isCode = codes1 := rfl
theorem w_codes : ∀ c ∈ words1.filter isCode, c.before args0 about1 = true := by
  rw [codes_eq]
  intro c hc
  simp only [codes1, List.mem_cons, List.not_mem_nil, or_false] at hc
  rcases hc with rfl | rfl
  · exact w_c0
  · exact w_c1
set_option maxRecDepth 65536 in
theorem w_t1 : words1.all (fun c => isCode c || c.before args0 about1) = true := by decide +kernel
theorem w_tables : (allAtoms (Jvm.Cond.code x code maxLocals ret :: tables_1)).before args0 about1 = true := by
  rw [allAtoms_all]
  show words1.all (fun c => c.before args0 about1) = true
  refine all_split ?_ w_codes
  rw [w_t1]
set_option maxRecDepth 65536 in
theorem w_case : (Jvm.Cond.and given_1 narrow_1).before args0 about1 = true := by decide +kernel
theorem w_applies : (headSpec (Jvm.Cond.code x code maxLocals ret :: tables_1) room_1).applies x e0.platform about1 = true :=
  (Spec.applies_iff w_frames).mpr ⟨w_running, w_runnable, w_alone, w_named, w_hears, w_ripe, w_room, w_tables⟩
theorem atStart : AtStart classFile x code maxLocals ret World_1 tables_1 room_1 Calls_1 rest_1 Pre_1 launch0 p0 e0 about1 theMethod args0 below0 :=
  ⟨lists_1, trivial, launch0.admits_env _ _ _, launch0.least_env, fairChoices_fair.cas, fairChoices_fair.clock, w_frames, w_args, w_heap, w_applies, trivial, trivial, w_case⟩
end start1
theorem witness_1 : WitnessClaimed_1 := ⟨start1.p0, start1.e0, start1.about1, start1.theMethod, start1.args0, start1.below0, start1.atStart⟩
end Jvm.Pilot.@@N@@
