import JvmDerived
import JvmDerived.Pilot.@@N@@Statement
import JvmDerived.Pilot.@@N@@Code
set_option linter.unusedVariables false
set_option linter.unusedSimpArgs false
namespace Jvm.Pilot.@@N@@
open Jvm Jvm.ClassFile Sem Op Lib Jvm.Free Jvm.Stand Jvm.LawKit Jvm.RoadKit Bundle Jvm.Pilot.@@N@@.Jvm.D

/-! ## own_: from here the walk goes on; said backwards -/
abbrev Ctx := Program × Launch × Env × State × MethodId × Array Value × List Frame × Method × Code
abbrev kP (K : Ctx) : Program := K.1
abbrev kL (K : Ctx) : Launch := K.2.1
abbrev kE (K : Ctx) : Env := K.2.2.1
abbrev kS (K : Ctx) : State := K.2.2.2.1
abbrev kM (K : Ctx) : MethodId := K.2.2.2.2.1
abbrev kA (K : Ctx) : Array Value := K.2.2.2.2.2.1
abbrev kB (K : Ctx) : List Frame := K.2.2.2.2.2.2.1
abbrev kI (K : Ctx) : Method := K.2.2.2.2.2.2.2.1
abbrev kC (K : Ctx) : Code := K.2.2.2.2.2.2.2.2
/-- from pc, with these locals and this stack, over the heap h: the body ends, and Q says what it returns and leaves; only cells from n0 on are written -/
def Go (K : Ctx) (R : Room) (n0 : Nat) (B : State → List Loc → Prop) (Q : Option Value → Heap → Prop) (h : Heap) (cells slots pc : Nat) (Ls : List Slot) (st : List Value) : Prop :=
  ∀ (T : State) (locs : List Loc), Stand (kP K) (kL K) (kE K) R (kS K) (kM K) (kA K) (kB K) (kI K) (kC K) T locs cells slots → Fr n0 locs → T.heap = h →
    ∃ (s₂ : State) (v : Option Value) (L : List Loc), Steps (kP K).tables (kE K) (kB K) (T.setTop (mkF (kM K) pc ⟨Ls⟩ st)) s₂ ∧ s₂.status = .running ∧ Ended s₂ (kB K) (.returned v) ∧ Q v s₂.heap ∧ Fr n0 L ∧ B s₂ L
/-- the frame of an end -/
abbrev nB (s : State) (R : Room) (s₂ : State) (L : List Loc) : Prop := s.WarmedH s₂.vm ∧ s.sameButNew ({ s₂ with vm := s.vm } : State) L R.cells R.slots
def Cx (K : Ctx) (Z : State) (own : String) (bs : ByteArray) (mx : Nat) (rt : Option FieldType) (nm : String) : Prop :=
  (kP K).tables.exec = Jvm.exec ∧ (kC K).code = bs ∧ (kC K).maxLocals = mx ∧ (kS K).vm.findClass own = some (kM K).cls ∧ (kI K).name = nm ∧ (kI K).sig.returnType = rt ∧ (kI K).locks = false ∧ Z.Warmed39 (kS K).vm
/-- a method's contract, at these arguments and this heap -/
def Con (l : Launch) (y : MethodName) (bs : ByteArray) (mx : Nat) (rt : Option FieldType) (ws : List Jvm.Cond) (rm : Room) (Z : State) (n0 : Nat) (as : Array Value) (h : Heap) (Q : Option Value → Heap → Prop) : Prop :=
  MetFree l y (head1 (Jvm.Cond.code y bs mx rt :: ws) rm) (fun a U => a = as ∧ Z.Warmed39 U.vm ∧ U.heap = h) (fun _ _ _ _ _ => True)
    (fun _ U o U' => ∃ v L, o = .returned v ∧ (Q v U'.heap ∧ Fr n0 L ∧ h.size ≤ U'.heap.size) ∧ FrameEnd U o U' L rm.cells rm.slots)
def qI (P : Int32 → Heap → Prop) : Option Value → Heap → Prop := fun v h => ∃ z, v = some (.int z) ∧ P z h
def qJ (P : Int64 → Heap → Prop) : Option Value → Heap → Prop := fun v h => ∃ z, v = some (.long z) ∧ P z h
def qA (P : Addr → Heap → Prop) : Option Value → Heap → Prop := fun v h => ∃ z, v = some (.ref z) ∧ P z h
def qV (P : Heap → Prop) : Option Value → Heap → Prop := fun v h => v = none ∧ P h
theorem con_of_go {l : Launch} {Z : State} {y : MethodName} {bs : ByteArray} {mx : Nat} {rt : Option FieldType} {ws : List Jvm.Cond} {rm : Room} {as : Array Value} {h : Heap} {n0 : Nat} {Q : Option Value → Heap → Prop} {Ls : List Slot}
    (hp : plainFor y = true) (hLs : ∀ m, entryFrame m as mx = mkF m 0 ⟨Ls⟩ []) (G : ∀ K : Ctx, kL K = l → Cx K Z y.cls bs mx rt y.name → Go K rm n0 (nB (kS K) rm) Q h 0 0 0 Ls []) : Con l y bs mx rt ws rm Z n0 as h Q := by
  refine MetFree.of_bodySF hp hisR ?_
  intro p e s m args below meth c s₁ Bd hml hP hK
  obtain ⟨rfl, hZ, hh⟩ := hP
  obtain ⟨s₂, v, L, h1, h2, h3, h4, h5, h6, h7⟩ := G (p, l, e, s, m, args, below, meth, c) rfl ⟨Bd.exec, Bd.bytes, hml, findClass_of_methodNamed Bd.named, (name_of_methodNamed Bd.named Bd.method).1, Bd.returns, Bd.notSynchronized, hZ⟩ s₁ [] (Stand.of_body Bd) (Fr.nil n0) (by rw [← hh, Bd.state]; rfl)
  exact ⟨s₂, .returned v, castTop (hLs m) h1, h2, h3, v, L, rfl, ⟨h4, h5, by rw [← hh]; exact h7.2.1⟩, ⟨v, rfl⟩, h6, h7⟩
theorem Con.mono {l : Launch} {Z : State} {y : MethodName} {bs : ByteArray} {mx : Nat} {rt : Option FieldType} {ws : List Jvm.Cond} {rm : Room} {as : Array Value} {h : Heap} {n0 : Nat} {Q Q' : Option Value → Heap → Prop}
    (C : Con l y bs mx rt ws rm Z n0 as h Q) (q : ∀ v h, Q v h → Q' v h) : Con l y bs mx rt ws rm Z n0 as h Q' := by
  intro p e ha hc hk s m args below hf happ hP hK
  obtain ⟨n, o, h1, h2, h3, v, L, h4, ⟨h5, h6⟩, h7⟩ := C p e ha hc hk s m args below hf happ hP hK
  exact ⟨n, o, h1, h2, h3, v, L, h4, ⟨q _ _ h5, h6⟩, h7⟩
section
variable {K : Ctx} {R : Room} {n0 : Nat} {B : State → List Loc → Prop} {Q : Option Value → Heap → Prop} {h : Heap} {cells slots pc pc' : Nat} {Ls Ls' : List Slot} {st st' rest : List Value} {Z : State} {own : String} {bs : ByteArray} {mx : Nat} {rt : Option FieldType} {nm : String} {a0 : Array Value}
theorem Go.grow {cells' slots' : Nat} (G : Go K R n0 B Q h cells' slots' pc Ls st) (h1 : cells ≤ cells') (h2 : slots ≤ slots') : Go K R n0 B Q h cells slots pc Ls st :=
  fun T locs X N eT => G T locs { X with same := X.same.mono h1 h2 } N eT
theorem Go.step (H : ∀ T : State, At T (kM K) (kC K) (kB K) → ∀ target, Steps (kP K).tables (kE K) (kB K) (T.setTop (mkF (kM K) pc' ⟨Ls'⟩ st')) target → Steps (kP K).tables (kE K) (kB K) (T.setTop (mkF (kM K) pc ⟨Ls⟩ st)) target) (G : Go K R n0 B Q h cells slots pc' Ls' st') : Go K R n0 B Q h cells slots pc Ls st := by
  intro T locs X N eT
  obtain ⟨s₂, v, L, h1, r⟩ := G T locs X N eT
  exact ⟨s₂, v, L, H T X.here _ h1, r⟩
theorem Go.stepX (H : ∀ (T : State) (locs : List Loc), Stand (kP K) (kL K) (kE K) R (kS K) (kM K) (kA K) (kB K) (kI K) (kC K) T locs cells slots → T.heap = h → ∀ target, Steps (kP K).tables (kE K) (kB K) (T.setTop (mkF (kM K) pc' ⟨Ls'⟩ st')) target → Steps (kP K).tables (kE K) (kB K) (T.setTop (mkF (kM K) pc ⟨Ls⟩ st)) target) (G : Go K R n0 B Q h cells slots pc' Ls' st') : Go K R n0 B Q h cells slots pc Ls st := by
  intro T locs X N eT
  obtain ⟨s₂, v, L, h1, r⟩ := G T locs X N eT
  exact ⟨s₂, v, L, H T locs X eT _ h1, r⟩
theorem g_iloadN (hK : Cx K Z own bs mx rt nm) {k : Fin 4} {v : Int32} (hd : decode bs pc = .ok (.iload_n k, 1)) (hl : Ls[k.val]? = some (.val (.int v))) (G : Go K R n0 B Q h cells slots (pc + 1) Ls (.int v :: st)) : Go K R n0 B Q h cells slots pc Ls st :=
  G.step fun T A t S => XS.iloadN A hK.1 rfl (hb hK.2.1 hd) (by simpa using hl) S
theorem g_iload (hK : Cx K Z own bs mx rt nm) {k : Nat} {v : Int32} (hd : decode bs pc = .ok (.iload k, 2)) (hl : Ls[k]? = some (.val (.int v))) (G : Go K R n0 B Q h cells slots (pc + 2) Ls (.int v :: st)) : Go K R n0 B Q h cells slots pc Ls st :=
  G.step fun T A t S => XS.iload A hK.1 rfl (hb hK.2.1 hd) (by simpa using hl) S
theorem g_lloadN (hK : Cx K Z own bs mx rt nm) {k : Fin 4} {v : Int64} (hd : decode bs pc = .ok (.lload_n k, 1)) (hl : Ls[k.val]? = some (.val (.long v))) (G : Go K R n0 B Q h cells slots (pc + 1) Ls (.long v :: st)) : Go K R n0 B Q h cells slots pc Ls st :=
  G.step fun T A t S => XS.lloadN A hK.1 rfl (hb hK.2.1 hd) (by simpa using hl) S
theorem g_lload (hK : Cx K Z own bs mx rt nm) {k : Nat} {v : Int64} (hd : decode bs pc = .ok (.lload k, 2)) (hl : Ls[k]? = some (.val (.long v))) (G : Go K R n0 B Q h cells slots (pc + 2) Ls (.long v :: st)) : Go K R n0 B Q h cells slots pc Ls st :=
  G.step fun T A t S => XS.lload A hK.1 rfl (hb hK.2.1 hd) (by simpa using hl) S
theorem g_aloadN (hK : Cx K Z own bs mx rt nm) {k : Fin 4} {v : Addr} (hd : decode bs pc = .ok (.aload_n k, 1)) (hl : Ls[k.val]? = some (.val (.ref v))) (G : Go K R n0 B Q h cells slots (pc + 1) Ls (.ref v :: st)) : Go K R n0 B Q h cells slots pc Ls st :=
  G.step fun T A t S => XS.aloadN A hK.1 rfl (hb hK.2.1 hd) (by simpa using hl) rfl S
theorem g_aload (hK : Cx K Z own bs mx rt nm) {k : Nat} {v : Addr} (hd : decode bs pc = .ok (.aload k, 2)) (hl : Ls[k]? = some (.val (.ref v))) (G : Go K R n0 B Q h cells slots (pc + 2) Ls (.ref v :: st)) : Go K R n0 B Q h cells slots pc Ls st :=
  G.step fun T A t S => XS.aload A hK.1 rfl (hb hK.2.1 hd) (by simpa using hl) rfl S
theorem g_iconst (hK : Cx K Z own bs mx rt nm) {i : Int} {z : Int32} (hd : decode bs pc = .ok (.iconst i, 1)) (hz : (Int32.ofInt i) = z) (G : Go K R n0 B Q h cells slots (pc + 1) Ls (.int z :: st)) : Go K R n0 B Q h cells slots pc Ls st :=
  G.step fun T A t S => XS.iconst A hK.1 rfl (hb hK.2.1 hd) (by subst hz; exact S)
theorem g_bipush (hK : Cx K Z own bs mx rt nm) {i : Int} {z : Int32} (hd : decode bs pc = .ok (.bipush i, 2)) (hz : (Int8.ofInt i).toInt32 = z) (G : Go K R n0 B Q h cells slots (pc + 2) Ls (.int z :: st)) : Go K R n0 B Q h cells slots pc Ls st :=
  G.step fun T A t S => XS.bipush A hK.1 rfl (hb hK.2.1 hd) (by subst hz; exact S)
theorem g_sipush (hK : Cx K Z own bs mx rt nm) {i : Int} {z : Int32} (hd : decode bs pc = .ok (.sipush i, 3)) (hz : (Int16.ofInt i).toInt32 = z) (G : Go K R n0 B Q h cells slots (pc + 3) Ls (.int z :: st)) : Go K R n0 B Q h cells slots pc Ls st :=
  G.step fun T A t S => XS.sipush A hK.1 rfl (hb hK.2.1 hd) (by subst hz; exact S)
theorem g_lconst (hK : Cx K Z own bs mx rt nm) {k : Fin 2} {z : Int64} (hd : decode bs pc = .ok (.lconst k, 1)) (hz : (Int64.ofNat k) = z) (G : Go K R n0 B Q h cells slots (pc + 1) Ls (.long z :: st)) : Go K R n0 B Q h cells slots pc Ls st :=
  G.step fun T A t S => XS.lconst A hK.1 rfl (hb hK.2.1 hd) (by subst hz; exact S)
theorem g_aconst_null (hK : Cx K Z own bs mx rt nm) (hd : decode bs pc = .ok (.aconst_null, 1)) (G : Go K R n0 B Q h cells slots (pc + 1) Ls (.null :: st)) : Go K R n0 B Q h cells slots pc Ls st :=
  G.step fun T A t S => XS.aconstNull A hK.1 rfl (hb hK.2.1 hd) S
theorem g_iadd (hK : Cx K Z own bs mx rt nm) {x y : Int32} (hd : decode bs pc = .ok (.iadd, 1)) (G : Go K R n0 B Q h cells slots (pc + 1) Ls (.int (x + y) :: rest)) : Go K R n0 B Q h cells slots pc Ls (.int y :: .int x :: rest) :=
  G.step fun T A t S => XS.iadd A hK.1 rfl (hb hK.2.1 hd) rfl S
theorem g_isub (hK : Cx K Z own bs mx rt nm) {x y : Int32} (hd : decode bs pc = .ok (.isub, 1)) (G : Go K R n0 B Q h cells slots (pc + 1) Ls (.int (x - y) :: rest)) : Go K R n0 B Q h cells slots pc Ls (.int y :: .int x :: rest) :=
  G.step fun T A t S => XS.isub A hK.1 rfl (hb hK.2.1 hd) rfl S
theorem g_imul (hK : Cx K Z own bs mx rt nm) {x y : Int32} (hd : decode bs pc = .ok (.imul, 1)) (G : Go K R n0 B Q h cells slots (pc + 1) Ls (.int (x * y) :: rest)) : Go K R n0 B Q h cells slots pc Ls (.int y :: .int x :: rest) :=
  G.step fun T A t S => XS.imul A hK.1 rfl (hb hK.2.1 hd) rfl S
theorem g_iand (hK : Cx K Z own bs mx rt nm) {x y : Int32} (hd : decode bs pc = .ok (.iand, 1)) (G : Go K R n0 B Q h cells slots (pc + 1) Ls (.int (x &&& y) :: rest)) : Go K R n0 B Q h cells slots pc Ls (.int y :: .int x :: rest) :=
  G.step fun T A t S => XS.iand A hK.1 rfl (hb hK.2.1 hd) rfl S
theorem g_ior (hK : Cx K Z own bs mx rt nm) {x y : Int32} (hd : decode bs pc = .ok (.ior, 1)) (G : Go K R n0 B Q h cells slots (pc + 1) Ls (.int (x ||| y) :: rest)) : Go K R n0 B Q h cells slots pc Ls (.int y :: .int x :: rest) :=
  G.step fun T A t S => XS.ior A hK.1 rfl (hb hK.2.1 hd) rfl S
theorem g_ixor (hK : Cx K Z own bs mx rt nm) {x y : Int32} (hd : decode bs pc = .ok (.ixor, 1)) (G : Go K R n0 B Q h cells slots (pc + 1) Ls (.int (x ^^^ y) :: rest)) : Go K R n0 B Q h cells slots pc Ls (.int y :: .int x :: rest) :=
  G.step fun T A t S => XS.ixor A hK.1 rfl (hb hK.2.1 hd) rfl S
theorem g_ishl (hK : Cx K Z own bs mx rt nm) {x y : Int32} (hd : decode bs pc = .ok (.ishl, 1)) (G : Go K R n0 B Q h cells slots (pc + 1) Ls (.int (x <<< (y &&& 31)) :: rest)) : Go K R n0 B Q h cells slots pc Ls (.int y :: .int x :: rest) :=
  G.step fun T A t S => XS.ishl A hK.1 rfl (hb hK.2.1 hd) rfl S
theorem g_ishr (hK : Cx K Z own bs mx rt nm) {x y : Int32} (hd : decode bs pc = .ok (.ishr, 1)) (G : Go K R n0 B Q h cells slots (pc + 1) Ls (.int (x >>> (y &&& 31)) :: rest)) : Go K R n0 B Q h cells slots pc Ls (.int y :: .int x :: rest) :=
  G.step fun T A t S => XS.ishr A hK.1 rfl (hb hK.2.1 hd) rfl S
theorem g_iushr (hK : Cx K Z own bs mx rt nm) {x y : Int32} (hd : decode bs pc = .ok (.iushr, 1)) (G : Go K R n0 B Q h cells slots (pc + 1) Ls (.int ((x.toUInt32 >>> (y &&& 31).toUInt32).toInt32) :: rest)) : Go K R n0 B Q h cells slots pc Ls (.int y :: .int x :: rest) :=
  G.step fun T A t S => XS.iushr A hK.1 rfl (hb hK.2.1 hd) rfl S
theorem irem_mod (x y : Int32) : x - (x / y) * y = x % y := by
  apply Int32.toInt_inj.mp
  have h1 := Int32.le_toInt (x % y)
  have h2 := Int32.toInt_lt (x % y)
  rw [Int32.toInt_sub, Int32.toInt_mul, Int32.toInt_div, Int.bmod_mul_bmod, Int.sub_bmod_bmod, Int.mul_comm (x.toInt.tdiv y.toInt), ← Int.tmod_def, ← Int32.toInt_mod]
  exact Int.bmod_eq_of_le_mul_two (by omega) (by omega)
theorem g_idiv (hK : Cx K Z own bs mx rt nm) {x y : Int32} (hd : decode bs pc = .ok (.idiv, 1)) (hy : y ≠ 0) (G : Go K R n0 B Q h cells slots (pc + 1) Ls (.int (x / y) :: rest)) : Go K R n0 B Q h cells slots pc Ls (.int y :: .int x :: rest) :=
  G.step fun T A t S => XS.idiv A hK.1 rfl (hb hK.2.1 hd) rfl hy S
theorem g_irem (hK : Cx K Z own bs mx rt nm) {x y : Int32} (hd : decode bs pc = .ok (.irem, 1)) (hy : y ≠ 0) (G : Go K R n0 B Q h cells slots (pc + 1) Ls (.int (x % y) :: rest)) : Go K R n0 B Q h cells slots pc Ls (.int y :: .int x :: rest) :=
  G.step fun T A t S => XS.irem A hK.1 rfl (hb hK.2.1 hd) rfl hy (by rw [irem_mod]; exact S)
theorem g_ineg (hK : Cx K Z own bs mx rt nm) {x : Int32} (hd : decode bs pc = .ok (.ineg, 1)) (G : Go K R n0 B Q h cells slots (pc + 1) Ls (.int (-x) :: rest)) : Go K R n0 B Q h cells slots pc Ls (.int x :: rest) :=
  G.step fun T A t S => XS.ineg A hK.1 rfl (hb hK.2.1 hd) rfl S
theorem g_ladd (hK : Cx K Z own bs mx rt nm) {x y : Int64} (hd : decode bs pc = .ok (.ladd, 1)) (G : Go K R n0 B Q h cells slots (pc + 1) Ls (.long (x + y) :: rest)) : Go K R n0 B Q h cells slots pc Ls (.long y :: .long x :: rest) :=
  G.step fun T A t S => XS.ladd A hK.1 rfl (hb hK.2.1 hd) rfl S
theorem g_lsub (hK : Cx K Z own bs mx rt nm) {x y : Int64} (hd : decode bs pc = .ok (.lsub, 1)) (G : Go K R n0 B Q h cells slots (pc + 1) Ls (.long (x - y) :: rest)) : Go K R n0 B Q h cells slots pc Ls (.long y :: .long x :: rest) :=
  G.step fun T A t S => XS.lsub A hK.1 rfl (hb hK.2.1 hd) rfl S
theorem g_lmul (hK : Cx K Z own bs mx rt nm) {x y : Int64} (hd : decode bs pc = .ok (.lmul, 1)) (G : Go K R n0 B Q h cells slots (pc + 1) Ls (.long (x * y) :: rest)) : Go K R n0 B Q h cells slots pc Ls (.long y :: .long x :: rest) :=
  G.step fun T A t S => XS.lmul A hK.1 rfl (hb hK.2.1 hd) rfl S
theorem g_land (hK : Cx K Z own bs mx rt nm) {x y : Int64} (hd : decode bs pc = .ok (.land, 1)) (G : Go K R n0 B Q h cells slots (pc + 1) Ls (.long (x &&& y) :: rest)) : Go K R n0 B Q h cells slots pc Ls (.long y :: .long x :: rest) :=
  G.step fun T A t S => XS.land A hK.1 rfl (hb hK.2.1 hd) rfl S
theorem g_lor (hK : Cx K Z own bs mx rt nm) {x y : Int64} (hd : decode bs pc = .ok (.lor, 1)) (G : Go K R n0 B Q h cells slots (pc + 1) Ls (.long (x ||| y) :: rest)) : Go K R n0 B Q h cells slots pc Ls (.long y :: .long x :: rest) :=
  G.step fun T A t S => XS.lor A hK.1 rfl (hb hK.2.1 hd) rfl S
theorem g_lxor (hK : Cx K Z own bs mx rt nm) {x y : Int64} (hd : decode bs pc = .ok (.lxor, 1)) (G : Go K R n0 B Q h cells slots (pc + 1) Ls (.long (x ^^^ y) :: rest)) : Go K R n0 B Q h cells slots pc Ls (.long y :: .long x :: rest) :=
  G.step fun T A t S => XS.lxor A hK.1 rfl (hb hK.2.1 hd) rfl S
theorem g_ldiv (hK : Cx K Z own bs mx rt nm) {x y : Int64} (hd : decode bs pc = .ok (.ldiv, 1)) (hy : y ≠ 0) (G : Go K R n0 B Q h cells slots (pc + 1) Ls (.long (x / y) :: rest)) : Go K R n0 B Q h cells slots pc Ls (.long y :: .long x :: rest) :=
  G.step fun T A t S => XS.ldiv A hK.1 rfl (hb hK.2.1 hd) rfl hy S
theorem g_lshl (hK : Cx K Z own bs mx rt nm) {x : Int64} {y : Int32} (hd : decode bs pc = .ok (.lshl, 1)) (G : Go K R n0 B Q h cells slots (pc + 1) Ls (.long (x <<< (y &&& 0x3f).toInt64) :: rest)) : Go K R n0 B Q h cells slots pc Ls (.int y :: .long x :: rest) :=
  G.step fun T A t S => XS.lshl A hK.1 rfl (hb hK.2.1 hd) rfl S
theorem g_lshr (hK : Cx K Z own bs mx rt nm) {x : Int64} {y : Int32} (hd : decode bs pc = .ok (.lshr, 1)) (G : Go K R n0 B Q h cells slots (pc + 1) Ls (.long (x >>> (y &&& 0x3f).toInt64) :: rest)) : Go K R n0 B Q h cells slots pc Ls (.int y :: .long x :: rest) :=
  G.step fun T A t S => XS.lshr A hK.1 rfl (hb hK.2.1 hd) rfl S
theorem g_lushr (hK : Cx K Z own bs mx rt nm) {x : Int64} {y : Int32} (hd : decode bs pc = .ok (.lushr, 1)) (G : Go K R n0 B Q h cells slots (pc + 1) Ls (.long ((x.toUInt64 >>> (y &&& 0x3f).toInt64.toUInt64).toInt64) :: rest)) : Go K R n0 B Q h cells slots pc Ls (.int y :: .long x :: rest) :=
  G.step fun T A t S => XS.lushr A hK.1 rfl (hb hK.2.1 hd) rfl S
theorem g_i2l (hK : Cx K Z own bs mx rt nm) {x : Int32} (hd : decode bs pc = .ok (.i2l, 1)) (G : Go K R n0 B Q h cells slots (pc + 1) Ls (.long x.toInt64 :: rest)) : Go K R n0 B Q h cells slots pc Ls (.int x :: rest) :=
  G.step fun T A t S => XS.i2l A hK.1 rfl (hb hK.2.1 hd) rfl S
theorem g_l2i (hK : Cx K Z own bs mx rt nm) {x : Int64} (hd : decode bs pc = .ok (.l2i, 1)) (G : Go K R n0 B Q h cells slots (pc + 1) Ls (.int x.toInt32 :: rest)) : Go K R n0 B Q h cells slots pc Ls (.long x :: rest) :=
  G.step fun T A t S => XS.l2i A hK.1 rfl (hb hK.2.1 hd) rfl S
theorem g_i2b (hK : Cx K Z own bs mx rt nm) {x : Int32} (hd : decode bs pc = .ok (.i2b, 1)) (G : Go K R n0 B Q h cells slots (pc + 1) Ls (.int x.toInt8.toInt32 :: rest)) : Go K R n0 B Q h cells slots pc Ls (.int x :: rest) :=
  G.step fun T A t S => XS.i2b A hK.1 rfl (hb hK.2.1 hd) rfl S
theorem g_dup (hK : Cx K Z own bs mx rt nm) {x : Value} (hd : decode bs pc = .ok (.dup, 1)) (hc : x.category = 1) (G : Go K R n0 B Q h cells slots (pc + 1) Ls (x :: x :: rest)) : Go K R n0 B Q h cells slots pc Ls (x :: rest) :=
  G.step fun T A t S => XS.dup A hK.1 rfl (hb hK.2.1 hd) rfl hc S
theorem g_pop (hK : Cx K Z own bs mx rt nm) {x : Value} (hd : decode bs pc = .ok (.pop, 1)) (hc : x.category = 1) (G : Go K R n0 B Q h cells slots (pc + 1) Ls rest) : Go K R n0 B Q h cells slots pc Ls (x :: rest) :=
  G.step fun T A t S => XS.pop A hK.1 rfl (hb hK.2.1 hd) rfl hc S
theorem g_dup_x1 (hK : Cx K Z own bs mx rt nm) {x y : Value} (hd : decode bs pc = .ok (.dup_x1, 1)) (hc : x.category = 1) (hc2 : y.category = 1) (G : Go K R n0 B Q h cells slots (pc + 1) Ls (x :: y :: x :: rest)) : Go K R n0 B Q h cells slots pc Ls (x :: y :: rest) :=
  G.step fun T A t S => XS.dupX1 A hK.1 rfl (hb hK.2.1 hd) rfl hc hc2 S
theorem g_dup2 (hK : Cx K Z own bs mx rt nm) {x y : Value} (hd : decode bs pc = .ok (.dup2, 1)) (hc : x.category = 1) (hc2 : y.category = 1) (G : Go K R n0 B Q h cells slots (pc + 1) Ls (x :: y :: x :: y :: rest)) : Go K R n0 B Q h cells slots pc Ls (x :: y :: rest) :=
  G.step fun T A t S => XT.dup2 A hK.1 rfl (hb hK.2.1 hd) rfl hc hc2 S
theorem g_goto (hK : Cx K Z own bs mx rt nm) {o : Int} (hd : decode bs pc = .ok (.goto o, 3)) (ho : 0 ≤ (pc : Int) + o ∧ ((pc : Int) + o).toNat = pc') (G : Go K R n0 B Q h cells slots pc' Ls st) : Go K R n0 B Q h cells slots pc Ls st :=
  G.step fun T A t S => XS.goto A hK.1 rfl rfl (hb hK.2.1 hd) ho.1 ho.2 S
theorem ih_eq (x y : Int32) : if_icmp.holds .eq x y = decide (x = y) := by by_cases q : x = y <;> simp [if_icmp.holds, q]
theorem ih_ne (x y : Int32) : if_icmp.holds .ne x y = decide (x ≠ y) := by by_cases q : x = y <;> simp [if_icmp.holds, q]
theorem ih_lt (x y : Int32) : if_icmp.holds .lt x y = decide (x.toInt < y.toInt) := by by_cases q : x.toInt < y.toInt <;> simp [if_icmp.holds, Int32.lt_iff_toInt_lt, Int32.le_iff_toInt_le, q]
theorem ih_ge (x y : Int32) : if_icmp.holds .ge x y = decide (y.toInt ≤ x.toInt) := by by_cases q : y.toInt ≤ x.toInt <;> simp [if_icmp.holds, Int32.lt_iff_toInt_lt, Int32.le_iff_toInt_le, q]
theorem ih_gt (x y : Int32) : if_icmp.holds .gt x y = decide (y.toInt < x.toInt) := by by_cases q : y.toInt < x.toInt <;> simp [if_icmp.holds, Int32.lt_iff_toInt_lt, Int32.le_iff_toInt_le, q]
theorem ih_le (x y : Int32) : if_icmp.holds .le x y = decide (x.toInt ≤ y.toInt) := by by_cases q : x.toInt ≤ y.toInt <;> simp [if_icmp.holds, Int32.lt_iff_toInt_lt, Int32.le_iff_toInt_le, q]
theorem gY_icmp_eq (hK : Cx K Z own bs mx rt nm) {o : Int} {x y : Int32} (hd : decode bs pc = .ok (.if_icmp .eq o, 3)) (ho : 0 ≤ (pc : Int) + o ∧ ((pc : Int) + o).toNat = pc') (q : x = y) (G : Go K R n0 B Q h cells slots pc' Ls rest) : Go K R n0 B Q h cells slots pc Ls (.int y :: .int x :: rest) :=
  G.step fun T A t S => XS.icmpYes A hK.1 rfl rfl (hb hK.2.1 hd) rfl (by rw [ih_eq]; exact decide_eq_true q) ho.1 ho.2 S
theorem gN_icmp_eq (hK : Cx K Z own bs mx rt nm) {o : Int} {x y : Int32} (hd : decode bs pc = .ok (.if_icmp .eq o, 3)) (q : x ≠ y) (G : Go K R n0 B Q h cells slots (pc + 3) Ls rest) : Go K R n0 B Q h cells slots pc Ls (.int y :: .int x :: rest) :=
  G.step fun T A t S => XS.icmpNo A hK.1 rfl (hb hK.2.1 hd) rfl (by rw [ih_eq]; exact decide_eq_false (q)) S
theorem g_icmp_eq (hK : Cx K Z own bs mx rt nm) {o : Int} {x y : Int32} (hd : decode bs pc = .ok (.if_icmp .eq o, 3)) (ho : 0 ≤ (pc : Int) + o ∧ ((pc : Int) + o).toNat = pc') (G1 : x = y → Go K R n0 B Q h cells slots pc' Ls rest) (G2 : x ≠ y → Go K R n0 B Q h cells slots (pc + 3) Ls rest) : Go K R n0 B Q h cells slots pc Ls (.int y :: .int x :: rest) :=
  (Decidable.em (x = y)).elim (fun z => gY_icmp_eq hK hd ho z (G1 z)) (fun z => gN_icmp_eq hK hd (z) ((fun z => G2 z) z))
theorem gY_icmp_ne (hK : Cx K Z own bs mx rt nm) {o : Int} {x y : Int32} (hd : decode bs pc = .ok (.if_icmp .ne o, 3)) (ho : 0 ≤ (pc : Int) + o ∧ ((pc : Int) + o).toNat = pc') (q : x ≠ y) (G : Go K R n0 B Q h cells slots pc' Ls rest) : Go K R n0 B Q h cells slots pc Ls (.int y :: .int x :: rest) :=
  G.step fun T A t S => XS.icmpYes A hK.1 rfl rfl (hb hK.2.1 hd) rfl (by rw [ih_ne]; exact decide_eq_true q) ho.1 ho.2 S
theorem gN_icmp_ne (hK : Cx K Z own bs mx rt nm) {o : Int} {x y : Int32} (hd : decode bs pc = .ok (.if_icmp .ne o, 3)) (q : x = y) (G : Go K R n0 B Q h cells slots (pc + 3) Ls rest) : Go K R n0 B Q h cells slots pc Ls (.int y :: .int x :: rest) :=
  G.step fun T A t S => XS.icmpNo A hK.1 rfl (hb hK.2.1 hd) rfl (by rw [ih_ne]; exact decide_eq_false (fun z => z q)) S
theorem g_icmp_ne (hK : Cx K Z own bs mx rt nm) {o : Int} {x y : Int32} (hd : decode bs pc = .ok (.if_icmp .ne o, 3)) (ho : 0 ≤ (pc : Int) + o ∧ ((pc : Int) + o).toNat = pc') (G1 : x ≠ y → Go K R n0 B Q h cells slots pc' Ls rest) (G2 : x = y → Go K R n0 B Q h cells slots (pc + 3) Ls rest) : Go K R n0 B Q h cells slots pc Ls (.int y :: .int x :: rest) :=
  (Decidable.em (x ≠ y)).elim (fun z => gY_icmp_ne hK hd ho z (G1 z)) (fun z => gN_icmp_ne hK hd (Decidable.not_not.mp z) ((fun z => G2 (Decidable.not_not.mp z)) z))
theorem gY_icmp_lt (hK : Cx K Z own bs mx rt nm) {o : Int} {x y : Int32} (hd : decode bs pc = .ok (.if_icmp .lt o, 3)) (ho : 0 ≤ (pc : Int) + o ∧ ((pc : Int) + o).toNat = pc') (q : x.toInt < y.toInt) (G : Go K R n0 B Q h cells slots pc' Ls rest) : Go K R n0 B Q h cells slots pc Ls (.int y :: .int x :: rest) :=
  G.step fun T A t S => XS.icmpYes A hK.1 rfl rfl (hb hK.2.1 hd) rfl (by rw [ih_lt]; exact decide_eq_true q) ho.1 ho.2 S
theorem gN_icmp_lt (hK : Cx K Z own bs mx rt nm) {o : Int} {x y : Int32} (hd : decode bs pc = .ok (.if_icmp .lt o, 3)) (q : y.toInt ≤ x.toInt) (G : Go K R n0 B Q h cells slots (pc + 3) Ls rest) : Go K R n0 B Q h cells slots pc Ls (.int y :: .int x :: rest) :=
  G.step fun T A t S => XS.icmpNo A hK.1 rfl (hb hK.2.1 hd) rfl (by rw [ih_lt]; exact decide_eq_false (Int.not_lt.mpr q)) S
theorem g_icmp_lt (hK : Cx K Z own bs mx rt nm) {o : Int} {x y : Int32} (hd : decode bs pc = .ok (.if_icmp .lt o, 3)) (ho : 0 ≤ (pc : Int) + o ∧ ((pc : Int) + o).toNat = pc') (G1 : x.toInt < y.toInt → Go K R n0 B Q h cells slots pc' Ls rest) (G2 : y.toInt ≤ x.toInt → Go K R n0 B Q h cells slots (pc + 3) Ls rest) : Go K R n0 B Q h cells slots pc Ls (.int y :: .int x :: rest) :=
  (Decidable.em (x.toInt < y.toInt)).elim (fun z => gY_icmp_lt hK hd ho z (G1 z)) (fun z => gN_icmp_lt hK hd (Int.not_lt.mp z) ((fun z => G2 (Int.not_lt.mp z)) z))
theorem gY_icmp_ge (hK : Cx K Z own bs mx rt nm) {o : Int} {x y : Int32} (hd : decode bs pc = .ok (.if_icmp .ge o, 3)) (ho : 0 ≤ (pc : Int) + o ∧ ((pc : Int) + o).toNat = pc') (q : y.toInt ≤ x.toInt) (G : Go K R n0 B Q h cells slots pc' Ls rest) : Go K R n0 B Q h cells slots pc Ls (.int y :: .int x :: rest) :=
  G.step fun T A t S => XS.icmpYes A hK.1 rfl rfl (hb hK.2.1 hd) rfl (by rw [ih_ge]; exact decide_eq_true q) ho.1 ho.2 S
theorem gN_icmp_ge (hK : Cx K Z own bs mx rt nm) {o : Int} {x y : Int32} (hd : decode bs pc = .ok (.if_icmp .ge o, 3)) (q : x.toInt < y.toInt) (G : Go K R n0 B Q h cells slots (pc + 3) Ls rest) : Go K R n0 B Q h cells slots pc Ls (.int y :: .int x :: rest) :=
  G.step fun T A t S => XS.icmpNo A hK.1 rfl (hb hK.2.1 hd) rfl (by rw [ih_ge]; exact decide_eq_false (Int.not_le.mpr q)) S
theorem g_icmp_ge (hK : Cx K Z own bs mx rt nm) {o : Int} {x y : Int32} (hd : decode bs pc = .ok (.if_icmp .ge o, 3)) (ho : 0 ≤ (pc : Int) + o ∧ ((pc : Int) + o).toNat = pc') (G1 : y.toInt ≤ x.toInt → Go K R n0 B Q h cells slots pc' Ls rest) (G2 : x.toInt < y.toInt → Go K R n0 B Q h cells slots (pc + 3) Ls rest) : Go K R n0 B Q h cells slots pc Ls (.int y :: .int x :: rest) :=
  (Decidable.em (y.toInt ≤ x.toInt)).elim (fun z => gY_icmp_ge hK hd ho z (G1 z)) (fun z => gN_icmp_ge hK hd (Int.not_le.mp z) ((fun z => G2 (Int.not_le.mp z)) z))
theorem gY_icmp_gt (hK : Cx K Z own bs mx rt nm) {o : Int} {x y : Int32} (hd : decode bs pc = .ok (.if_icmp .gt o, 3)) (ho : 0 ≤ (pc : Int) + o ∧ ((pc : Int) + o).toNat = pc') (q : y.toInt < x.toInt) (G : Go K R n0 B Q h cells slots pc' Ls rest) : Go K R n0 B Q h cells slots pc Ls (.int y :: .int x :: rest) :=
  G.step fun T A t S => XS.icmpYes A hK.1 rfl rfl (hb hK.2.1 hd) rfl (by rw [ih_gt]; exact decide_eq_true q) ho.1 ho.2 S
theorem gN_icmp_gt (hK : Cx K Z own bs mx rt nm) {o : Int} {x y : Int32} (hd : decode bs pc = .ok (.if_icmp .gt o, 3)) (q : x.toInt ≤ y.toInt) (G : Go K R n0 B Q h cells slots (pc + 3) Ls rest) : Go K R n0 B Q h cells slots pc Ls (.int y :: .int x :: rest) :=
  G.step fun T A t S => XS.icmpNo A hK.1 rfl (hb hK.2.1 hd) rfl (by rw [ih_gt]; exact decide_eq_false (Int.not_lt.mpr q)) S
theorem g_icmp_gt (hK : Cx K Z own bs mx rt nm) {o : Int} {x y : Int32} (hd : decode bs pc = .ok (.if_icmp .gt o, 3)) (ho : 0 ≤ (pc : Int) + o ∧ ((pc : Int) + o).toNat = pc') (G1 : y.toInt < x.toInt → Go K R n0 B Q h cells slots pc' Ls rest) (G2 : x.toInt ≤ y.toInt → Go K R n0 B Q h cells slots (pc + 3) Ls rest) : Go K R n0 B Q h cells slots pc Ls (.int y :: .int x :: rest) :=
  (Decidable.em (y.toInt < x.toInt)).elim (fun z => gY_icmp_gt hK hd ho z (G1 z)) (fun z => gN_icmp_gt hK hd (Int.not_lt.mp z) ((fun z => G2 (Int.not_lt.mp z)) z))
theorem gY_icmp_le (hK : Cx K Z own bs mx rt nm) {o : Int} {x y : Int32} (hd : decode bs pc = .ok (.if_icmp .le o, 3)) (ho : 0 ≤ (pc : Int) + o ∧ ((pc : Int) + o).toNat = pc') (q : x.toInt ≤ y.toInt) (G : Go K R n0 B Q h cells slots pc' Ls rest) : Go K R n0 B Q h cells slots pc Ls (.int y :: .int x :: rest) :=
  G.step fun T A t S => XS.icmpYes A hK.1 rfl rfl (hb hK.2.1 hd) rfl (by rw [ih_le]; exact decide_eq_true q) ho.1 ho.2 S
theorem gN_icmp_le (hK : Cx K Z own bs mx rt nm) {o : Int} {x y : Int32} (hd : decode bs pc = .ok (.if_icmp .le o, 3)) (q : y.toInt < x.toInt) (G : Go K R n0 B Q h cells slots (pc + 3) Ls rest) : Go K R n0 B Q h cells slots pc Ls (.int y :: .int x :: rest) :=
  G.step fun T A t S => XS.icmpNo A hK.1 rfl (hb hK.2.1 hd) rfl (by rw [ih_le]; exact decide_eq_false (Int.not_le.mpr q)) S
theorem g_icmp_le (hK : Cx K Z own bs mx rt nm) {o : Int} {x y : Int32} (hd : decode bs pc = .ok (.if_icmp .le o, 3)) (ho : 0 ≤ (pc : Int) + o ∧ ((pc : Int) + o).toNat = pc') (G1 : x.toInt ≤ y.toInt → Go K R n0 B Q h cells slots pc' Ls rest) (G2 : y.toInt < x.toInt → Go K R n0 B Q h cells slots (pc + 3) Ls rest) : Go K R n0 B Q h cells slots pc Ls (.int y :: .int x :: rest) :=
  (Decidable.em (x.toInt ≤ y.toInt)).elim (fun z => gY_icmp_le hK hd ho z (G1 z)) (fun z => gN_icmp_le hK hd (Int.not_le.mp z) ((fun z => G2 (Int.not_le.mp z)) z))
theorem gY_if_eq (hK : Cx K Z own bs mx rt nm) {o : Int} {x : Int32} (hd : decode bs pc = .ok (.ifCond .eq o, 3)) (ho : 0 ≤ (pc : Int) + o ∧ ((pc : Int) + o).toNat = pc') (q : x = 0) (G : Go K R n0 B Q h cells slots pc' Ls rest) : Go K R n0 B Q h cells slots pc Ls (.int x :: rest) :=
  G.step fun T A t S => XS.ifYes A hK.1 rfl rfl (hb hK.2.1 hd) rfl (by rw [if0, ih_eq]; exact decide_eq_true q) ho.1 ho.2 S
theorem gN_if_eq (hK : Cx K Z own bs mx rt nm) {o : Int} {x : Int32} (hd : decode bs pc = .ok (.ifCond .eq o, 3)) (q : x ≠ 0) (G : Go K R n0 B Q h cells slots (pc + 3) Ls rest) : Go K R n0 B Q h cells slots pc Ls (.int x :: rest) :=
  G.step fun T A t S => XS.ifNo A hK.1 rfl (hb hK.2.1 hd) rfl (by rw [if0, ih_eq]; exact decide_eq_false (q)) S
theorem g_if_eq (hK : Cx K Z own bs mx rt nm) {o : Int} {x : Int32} (hd : decode bs pc = .ok (.ifCond .eq o, 3)) (ho : 0 ≤ (pc : Int) + o ∧ ((pc : Int) + o).toNat = pc') (G1 : x = 0 → Go K R n0 B Q h cells slots pc' Ls rest) (G2 : x ≠ 0 → Go K R n0 B Q h cells slots (pc + 3) Ls rest) : Go K R n0 B Q h cells slots pc Ls (.int x :: rest) :=
  (Decidable.em (x = 0)).elim (fun z => gY_if_eq hK hd ho z (G1 z)) (fun z => gN_if_eq hK hd (z) (G2 (z)))
theorem gY_if_ne (hK : Cx K Z own bs mx rt nm) {o : Int} {x : Int32} (hd : decode bs pc = .ok (.ifCond .ne o, 3)) (ho : 0 ≤ (pc : Int) + o ∧ ((pc : Int) + o).toNat = pc') (q : x ≠ 0) (G : Go K R n0 B Q h cells slots pc' Ls rest) : Go K R n0 B Q h cells slots pc Ls (.int x :: rest) :=
  G.step fun T A t S => XS.ifYes A hK.1 rfl rfl (hb hK.2.1 hd) rfl (by rw [if0, ih_ne]; exact decide_eq_true q) ho.1 ho.2 S
theorem gN_if_ne (hK : Cx K Z own bs mx rt nm) {o : Int} {x : Int32} (hd : decode bs pc = .ok (.ifCond .ne o, 3)) (q : x = 0) (G : Go K R n0 B Q h cells slots (pc + 3) Ls rest) : Go K R n0 B Q h cells slots pc Ls (.int x :: rest) :=
  G.step fun T A t S => XS.ifNo A hK.1 rfl (hb hK.2.1 hd) rfl (by rw [if0, ih_ne]; exact decide_eq_false (fun z => z q)) S
theorem g_if_ne (hK : Cx K Z own bs mx rt nm) {o : Int} {x : Int32} (hd : decode bs pc = .ok (.ifCond .ne o, 3)) (ho : 0 ≤ (pc : Int) + o ∧ ((pc : Int) + o).toNat = pc') (G1 : x ≠ 0 → Go K R n0 B Q h cells slots pc' Ls rest) (G2 : x = 0 → Go K R n0 B Q h cells slots (pc + 3) Ls rest) : Go K R n0 B Q h cells slots pc Ls (.int x :: rest) :=
  (Decidable.em (x ≠ 0)).elim (fun z => gY_if_ne hK hd ho z (G1 z)) (fun z => gN_if_ne hK hd (Decidable.not_not.mp z) (G2 (Decidable.not_not.mp z)))
theorem gY_if_lt (hK : Cx K Z own bs mx rt nm) {o : Int} {x : Int32} (hd : decode bs pc = .ok (.ifCond .lt o, 3)) (ho : 0 ≤ (pc : Int) + o ∧ ((pc : Int) + o).toNat = pc') (q : x.toInt < 0) (G : Go K R n0 B Q h cells slots pc' Ls rest) : Go K R n0 B Q h cells slots pc Ls (.int x :: rest) :=
  G.step fun T A t S => XS.ifYes A hK.1 rfl rfl (hb hK.2.1 hd) rfl (by rw [if0, ih_lt]; exact decide_eq_true q) ho.1 ho.2 S
theorem gN_if_lt (hK : Cx K Z own bs mx rt nm) {o : Int} {x : Int32} (hd : decode bs pc = .ok (.ifCond .lt o, 3)) (q : 0 ≤ x.toInt) (G : Go K R n0 B Q h cells slots (pc + 3) Ls rest) : Go K R n0 B Q h cells slots pc Ls (.int x :: rest) :=
  G.step fun T A t S => XS.ifNo A hK.1 rfl (hb hK.2.1 hd) rfl (by rw [if0, ih_lt]; exact decide_eq_false (Int.not_lt.mpr q)) S
theorem g_if_lt (hK : Cx K Z own bs mx rt nm) {o : Int} {x : Int32} (hd : decode bs pc = .ok (.ifCond .lt o, 3)) (ho : 0 ≤ (pc : Int) + o ∧ ((pc : Int) + o).toNat = pc') (G1 : x.toInt < 0 → Go K R n0 B Q h cells slots pc' Ls rest) (G2 : 0 ≤ x.toInt → Go K R n0 B Q h cells slots (pc + 3) Ls rest) : Go K R n0 B Q h cells slots pc Ls (.int x :: rest) :=
  (Decidable.em (x.toInt < 0)).elim (fun z => gY_if_lt hK hd ho z (G1 z)) (fun z => gN_if_lt hK hd (Int.not_lt.mp z) (G2 (Int.not_lt.mp z)))
theorem gY_if_ge (hK : Cx K Z own bs mx rt nm) {o : Int} {x : Int32} (hd : decode bs pc = .ok (.ifCond .ge o, 3)) (ho : 0 ≤ (pc : Int) + o ∧ ((pc : Int) + o).toNat = pc') (q : 0 ≤ x.toInt) (G : Go K R n0 B Q h cells slots pc' Ls rest) : Go K R n0 B Q h cells slots pc Ls (.int x :: rest) :=
  G.step fun T A t S => XS.ifYes A hK.1 rfl rfl (hb hK.2.1 hd) rfl (by rw [if0, ih_ge]; exact decide_eq_true q) ho.1 ho.2 S
theorem gN_if_ge (hK : Cx K Z own bs mx rt nm) {o : Int} {x : Int32} (hd : decode bs pc = .ok (.ifCond .ge o, 3)) (q : x.toInt < 0) (G : Go K R n0 B Q h cells slots (pc + 3) Ls rest) : Go K R n0 B Q h cells slots pc Ls (.int x :: rest) :=
  G.step fun T A t S => XS.ifNo A hK.1 rfl (hb hK.2.1 hd) rfl (by rw [if0, ih_ge]; exact decide_eq_false (Int.not_le.mpr q)) S
theorem g_if_ge (hK : Cx K Z own bs mx rt nm) {o : Int} {x : Int32} (hd : decode bs pc = .ok (.ifCond .ge o, 3)) (ho : 0 ≤ (pc : Int) + o ∧ ((pc : Int) + o).toNat = pc') (G1 : 0 ≤ x.toInt → Go K R n0 B Q h cells slots pc' Ls rest) (G2 : x.toInt < 0 → Go K R n0 B Q h cells slots (pc + 3) Ls rest) : Go K R n0 B Q h cells slots pc Ls (.int x :: rest) :=
  (Decidable.em (0 ≤ x.toInt)).elim (fun z => gY_if_ge hK hd ho z (G1 z)) (fun z => gN_if_ge hK hd (Int.not_le.mp z) (G2 (Int.not_le.mp z)))
theorem gY_if_gt (hK : Cx K Z own bs mx rt nm) {o : Int} {x : Int32} (hd : decode bs pc = .ok (.ifCond .gt o, 3)) (ho : 0 ≤ (pc : Int) + o ∧ ((pc : Int) + o).toNat = pc') (q : 0 < x.toInt) (G : Go K R n0 B Q h cells slots pc' Ls rest) : Go K R n0 B Q h cells slots pc Ls (.int x :: rest) :=
  G.step fun T A t S => XS.ifYes A hK.1 rfl rfl (hb hK.2.1 hd) rfl (by rw [if0, ih_gt]; exact decide_eq_true q) ho.1 ho.2 S
theorem gN_if_gt (hK : Cx K Z own bs mx rt nm) {o : Int} {x : Int32} (hd : decode bs pc = .ok (.ifCond .gt o, 3)) (q : x.toInt ≤ 0) (G : Go K R n0 B Q h cells slots (pc + 3) Ls rest) : Go K R n0 B Q h cells slots pc Ls (.int x :: rest) :=
  G.step fun T A t S => XS.ifNo A hK.1 rfl (hb hK.2.1 hd) rfl (by rw [if0, ih_gt]; exact decide_eq_false (Int.not_lt.mpr q)) S
theorem g_if_gt (hK : Cx K Z own bs mx rt nm) {o : Int} {x : Int32} (hd : decode bs pc = .ok (.ifCond .gt o, 3)) (ho : 0 ≤ (pc : Int) + o ∧ ((pc : Int) + o).toNat = pc') (G1 : 0 < x.toInt → Go K R n0 B Q h cells slots pc' Ls rest) (G2 : x.toInt ≤ 0 → Go K R n0 B Q h cells slots (pc + 3) Ls rest) : Go K R n0 B Q h cells slots pc Ls (.int x :: rest) :=
  (Decidable.em (0 < x.toInt)).elim (fun z => gY_if_gt hK hd ho z (G1 z)) (fun z => gN_if_gt hK hd (Int.not_lt.mp z) (G2 (Int.not_lt.mp z)))
theorem gY_if_le (hK : Cx K Z own bs mx rt nm) {o : Int} {x : Int32} (hd : decode bs pc = .ok (.ifCond .le o, 3)) (ho : 0 ≤ (pc : Int) + o ∧ ((pc : Int) + o).toNat = pc') (q : x.toInt ≤ 0) (G : Go K R n0 B Q h cells slots pc' Ls rest) : Go K R n0 B Q h cells slots pc Ls (.int x :: rest) :=
  G.step fun T A t S => XS.ifYes A hK.1 rfl rfl (hb hK.2.1 hd) rfl (by rw [if0, ih_le]; exact decide_eq_true q) ho.1 ho.2 S
theorem gN_if_le (hK : Cx K Z own bs mx rt nm) {o : Int} {x : Int32} (hd : decode bs pc = .ok (.ifCond .le o, 3)) (q : 0 < x.toInt) (G : Go K R n0 B Q h cells slots (pc + 3) Ls rest) : Go K R n0 B Q h cells slots pc Ls (.int x :: rest) :=
  G.step fun T A t S => XS.ifNo A hK.1 rfl (hb hK.2.1 hd) rfl (by rw [if0, ih_le]; exact decide_eq_false (Int.not_le.mpr q)) S
theorem g_if_le (hK : Cx K Z own bs mx rt nm) {o : Int} {x : Int32} (hd : decode bs pc = .ok (.ifCond .le o, 3)) (ho : 0 ≤ (pc : Int) + o ∧ ((pc : Int) + o).toNat = pc') (G1 : x.toInt ≤ 0 → Go K R n0 B Q h cells slots pc' Ls rest) (G2 : 0 < x.toInt → Go K R n0 B Q h cells slots (pc + 3) Ls rest) : Go K R n0 B Q h cells slots pc Ls (.int x :: rest) :=
  (Decidable.em (x.toInt ≤ 0)).elim (fun z => gY_if_le hK hd ho z (G1 z)) (fun z => gN_if_le hK hd (Int.not_le.mp z) (G2 (Int.not_le.mp z)))
theorem gY_lif_eq (hK : Cx K Z own bs mx rt nm) {o : Int} {x y : Int64} (hd0 : decode bs pc = .ok (.lcmp, 1)) (hd : decode bs (pc + 1) = .ok (.ifCond .eq o, 3)) (ho : 0 ≤ ((pc + 1 : Nat) : Int) + o ∧ (((pc + 1 : Nat) : Int) + o).toNat = pc') (q : x = y) (G : Go K R n0 B Q h cells slots pc' Ls rest) : Go K R n0 B Q h cells slots pc Ls (.long y :: .long x :: rest) :=
  Go.step (fun T A t S => XS.lcmp A hK.1 rfl (hb hK.2.1 hd0) rfl S) (gY_if_eq (x := lcmpW x y) hK hd ho ((lw_eq x y).mpr q) G)
theorem gN_lif_eq (hK : Cx K Z own bs mx rt nm) {o : Int} {x y : Int64} (hd0 : decode bs pc = .ok (.lcmp, 1)) (hd : decode bs (pc + 1) = .ok (.ifCond .eq o, 3)) (q : x ≠ y) (G : Go K R n0 B Q h cells slots (pc + 4) Ls rest) : Go K R n0 B Q h cells slots pc Ls (.long y :: .long x :: rest) :=
  Go.step (fun T A t S => XS.lcmp A hK.1 rfl (hb hK.2.1 hd0) rfl S) (gN_if_eq (x := lcmpW x y) hK hd (fun z => q ((lw_eq x y).mp z)) G)
theorem g_lif_eq (hK : Cx K Z own bs mx rt nm) {o : Int} {x y : Int64} (hd0 : decode bs pc = .ok (.lcmp, 1)) (hd : decode bs (pc + 1) = .ok (.ifCond .eq o, 3)) (ho : 0 ≤ ((pc + 1 : Nat) : Int) + o ∧ (((pc + 1 : Nat) : Int) + o).toNat = pc') (G1 : x = y → Go K R n0 B Q h cells slots pc' Ls rest) (G2 : x ≠ y → Go K R n0 B Q h cells slots (pc + 4) Ls rest) : Go K R n0 B Q h cells slots pc Ls (.long y :: .long x :: rest) :=
  (Decidable.em (x = y)).elim (fun z => gY_lif_eq hK hd0 hd ho z (G1 z)) (fun z => gN_lif_eq hK hd0 hd (z) (G2 (z)))
theorem gY_lif_ne (hK : Cx K Z own bs mx rt nm) {o : Int} {x y : Int64} (hd0 : decode bs pc = .ok (.lcmp, 1)) (hd : decode bs (pc + 1) = .ok (.ifCond .ne o, 3)) (ho : 0 ≤ ((pc + 1 : Nat) : Int) + o ∧ (((pc + 1 : Nat) : Int) + o).toNat = pc') (q : x ≠ y) (G : Go K R n0 B Q h cells slots pc' Ls rest) : Go K R n0 B Q h cells slots pc Ls (.long y :: .long x :: rest) :=
  Go.step (fun T A t S => XS.lcmp A hK.1 rfl (hb hK.2.1 hd0) rfl S) (gY_if_ne (x := lcmpW x y) hK hd ho (fun z => q ((lw_eq x y).mp z)) G)
theorem gN_lif_ne (hK : Cx K Z own bs mx rt nm) {o : Int} {x y : Int64} (hd0 : decode bs pc = .ok (.lcmp, 1)) (hd : decode bs (pc + 1) = .ok (.ifCond .ne o, 3)) (q : x = y) (G : Go K R n0 B Q h cells slots (pc + 4) Ls rest) : Go K R n0 B Q h cells slots pc Ls (.long y :: .long x :: rest) :=
  Go.step (fun T A t S => XS.lcmp A hK.1 rfl (hb hK.2.1 hd0) rfl S) (gN_if_ne (x := lcmpW x y) hK hd ((lw_eq x y).mpr q) G)
theorem g_lif_ne (hK : Cx K Z own bs mx rt nm) {o : Int} {x y : Int64} (hd0 : decode bs pc = .ok (.lcmp, 1)) (hd : decode bs (pc + 1) = .ok (.ifCond .ne o, 3)) (ho : 0 ≤ ((pc + 1 : Nat) : Int) + o ∧ (((pc + 1 : Nat) : Int) + o).toNat = pc') (G1 : x ≠ y → Go K R n0 B Q h cells slots pc' Ls rest) (G2 : x = y → Go K R n0 B Q h cells slots (pc + 4) Ls rest) : Go K R n0 B Q h cells slots pc Ls (.long y :: .long x :: rest) :=
  (Decidable.em (x ≠ y)).elim (fun z => gY_lif_ne hK hd0 hd ho z (G1 z)) (fun z => gN_lif_ne hK hd0 hd (Decidable.not_not.mp z) (G2 (Decidable.not_not.mp z)))
theorem gY_lif_lt (hK : Cx K Z own bs mx rt nm) {o : Int} {x y : Int64} (hd0 : decode bs pc = .ok (.lcmp, 1)) (hd : decode bs (pc + 1) = .ok (.ifCond .lt o, 3)) (ho : 0 ≤ ((pc + 1 : Nat) : Int) + o ∧ (((pc + 1 : Nat) : Int) + o).toNat = pc') (q : x.toInt < y.toInt) (G : Go K R n0 B Q h cells slots pc' Ls rest) : Go K R n0 B Q h cells slots pc Ls (.long y :: .long x :: rest) :=
  Go.step (fun T A t S => XS.lcmp A hK.1 rfl (hb hK.2.1 hd0) rfl S) (gY_if_lt (x := lcmpW x y) hK hd ho (by have c1 := (c_lcmp x y).1; have c2 := (c_lcmp x y).2.1; have c3 := (c_lcmp x y).2.2; omega) G)
theorem gN_lif_lt (hK : Cx K Z own bs mx rt nm) {o : Int} {x y : Int64} (hd0 : decode bs pc = .ok (.lcmp, 1)) (hd : decode bs (pc + 1) = .ok (.ifCond .lt o, 3)) (q : y.toInt ≤ x.toInt) (G : Go K R n0 B Q h cells slots (pc + 4) Ls rest) : Go K R n0 B Q h cells slots pc Ls (.long y :: .long x :: rest) :=
  Go.step (fun T A t S => XS.lcmp A hK.1 rfl (hb hK.2.1 hd0) rfl S) (gN_if_lt (x := lcmpW x y) hK hd (by have c1 := (c_lcmp x y).1; have c2 := (c_lcmp x y).2.1; have c3 := (c_lcmp x y).2.2; omega) G)
theorem g_lif_lt (hK : Cx K Z own bs mx rt nm) {o : Int} {x y : Int64} (hd0 : decode bs pc = .ok (.lcmp, 1)) (hd : decode bs (pc + 1) = .ok (.ifCond .lt o, 3)) (ho : 0 ≤ ((pc + 1 : Nat) : Int) + o ∧ (((pc + 1 : Nat) : Int) + o).toNat = pc') (G1 : x.toInt < y.toInt → Go K R n0 B Q h cells slots pc' Ls rest) (G2 : y.toInt ≤ x.toInt → Go K R n0 B Q h cells slots (pc + 4) Ls rest) : Go K R n0 B Q h cells slots pc Ls (.long y :: .long x :: rest) :=
  (Decidable.em (x.toInt < y.toInt)).elim (fun z => gY_lif_lt hK hd0 hd ho z (G1 z)) (fun z => gN_lif_lt hK hd0 hd (Int.not_lt.mp z) (G2 (Int.not_lt.mp z)))
theorem gY_lif_ge (hK : Cx K Z own bs mx rt nm) {o : Int} {x y : Int64} (hd0 : decode bs pc = .ok (.lcmp, 1)) (hd : decode bs (pc + 1) = .ok (.ifCond .ge o, 3)) (ho : 0 ≤ ((pc + 1 : Nat) : Int) + o ∧ (((pc + 1 : Nat) : Int) + o).toNat = pc') (q : y.toInt ≤ x.toInt) (G : Go K R n0 B Q h cells slots pc' Ls rest) : Go K R n0 B Q h cells slots pc Ls (.long y :: .long x :: rest) :=
  Go.step (fun T A t S => XS.lcmp A hK.1 rfl (hb hK.2.1 hd0) rfl S) (gY_if_ge (x := lcmpW x y) hK hd ho (by have c1 := (c_lcmp x y).1; have c2 := (c_lcmp x y).2.1; have c3 := (c_lcmp x y).2.2; omega) G)
theorem gN_lif_ge (hK : Cx K Z own bs mx rt nm) {o : Int} {x y : Int64} (hd0 : decode bs pc = .ok (.lcmp, 1)) (hd : decode bs (pc + 1) = .ok (.ifCond .ge o, 3)) (q : x.toInt < y.toInt) (G : Go K R n0 B Q h cells slots (pc + 4) Ls rest) : Go K R n0 B Q h cells slots pc Ls (.long y :: .long x :: rest) :=
  Go.step (fun T A t S => XS.lcmp A hK.1 rfl (hb hK.2.1 hd0) rfl S) (gN_if_ge (x := lcmpW x y) hK hd (by have c1 := (c_lcmp x y).1; have c2 := (c_lcmp x y).2.1; have c3 := (c_lcmp x y).2.2; omega) G)
theorem g_lif_ge (hK : Cx K Z own bs mx rt nm) {o : Int} {x y : Int64} (hd0 : decode bs pc = .ok (.lcmp, 1)) (hd : decode bs (pc + 1) = .ok (.ifCond .ge o, 3)) (ho : 0 ≤ ((pc + 1 : Nat) : Int) + o ∧ (((pc + 1 : Nat) : Int) + o).toNat = pc') (G1 : y.toInt ≤ x.toInt → Go K R n0 B Q h cells slots pc' Ls rest) (G2 : x.toInt < y.toInt → Go K R n0 B Q h cells slots (pc + 4) Ls rest) : Go K R n0 B Q h cells slots pc Ls (.long y :: .long x :: rest) :=
  (Decidable.em (y.toInt ≤ x.toInt)).elim (fun z => gY_lif_ge hK hd0 hd ho z (G1 z)) (fun z => gN_lif_ge hK hd0 hd (Int.not_le.mp z) (G2 (Int.not_le.mp z)))
theorem gY_lif_gt (hK : Cx K Z own bs mx rt nm) {o : Int} {x y : Int64} (hd0 : decode bs pc = .ok (.lcmp, 1)) (hd : decode bs (pc + 1) = .ok (.ifCond .gt o, 3)) (ho : 0 ≤ ((pc + 1 : Nat) : Int) + o ∧ (((pc + 1 : Nat) : Int) + o).toNat = pc') (q : y.toInt < x.toInt) (G : Go K R n0 B Q h cells slots pc' Ls rest) : Go K R n0 B Q h cells slots pc Ls (.long y :: .long x :: rest) :=
  Go.step (fun T A t S => XS.lcmp A hK.1 rfl (hb hK.2.1 hd0) rfl S) (gY_if_gt (x := lcmpW x y) hK hd ho (by have c1 := (c_lcmp x y).1; have c2 := (c_lcmp x y).2.1; have c3 := (c_lcmp x y).2.2; omega) G)
theorem gN_lif_gt (hK : Cx K Z own bs mx rt nm) {o : Int} {x y : Int64} (hd0 : decode bs pc = .ok (.lcmp, 1)) (hd : decode bs (pc + 1) = .ok (.ifCond .gt o, 3)) (q : x.toInt ≤ y.toInt) (G : Go K R n0 B Q h cells slots (pc + 4) Ls rest) : Go K R n0 B Q h cells slots pc Ls (.long y :: .long x :: rest) :=
  Go.step (fun T A t S => XS.lcmp A hK.1 rfl (hb hK.2.1 hd0) rfl S) (gN_if_gt (x := lcmpW x y) hK hd (by have c1 := (c_lcmp x y).1; have c2 := (c_lcmp x y).2.1; have c3 := (c_lcmp x y).2.2; omega) G)
theorem g_lif_gt (hK : Cx K Z own bs mx rt nm) {o : Int} {x y : Int64} (hd0 : decode bs pc = .ok (.lcmp, 1)) (hd : decode bs (pc + 1) = .ok (.ifCond .gt o, 3)) (ho : 0 ≤ ((pc + 1 : Nat) : Int) + o ∧ (((pc + 1 : Nat) : Int) + o).toNat = pc') (G1 : y.toInt < x.toInt → Go K R n0 B Q h cells slots pc' Ls rest) (G2 : x.toInt ≤ y.toInt → Go K R n0 B Q h cells slots (pc + 4) Ls rest) : Go K R n0 B Q h cells slots pc Ls (.long y :: .long x :: rest) :=
  (Decidable.em (y.toInt < x.toInt)).elim (fun z => gY_lif_gt hK hd0 hd ho z (G1 z)) (fun z => gN_lif_gt hK hd0 hd (Int.not_lt.mp z) (G2 (Int.not_lt.mp z)))
theorem gY_lif_le (hK : Cx K Z own bs mx rt nm) {o : Int} {x y : Int64} (hd0 : decode bs pc = .ok (.lcmp, 1)) (hd : decode bs (pc + 1) = .ok (.ifCond .le o, 3)) (ho : 0 ≤ ((pc + 1 : Nat) : Int) + o ∧ (((pc + 1 : Nat) : Int) + o).toNat = pc') (q : x.toInt ≤ y.toInt) (G : Go K R n0 B Q h cells slots pc' Ls rest) : Go K R n0 B Q h cells slots pc Ls (.long y :: .long x :: rest) :=
  Go.step (fun T A t S => XS.lcmp A hK.1 rfl (hb hK.2.1 hd0) rfl S) (gY_if_le (x := lcmpW x y) hK hd ho (by have c1 := (c_lcmp x y).1; have c2 := (c_lcmp x y).2.1; have c3 := (c_lcmp x y).2.2; omega) G)
theorem gN_lif_le (hK : Cx K Z own bs mx rt nm) {o : Int} {x y : Int64} (hd0 : decode bs pc = .ok (.lcmp, 1)) (hd : decode bs (pc + 1) = .ok (.ifCond .le o, 3)) (q : y.toInt < x.toInt) (G : Go K R n0 B Q h cells slots (pc + 4) Ls rest) : Go K R n0 B Q h cells slots pc Ls (.long y :: .long x :: rest) :=
  Go.step (fun T A t S => XS.lcmp A hK.1 rfl (hb hK.2.1 hd0) rfl S) (gN_if_le (x := lcmpW x y) hK hd (by have c1 := (c_lcmp x y).1; have c2 := (c_lcmp x y).2.1; have c3 := (c_lcmp x y).2.2; omega) G)
theorem g_lif_le (hK : Cx K Z own bs mx rt nm) {o : Int} {x y : Int64} (hd0 : decode bs pc = .ok (.lcmp, 1)) (hd : decode bs (pc + 1) = .ok (.ifCond .le o, 3)) (ho : 0 ≤ ((pc + 1 : Nat) : Int) + o ∧ (((pc + 1 : Nat) : Int) + o).toNat = pc') (G1 : x.toInt ≤ y.toInt → Go K R n0 B Q h cells slots pc' Ls rest) (G2 : y.toInt < x.toInt → Go K R n0 B Q h cells slots (pc + 4) Ls rest) : Go K R n0 B Q h cells slots pc Ls (.long y :: .long x :: rest) :=
  (Decidable.em (x.toInt ≤ y.toInt)).elim (fun z => gY_lif_le hK hd0 hd ho z (G1 z)) (fun z => gN_lif_le hK hd0 hd (Int.not_le.mp z) (G2 (Int.not_le.mp z)))
/-! the constants of the pool -/
theorem g_ldc (hK : Cx K Z own bs mx rt nm) {i : Nat} {v : Int32} (w : (Jvm.Cond.constant own i v).before a0 Z = true) (hd : decode bs pc = .ok (.ldc i, 2)) (G : Go K R n0 B Q h cells slots (pc + 2) Ls (.int v :: st)) : Go K R n0 B Q h cells slots pc Ls st :=
  G.stepX fun T locs X e t S => X.ldcInt hK.1 hK.2.2.2.1 (mvT hK.2.2.2.2.2.2.2 w) (g := mkF (kM K) pc ⟨Ls⟩ st) rfl (hb hK.2.1 hd) t S
theorem g_ldc_w (hK : Cx K Z own bs mx rt nm) {i : Nat} {v : Int32} (w : (Jvm.Cond.constant own i v).before a0 Z = true) (hd : decode bs pc = .ok (.ldc_w i, 3)) (G : Go K R n0 B Q h cells slots (pc + 3) Ls (.int v :: st)) : Go K R n0 B Q h cells slots pc Ls st :=
  G.stepX fun T locs X e t S => X.ldcwInt hK.1 hK.2.2.2.1 (mvT hK.2.2.2.2.2.2.2 w) (g := mkF (kM K) pc ⟨Ls⟩ st) rfl (hb hK.2.1 hd) t S
theorem g_ldc2 (hK : Cx K Z own bs mx rt nm) {i : Nat} {v : Int64} (w : (Jvm.Cond.constantLong own i v).before a0 Z = true) (hd : decode bs pc = .ok (.ldc2_w i, 3)) (G : Go K R n0 B Q h cells slots (pc + 3) Ls (.long v :: st)) : Go K R n0 B Q h cells slots pc Ls st :=
  G.stepX fun T locs X e t S => X.ldc2Long hK.1 hK.2.2.2.1 (mvT hK.2.2.2.2.2.2.2 w) (g := mkF (kM K) pc ⟨Ls⟩ st) rfl (hb hK.2.1 hd) t S
/-! fields, objects, arrays -/
theorem g_get (hK : Cx K Z own bs mx rt nm) {C n d : String} {i : Nat} {a : Addr} {v : Value} (w : (Jvm.Cond.fieldLink own i C n d).before a0 Z = true) (hd : decode bs pc = .ok (.getfield i, 3)) (F : Fld Z h a C n d v) (G : Go K R n0 B Q h cells slots (pc + 3) Ls (v :: st)) : Go K R n0 B Q h cells slots pc Ls (.ref a :: st) := by
  intro T locs X N eT
  obtain ⟨T', X', e', S⟩ := getF X hK.1 hK.2.2.2.2.2.2.2 hK.2.2.2.1 (host := "") (Or.inl w) Via.refl eT F (g := mkF (kM K) pc ⟨Ls⟩ (.ref a :: st)) rfl rfl (hb hK.2.1 hd)
  obtain ⟨s₂, v, L, h1, r⟩ := G T' locs X' N e'
  exact ⟨s₂, v, L, S _ h1, r⟩
theorem g_put (hK : Cx K Z own bs mx rt nm) {C n d : String} {i kk : Nat} {ty : FieldType} {a : Addr} {v old : Value} (w : (Jvm.Cond.fieldLink own i C n d).before a0 Z = true) (wl : (Jvm.Cond.lays C C n d).before a0 Z = true ∨ ((Jvm.Cond.laysFinal C C n d).before a0 Z = true ∧ own = C ∧ nm = "<init>")) (wi : (Jvm.Cond.instantiable C kk).before a0 Z = true) (hd : decode bs pc = .ok (.putfield i, 3))
    (F : Fld Z h a C n d old) (E : Exa Z h a C) (hn : n0 ≤ a) (hty : parseFieldDescriptor d = some ty) (h1 : narrow ty v = v) (h2 : fits ty v = true) (G : ∀ h', Wr h h' a (Jvm.RoadKit.slotOf Z C n d) v → Go K R n0 B Q h' cells slots (pc + 3) Ls rest) : Go K R n0 B Q h cells slots pc Ls (v :: .ref a :: rest) := by
  intro T locs X N eT
  obtain ⟨T', h', X', e', W, S⟩ := putF X hK.1 hK.2.2.2.2.2.2.2 hK.2.2.2.1 (host := "") (Or.inl w) Via.refl eT F E (wl.imp id fun q => ⟨q.1, q.2.1, hK.2.2.2.2.1.trans q.2.2⟩) wi hty h1 h2 (g := mkF (kM K) pc ⟨Ls⟩ (v :: .ref a :: rest)) rfl rfl (hb hK.2.1 hd)
  obtain ⟨s₂, v, L, h1, r⟩ := G h' W T' _ X' (Fr.snoc X' N hn) e'
  exact ⟨s₂, v, L, S _ h1, r⟩
theorem g_new (hK : Cx K Z own bs mx rt nm) {C : String} {i n : Nat} (w : (Jvm.Cond.classLink own i C).before a0 Z = true) (wi : (Jvm.Cond.instantiable C n).before a0 Z = true) (wz : (Jvm.Cond.initialized C).before a0 Z = true) (hd : decode bs pc = .ok (.new i, 3)) (hr : (Nat.ble (cells + 1) R.cells && Nat.ble (slots + n) R.slots) = true)
    (G : ∀ h' a, a = h.size → Ext h h' → Exa Z h' a C → (∀ {O nm d : String} {ty : FieldType}, Laid Z a0 C O nm d → parseFieldDescriptor d = some ty → Fld Z h' a O nm d (defaultValue ty)) → Go K R n0 B Q h' (cells + 1) (slots + n) (pc + 3) Ls (.ref a :: st)) : Go K R n0 B Q h cells slots pc Ls st := by
  intro T locs X N eT
  simp only [Bool.and_eq_true] at hr
  obtain ⟨T', h', X', e', E, A, D, -, S⟩ := newO X hK.1 hK.2.2.2.2.2.2.2 hK.2.2.2.1 w wi wz eT (g := mkF (kM K) pc ⟨Ls⟩ st) rfl (hb hK.2.1 hd) (Nat.le_of_ble_eq_true hr.1) (Nat.le_of_ble_eq_true hr.2)
  obtain ⟨s₂, v, L, h1, r⟩ := G h' h.size rfl E A D T' _ X' N e'
  exact ⟨s₂, v, L, S _ h1, r⟩
theorem g_newarray (hK : Cx K Z own bs mx rt nm) {aty : ArrayType} {n : Int32} (cap : Nat) (w : (Jvm.Cond.arrayClass (newarray.typeOf aty)).before a0 Z = true) (hd : decode bs pc = .ok (.newarray aty, 2)) (hn : ¬ n < 0) (hcap : n.toNatClampNeg ≤ cap) (hr : (Nat.ble (cap * 8) 536870912 && Nat.ble (cells + 1) R.cells && Nat.ble (slots + cap) R.slots) = true)
    (G : ∀ h' a cA, a = h.size → Ext h h' → Arr Z h' a (newA cA (newarray.typeOf aty) n) (newarray.typeOf aty) → Go K R n0 B Q h' (cells + 1) (slots + cap) (pc + 2) Ls (.ref a :: rest)) : Go K R n0 B Q h cells slots pc Ls (.int n :: rest) := by
  intro T locs X N eT
  simp only [Bool.and_eq_true] at hr
  obtain ⟨T', h', cA, X', e', E, A, S⟩ := newP X hK.1 hK.2.2.2.2.2.2.2 w eT (g := mkF (kM K) pc ⟨Ls⟩ (.int n :: rest)) rfl (hb hK.2.1 hd) rfl hn hcap (Nat.le_of_ble_eq_true hr.1.1) (Nat.le_of_ble_eq_true hr.1.2) (Nat.le_of_ble_eq_true hr.2)
  obtain ⟨s₂, v, L, h1, r⟩ := G h' h.size cA rfl E A T' _ X' N e'
  exact ⟨s₂, v, L, S _ h1, r⟩
theorem g_arraylength (hK : Cx K Z own bs mx rt nm) {a : Addr} {cl : Cell} {ty : FieldType} {z : Int32} (A : Arr Z h a cl ty) (hz : cl.slots.size.toInt32 = z) (hd : decode bs pc = .ok (.arraylength, 1)) (G : Go K R n0 B Q h cells slots (pc + 1) Ls (.int z :: rest)) : Go K R n0 B Q h cells slots pc Ls (.ref a :: rest) :=
  G.stepX fun T locs X e t S => X.arraylength hK.1 (by rw [e]; exact A.1) (State.isArrayOf_alike hK.2.2.2.2.2.2.2.alike A.2.1) (g := mkF (kM K) pc ⟨Ls⟩ (.ref a :: rest)) rfl rfl (hb hK.2.1 hd) t (by subst hz; exact S)
theorem g_iaload (hK : Cx K Z own bs mx rt nm) {a : Addr} {cl : Cell} {j v : Int32} (A : Arr Z h a cl .int) (hj : ¬ (j < 0 ∨ cl.slots.size ≤ j.toNatClampNeg)) (hv : cl.slots[j.toNatClampNeg]? = some (.int v)) (hd : decode bs pc = .ok (.iaload, 1)) (G : Go K R n0 B Q h cells slots (pc + 1) Ls (.int v :: rest)) : Go K R n0 B Q h cells slots pc Ls (.int j :: .ref a :: rest) :=
  G.stepX fun T locs X e t S => X.iaload hK.1 (by rw [e]; exact A.1) (State.isArrayOf_alike hK.2.2.2.2.2.2.2.alike A.2.1) A.2.2 hj hv (g := mkF (kM K) pc ⟨Ls⟩ (.int j :: .ref a :: rest)) rfl rfl (hb hK.2.1 hd) t S
theorem g_laload (hK : Cx K Z own bs mx rt nm) {a : Addr} {cl : Cell} {j : Int32} {v : Int64} (A : Arr Z h a cl .long) (hj : ¬ (j < 0 ∨ cl.slots.size ≤ j.toNatClampNeg)) (hv : cl.slots[j.toNatClampNeg]? = some (.long v)) (hd : decode bs pc = .ok (.laload, 1)) (G : Go K R n0 B Q h cells slots (pc + 1) Ls (.long v :: rest)) : Go K R n0 B Q h cells slots pc Ls (.int j :: .ref a :: rest) :=
  G.stepX fun T locs X e t S => X.laload hK.1 (by rw [e]; exact A.1) (State.isArrayOf_alike hK.2.2.2.2.2.2.2.alike A.2.1) A.2.2 hj hv (g := mkF (kM K) pc ⟨Ls⟩ (.int j :: .ref a :: rest)) rfl rfl (hb hK.2.1 hd) t S
theorem g_iastore (hK : Cx K Z own bs mx rt nm) {a : Addr} {cl : Cell} {j x : Int32} (A : Arr Z h a cl .int) (hj : ¬ (j < 0 ∨ cl.slots.size ≤ j.toNatClampNeg)) (hn : n0 ≤ a) (hd : decode bs pc = .ok (.iastore, 1)) (G : ∀ h', Wr h h' a j.toNatClampNeg (.int x) → Go K R n0 B Q h' cells slots (pc + 1) Ls rest) : Go K R n0 B Q h cells slots pc Ls (.int x :: .int j :: .ref a :: rest) := by
  intro T locs X N eT
  obtain ⟨T', h', X', e', W, S⟩ := stI X hK.1 hK.2.2.2.2.2.2.2 eT A hj (g := mkF (kM K) pc ⟨Ls⟩ (.int x :: .int j :: .ref a :: rest)) rfl rfl (hb hK.2.1 hd)
  obtain ⟨s₂, v, L, h1, r⟩ := G h' W T' _ X' (Fr.snoc X' N hn) e'
  exact ⟨s₂, v, L, S _ h1, r⟩
theorem g_lastore (hK : Cx K Z own bs mx rt nm) {a : Addr} {cl : Cell} {j : Int32} {x : Int64} (A : Arr Z h a cl .long) (hj : ¬ (j < 0 ∨ cl.slots.size ≤ j.toNatClampNeg)) (hn : n0 ≤ a) (hd : decode bs pc = .ok (.lastore, 1)) (G : ∀ h', Wr h h' a j.toNatClampNeg (.long x) → Go K R n0 B Q h' cells slots (pc + 1) Ls rest) : Go K R n0 B Q h cells slots pc Ls (.long x :: .int j :: .ref a :: rest) := by
  intro T locs X N eT
  obtain ⟨T', h', X', e', W, S⟩ := stJ X hK.1 hK.2.2.2.2.2.2.2 eT A hj (g := mkF (kM K) pc ⟨Ls⟩ (.long x :: .int j :: .ref a :: rest)) rfl rfl (hb hK.2.1 hd)
  obtain ⟨s₂, v, L, h1, r⟩ := G h' W T' _ X' (Fr.snoc X' N hn) e'
  exact ⟨s₂, v, L, S _ h1, r⟩
/-! Object.<init> -/
theorem g_objinit (hK : Cx K Z own bs mx rt nm) {i : Nat} {a : Addr} (W : Nat) (w1 : (Jvm.Cond.methodLink own i Lib.objectInit).before a0 Z = true) (w2 : (Jvm.Cond.instanceMethod Lib.objectInit).before a0 Z = true) (w3 : (Jvm.Cond.code Lib.objectInit ⟨#[0xb1]⟩ 1 none).before a0 Z = true) (hd : decode bs pc = .ok (.invokespecial i, 3)) (hsz : Ls.length = mx)
    (hr : (Nat.ble 1 R.frames && Nat.ble (rest.map fun v => v.category).sum W && Nat.ble (W + 12) R.locals) = true) (G : Go K R n0 B Q h cells slots (pc + 3) Ls rest) : Go K R n0 B Q h cells slots pc Ls (.ref a :: rest) := by
  intro T locs X N eT
  simp only [Bool.and_eq_true] at hr
  obtain ⟨T', X', e', S⟩ := initO X hK.1 hK.2.2.2.2.2.2.2 hK.2.2.2.1 w1 w2 w3 eT (g := mkF (kM K) pc ⟨Ls⟩ (.ref a :: rest)) rfl (by rw [hK.2.2.1]; exact hsz) rfl (hb hK.2.1 hd) (Nat.le_of_ble_eq_true hr.1.1) (W := W) (by show 2 * 0 + _ ≤ _; rw [Nat.mul_zero, Nat.zero_add]; exact Nat.le_of_ble_eq_true hr.1.2) (Nat.le_of_ble_eq_true hr.2)
  obtain ⟨s₂, v, L, h1, r⟩ := G T' locs X' N e'
  exact ⟨s₂, v, L, S _ h1, r⟩
/-! the returns -/
theorem g_ret {w : Value} {t : FieldType} {ins : Instr} (hK : Cx K Z own bs mx (some t) nm) (hn : narrow t w = w) (hi : (ins = .ireturn ∧ (t = .int ∨ t = .boolean ∨ t = .byte ∨ t = .char ∨ t = .short) ∧ ∃ z, w = .int z) ∨ (ins = .lreturn ∧ t = .long ∧ ∃ z, w = .long z) ∨ (ins = .dreturn ∧ t = .double ∧ ∃ z, w = .double z) ∨ (ins = .freturn ∧ t = .float ∧ ∃ z, w = .float z) ∨ (ins = .areturn ∧ t.isReference = true ∧ w.isRef = true))
    (hd : decode bs pc = .ok (ins, 1)) (hr : (Nat.ble cells R.cells && Nat.ble slots R.slots) = true) (q : Q (some w) h) : Go K R n0 (nB (kS K) R) Q h cells slots pc Ls (w :: rest) := by
  intro T locs X N eT
  simp only [Bool.and_eq_true] at hr
  have hlk := hK.2.2.2.2.2.2.1
  obtain ⟨fs, hl, hrun, hended, hW, hsame⟩ := X.leave (v := some w) (fun e => by rw [hK.2.2.2.2.2.1] at e; cases e) hlk
  refine ⟨_, some w, locs, retOut X hK.1 hK.2.2.2.2.2.1 hn hi (hb hK.2.1 hd) hl, hrun, hended, ?_, N, hW, hsame.mono (Nat.le_of_ble_eq_true hr.1) (Nat.le_of_ble_eq_true hr.2)⟩
  show Q (some w) T.heap
  rw [eT]; exact q
theorem g_ireturn {z : Int32} {P : Int32 → Heap → Prop} (hK : Cx K Z own bs mx (some .int) nm) (hd : decode bs pc = .ok (.ireturn, 1)) (hr : (Nat.ble cells R.cells && Nat.ble slots R.slots) = true) (q : P z h) : Go K R n0 (nB (kS K) R) (qI P) h cells slots pc Ls (.int z :: rest) :=
  g_ret hK rfl (Or.inl ⟨rfl, Or.inl rfl, z, rfl⟩) hd hr ⟨z, rfl, q⟩
theorem g_zreturn {z : Int32} {P : Int32 → Heap → Prop} (hK : Cx K Z own bs mx (some .boolean) nm) (hd : decode bs pc = .ok (.ireturn, 1)) (hn : narrow .boolean (.int z) = .int z) (hr : (Nat.ble cells R.cells && Nat.ble slots R.slots) = true) (q : P z h) : Go K R n0 (nB (kS K) R) (qI P) h cells slots pc Ls (.int z :: rest) :=
  g_ret hK hn (Or.inl ⟨rfl, Or.inr (Or.inl rfl), z, rfl⟩) hd hr ⟨z, rfl, q⟩
theorem g_lreturn {z : Int64} {P : Int64 → Heap → Prop} (hK : Cx K Z own bs mx (some .long) nm) (hd : decode bs pc = .ok (.lreturn, 1)) (hr : (Nat.ble cells R.cells && Nat.ble slots R.slots) = true) (q : P z h) : Go K R n0 (nB (kS K) R) (qJ P) h cells slots pc Ls (.long z :: rest) :=
  g_ret hK rfl (Or.inr (Or.inl ⟨rfl, rfl, z, rfl⟩)) hd hr ⟨z, rfl, q⟩
theorem g_areturn {z : Addr} {t : FieldType} {P : Addr → Heap → Prop} (hK : Cx K Z own bs mx (some t) nm) (ht : t.isReference = true) (hn : narrow t (.ref z) = .ref z) (hd : decode bs pc = .ok (.areturn, 1)) (hr : (Nat.ble cells R.cells && Nat.ble slots R.slots) = true) (q : P z h) : Go K R n0 (nB (kS K) R) (qA P) h cells slots pc Ls (.ref z :: rest) :=
  g_ret hK hn (Or.inr (Or.inr (Or.inr (Or.inr ⟨rfl, ht, rfl⟩)))) hd hr ⟨z, rfl, q⟩
theorem g_return {P : Heap → Prop} (hK : Cx K Z own bs mx none nm) (hd : decode bs pc = .ok (.return_, 1)) (hr : (Nat.ble cells R.cells && Nat.ble slots R.slots) = true) (q : P h) : Go K R n0 (nB (kS K) R) (qV P) h cells slots pc Ls [] := by
  intro T locs X N eT
  simp only [Bool.and_eq_true] at hr
  have hlk := hK.2.2.2.2.2.2.1
  obtain ⟨fs, hl, hrun, hended, hW, hsame⟩ := X.leave (v := none) (fun _ => rfl) hlk
  refine ⟨_, none, locs, X.returnOut hK.1 hK.2.2.2.2.2.1 (hb hK.2.1 hd) hl, hrun, hended, ⟨rfl, ?_⟩, N, hW, hsame.mono (Nat.le_of_ble_eq_true hr.1) (Nat.le_of_ble_eq_true hr.2)⟩
  show P T.heap
  rw [eT]; exact q
/-! stores -/
def isOne : Slot → Bool
  | .unset => true
  | .val w => w.category == 1
  | .second => false
theorem isOne_one {o : Slot} (q : isOne o = true) : o = .unset ∨ ∃ w, o = .val w ∧ w.category = 1 := by
  cases o with
  | unset => exact Or.inl rfl
  | second => cases q
  | val w => exact Or.inr ⟨w, rfl, by simpa [isOne] using q⟩
theorem stL1 {pre post : List Slot} {o : Slot} {v : Value} (ho : isOne o = true) (hv : v.category = 1) : storeLocals ⟨pre ++ o :: post⟩ pre.length v = some ⟨pre ++ .val v :: post⟩ := by
  rw [XS.store1 (o := o) (by simp) (isOne_one ho) hv]; simp
theorem g_istoreG (hK : Cx K Z own bs mx rt nm) {pre post : List Slot} {o : Slot} {x : Int32} {k : Nat} (hk : pre.length = k) (hd : decode bs pc = .ok (.istore k, 2)) (ho : isOne o = true) (G : Go K R n0 B Q h cells slots (pc + 2) (pre ++ .val (.int x) :: post) rest) : Go K R n0 B Q h cells slots pc (pre ++ o :: post) (.int x :: rest) :=
  G.step fun T A t S => XS.istore A hK.1 rfl (hb hK.2.1 hd) rfl (by subst hk; exact stL1 ho rfl) S
theorem g_istoreNG (hK : Cx K Z own bs mx rt nm) {pre post : List Slot} {o : Slot} {x : Int32} {k : Fin 4} (hk : pre.length = k.val) (hd : decode bs pc = .ok (.istore_n k, 1)) (ho : isOne o = true) (G : Go K R n0 B Q h cells slots (pc + 1) (pre ++ .val (.int x) :: post) rest) : Go K R n0 B Q h cells slots pc (pre ++ o :: post) (.int x :: rest) :=
  G.step fun T A t S => XS.istoreN A hK.1 rfl (hb hK.2.1 hd) rfl (by rw [← hk]; exact stL1 ho rfl) S
theorem g_astoreG (hK : Cx K Z own bs mx rt nm) {pre post : List Slot} {o : Slot} {x : Addr} {k : Nat} (hk : pre.length = k) (hd : decode bs pc = .ok (.astore k, 2)) (ho : isOne o = true) (G : Go K R n0 B Q h cells slots (pc + 2) (pre ++ .val (.ref x) :: post) rest) : Go K R n0 B Q h cells slots pc (pre ++ o :: post) (.ref x :: rest) :=
  G.step fun T A t S => XS.astore A hK.1 rfl (hb hK.2.1 hd) rfl rfl (by subst hk; exact stL1 ho rfl) S
theorem g_astoreNG (hK : Cx K Z own bs mx rt nm) {pre post : List Slot} {o : Slot} {x : Addr} {k : Fin 4} (hk : pre.length = k.val) (hd : decode bs pc = .ok (.astore_n k, 1)) (ho : isOne o = true) (G : Go K R n0 B Q h cells slots (pc + 1) (pre ++ .val (.ref x) :: post) rest) : Go K R n0 B Q h cells slots pc (pre ++ o :: post) (.ref x :: rest) :=
  G.step fun T A t S => XS.astoreN A hK.1 rfl (hb hK.2.1 hd) rfl rfl (by rw [← hk]; exact stL1 ho rfl) S
theorem g_iincG (hK : Cx K Z own bs mx rt nm) {pre post : List Slot} {x : Int32} {k : Nat} {cst : Int} (hk : pre.length = k) (hd : decode bs pc = .ok (.iinc k cst, 3)) (G : Go K R n0 B Q h cells slots (pc + 3) (pre ++ .val (.int (x + Int32.ofInt cst)) :: post) st) : Go K R n0 B Q h cells slots pc (pre ++ .val (.int x) :: post) st :=
  G.step fun T A t S => XS.iinc A hK.1 rfl (hb hK.2.1 hd) (x := x) (by subst hk; simp) (by subst hk; exact stL1 rfl rfl) S
def isTwo : Slot → Slot → Bool
  | .unset, .unset => true
  | .val (.long _), .second => true
  | _, _ => false
theorem stL2 {pre post : List Slot} {o q : Slot} {x : Int64} (ho : isTwo o q = true) : storeLocals ⟨pre ++ o :: q :: post⟩ pre.length (.long x) = some ⟨pre ++ .val (.long x) :: .second :: post⟩ := by
  have e1 : ∀ (a b : Slot), (⟨pre ++ a :: b :: post⟩ : Array Slot)[pre.length]? = some a := fun a b => by simp
  have e2 : ∀ (a b : Slot), (⟨pre ++ a :: b :: post⟩ : Array Slot)[pre.length + 1]? = some b := fun a b => by
    simp [List.getElem?_append_right]
  have s1 : ∀ (a b c : Slot), setAt ⟨pre ++ a :: b :: post⟩ pre.length c = some ⟨pre ++ c :: b :: post⟩ := fun a b c => by
    simp [setAt]
  have s2 : ∀ (a b c : Slot), setAt ⟨pre ++ a :: b :: post⟩ (pre.length + 1) c = some ⟨pre ++ a :: c :: post⟩ := fun a b c => by
    simp [setAt, List.set_append_right]
  have key : ∀ (a b : Slot), (∀ w, b = .val w → w.category ≠ 2) → storeSelf ⟨pre ++ a :: b :: post⟩ pre.length (.long x) = some ⟨pre ++ .val (.long x) :: .second :: post⟩ := fun a b hb' => by
    have c2 : (Value.long x).category = 2 := rfl
    simp only [storeSelf, s1, Option.bind_eq_bind, Option.bind_some, c2, if_true, e2, s2]
    cases b with
    | unset => rfl
    | second => rfl
    | val w => simp only [if_neg (hb' w rfl)]
  rw [storeLocals, e1]
  cases o with
  | unset =>
    cases q with
    | unset => exact key _ _ (fun w e => by cases e)
    | second => cases ho
    | val w => cases ho
  | second => cases ho
  | val w =>
    cases w <;> first | (cases ho; done) | skip
    cases q <;> first | (cases ho; done) | skip
    simp only [Option.bind_eq_bind, Option.bind_some, Value.category, if_true, s2]
    exact key _ _ (fun w e => by cases e)
theorem g_lstoreG (hK : Cx K Z own bs mx rt nm) {pre post : List Slot} {o q : Slot} {x : Int64} {k : Nat} (hk : pre.length = k) (hd : decode bs pc = .ok (.lstore k, 2)) (ho : isTwo o q = true) (G : Go K R n0 B Q h cells slots (pc + 2) (pre ++ .val (.long x) :: .second :: post) rest) : Go K R n0 B Q h cells slots pc (pre ++ o :: q :: post) (.long x :: rest) :=
  G.step fun T A t S => XS.lstore A hK.1 rfl (hb hK.2.1 hd) rfl (by subst hk; exact stL2 ho) S
theorem g_lstoreNG (hK : Cx K Z own bs mx rt nm) {pre post : List Slot} {o q : Slot} {x : Int64} {k : Fin 4} (hk : pre.length = k.val) (hd : decode bs pc = .ok (.lstore_n k, 1)) (ho : isTwo o q = true) (G : Go K R n0 B Q h cells slots (pc + 1) (pre ++ .val (.long x) :: .second :: post) rest) : Go K R n0 B Q h cells slots pc (pre ++ o :: q :: post) (.long x :: rest) :=
  G.step fun T A t S => XS.lstoreN A hK.1 rfl (hb hK.2.1 hd) rfl (by rw [← hk]; exact stL2 ho) S
/-! the calls -/
theorem g_static (hK : Cx K Z own bs mx rt nm) {y : MethodName} {bs' : ByteArray} {mx' i : Nat} {rt' : Option FieldType} {rm : Room} {argsL : List Value} {Q' : Option Value → Heap → Prop} {ps : List FieldType} {r : Option FieldType} (W : Nat) (C : Con (kL K) y bs' mx' rt' [] rm Z n0 argsL.toArray h Q')
    (w1 : (Jvm.Cond.methodLink own i y).before a0 Z = true) (w2 : (Jvm.Cond.static y).before a0 Z = true) (w3 : (Jvm.Cond.initialized y.cls).before a0 Z = true) (w4 : (Jvm.Cond.code y bs' mx' rt').before a0 Z = true) (hy : y.cls ≠ "java/lang/invoke/MethodHandle" ∧ y.cls ≠ "java/lang/invoke/VarHandle")
    (pd : parseMethodDescriptor y.desc = some ⟨ps, r⟩) (hlen : argsL.length = ps.length) (hd : decode bs pc = .ok (.invokestatic i, 3)) (hsz : Ls.length = mx)
    (hr : (Nat.ble (rm.frames + 1) R.frames && Nat.ble (W + (mx' + 11) + rm.locals) R.locals && Nat.ble (rest.map fun v => v.category).sum W && Nat.ble (cells + rm.cells) R.cells && Nat.ble (slots + rm.slots) R.slots) = true)
    (G : ∀ v h', Q' v h' → h.size ≤ h'.size → Go K R n0 B Q h' (cells + rm.cells) (slots + rm.slots) (pc + 3) Ls (v.toList ++ rest)) : Go K R n0 B Q h cells slots pc Ls (argsL.reverse ++ rest) := by
  intro T locs X N eT
  simp only [Bool.and_eq_true] at hr
  obtain ⟨v, _, ⟨T', L', k', n'⟩, -, X', ⟨Lc, ⟨hQ, hF, hgr⟩, e1, e2, e3⟩, S⟩ := Jvm.LawKit.callS X hK.1 (y := y) hK.2.2.2.1 (mvT hK.2.2.2.2.2.2.2 w1) (mvT hK.2.2.2.2.2.2.2 w2) (mvT hK.2.2.2.2.2.2.2 w3) (mvT hK.2.2.2.2.2.2.2 w4) hy
    (backOf (W := W) (Q := fun v h' L => Q' v h' ∧ Fr n0 L ∧ h.size ≤ h'.size) C hK.2.2.2.2.2.2.2 w4 w3 (Nat.le_of_ble_eq_true hr.1.1.1.1) (Nat.le_of_ble_eq_true hr.1.1.1.2)) (g := mkF (kM K) pc ⟨Ls⟩ (argsL.reverse ++ rest)) rfl (by rw [hK.2.2.1]; exact hsz) (argsL := argsL) (rest := rest) (lenOf pd hlen) rfl (by show 2 * 0 + _ ≤ _; rw [Nat.mul_zero, Nat.zero_add]; exact Nat.le_of_ble_eq_true hr.1.1.2) (hb hK.2.1 hd)
    (fun _ _ => ⟨rfl, eT, Nat.le_of_ble_eq_true hr.1.2, Nat.le_of_ble_eq_true hr.2⟩)
  dsimp only [Pt.U, Pt.locs, Pt.cells, Pt.slots] at X' e1 e2 e3 S hQ hgr
  subst e1 e2 e3
  obtain ⟨s₂, v', L, h1, rr⟩ := G v T'.heap hQ hgr T' _ X' (Fr.app N hF) rfl
  exact ⟨s₂, v', L, S _ h1, rr⟩
theorem g_special (hK : Cx K Z own bs mx rt nm) {y : MethodName} {bs' : ByteArray} {mx' i : Nat} {rm : Room} {a : Addr} {argsL : List Value} {Q' : Option Value → Heap → Prop} {ps : List FieldType} {r : Option FieldType} (W : Nat) (C : Con (kL K) y bs' mx' none [] rm Z n0 (.ref a :: argsL).toArray h Q') (hy1 : y.name = "<init>")
    (w1 : (Jvm.Cond.methodLink own i y).before a0 Z = true) (w2 : (Jvm.Cond.instanceMethod y).before a0 Z = true) (w3 : (Jvm.Cond.initialized y.cls).before a0 Z = true) (w4 : (Jvm.Cond.code y bs' mx' none).before a0 Z = true) (hy : y.cls ≠ "java/lang/invoke/MethodHandle" ∧ y.cls ≠ "java/lang/invoke/VarHandle")
    (pd : parseMethodDescriptor y.desc = some ⟨ps, r⟩) (hlen : argsL.length = ps.length) (hd : decode bs pc = .ok (.invokespecial i, 3)) (hsz : Ls.length = mx)
    (hr : (Nat.ble (rm.frames + 1) R.frames && Nat.ble (W + (mx' + 11) + rm.locals) R.locals && Nat.ble (rest.map fun v => v.category).sum W && Nat.ble (cells + rm.cells) R.cells && Nat.ble (slots + rm.slots) R.slots) = true)
    (G : ∀ v h', Q' v h' → h.size ≤ h'.size → Go K R n0 B Q h' (cells + rm.cells) (slots + rm.slots) (pc + 3) Ls (v.toList ++ rest)) : Go K R n0 B Q h cells slots pc Ls (argsL.reverse ++ .ref a :: rest) := by
  intro T locs X N eT
  simp only [Bool.and_eq_true] at hr
  obtain ⟨v, _, ⟨T', L', k', n'⟩, -, X', ⟨Lc, ⟨hQ, hF, hgr⟩, e1, e2, e3⟩, S⟩ := X.specialBack hK.1 (y := y) hy1 hK.2.2.2.1 (mvT hK.2.2.2.2.2.2.2 w1) (mvT hK.2.2.2.2.2.2.2 w2) (mvT hK.2.2.2.2.2.2.2 w4) hy
    (backOf (W := W) (Q := fun v h' L => Q' v h' ∧ Fr n0 L ∧ h.size ≤ h'.size) C hK.2.2.2.2.2.2.2 w4 w3 (Nat.le_of_ble_eq_true hr.1.1.1.1) (Nat.le_of_ble_eq_true hr.1.1.1.2)) (g := mkF (kM K) pc ⟨Ls⟩ (argsL.reverse ++ .ref a :: rest)) rfl (by rw [hK.2.2.1]; exact hsz) (Steps.refl _) (a := a) (argsL := argsL) (rest := rest) (lenOf pd hlen) rfl (by show 2 * 0 + _ ≤ _; rw [Nat.mul_zero, Nat.zero_add]; exact Nat.le_of_ble_eq_true hr.1.1.2) (hb hK.2.1 hd)
    (fun _ _ => ⟨rfl, eT, Nat.le_of_ble_eq_true hr.1.2, Nat.le_of_ble_eq_true hr.2⟩)
  dsimp only [Pt.U, Pt.locs, Pt.cells, Pt.slots] at X' e1 e2 e3 S hQ hgr
  subst e1 e2 e3
  obtain ⟨s₂, v', L, h1, rr⟩ := G v T'.heap hQ hgr T' _ X' (Fr.app N hF) rfl
  exact ⟨s₂, v', L, S.trans h1, rr⟩
theorem g_virtual (hK : Cx K Z own bs mx rt nm) {y : MethodName} {bs' : ByteArray} {mx' i : Nat} {rt' : Option FieldType} {rm : Room} {a : Addr} {argsL : List Value} {Q' : Option Value → Heap → Prop} {ps : List FieldType} {r : Option FieldType} (W : Nat) (C : Con (kL K) y bs' mx' rt' [] rm Z n0 (.ref a :: argsL).toArray h Q') (E : Exa Z h a y.cls)
    (w1 : (Jvm.Cond.methodLink own i y).before a0 Z = true) (w2 : (Jvm.Cond.declares y).before a0 Z = true) (w3 : (Jvm.Cond.selects y.cls y y).before a0 Z = true) (w4 : (Jvm.Cond.instanceMethod y).before a0 Z = true) (w5 : (Jvm.Cond.initialized y.cls).before a0 Z = true) (w6 : (Jvm.Cond.code y bs' mx' rt').before a0 Z = true) (hy : y.cls ≠ "java/lang/invoke/MethodHandle" ∧ y.cls ≠ "java/lang/invoke/VarHandle")
    (pd : parseMethodDescriptor y.desc = some ⟨ps, r⟩) (hlen : argsL.length = ps.length) (hd : decode bs pc = .ok (.invokevirtual i, 3)) (hsz : Ls.length = mx)
    (hr : (Nat.ble (rm.frames + 1) R.frames && Nat.ble (W + (mx' + 11) + rm.locals) R.locals && Nat.ble (rest.map fun v => v.category).sum W && Nat.ble (cells + rm.cells) R.cells && Nat.ble (slots + rm.slots) R.slots) = true)
    (G : ∀ v h', Q' v h' → h.size ≤ h'.size → Go K R n0 B Q h' (cells + rm.cells) (slots + rm.slots) (pc + 3) Ls (v.toList ++ rest)) : Go K R n0 B Q h cells slots pc Ls (argsL.reverse ++ .ref a :: rest) := by
  intro T locs X N eT
  simp only [Bool.and_eq_true] at hr
  obtain ⟨cq, kq, q1, q2, q3⟩ := isOf hK.2.2.2.2.2.2.2 eT E
  obtain ⟨v, _, ⟨T', L', k', n'⟩, -, X', ⟨Lc, ⟨hQ, hF, hgr⟩, e1, e2, e3⟩, S⟩ := X.virtualBack hK.1 (y := y) (z := y) hK.2.2.2.1 (mvT hK.2.2.2.2.2.2.2 w1) (mvT hK.2.2.2.2.2.2.2 w2) (notFace_of_selects (args := #[]) (mvT hK.2.2.2.2.2.2.2 w3)) (mvT hK.2.2.2.2.2.2.2 w3) (mvT hK.2.2.2.2.2.2.2 w4) hy
    (backOf (W := W) (Q := fun v h' L => Q' v h' ∧ Fr n0 L ∧ h.size ≤ h'.size) C hK.2.2.2.2.2.2.2 w6 w5 (Nat.le_of_ble_eq_true hr.1.1.1.1) (Nat.le_of_ble_eq_true hr.1.1.1.2)) q1 q3 (g := mkF (kM K) pc ⟨Ls⟩ (argsL.reverse ++ .ref a :: rest)) rfl (by rw [hK.2.2.1]; exact hsz) (Steps.refl _) (argsL := argsL) (rest := rest) (lenOf pd hlen) rfl (by show 2 * 0 + _ ≤ _; rw [Nat.mul_zero, Nat.zero_add]; exact Nat.le_of_ble_eq_true hr.1.1.2) (hb hK.2.1 hd)
    (fun _ _ => ⟨rfl, eT, Nat.le_of_ble_eq_true hr.1.2, Nat.le_of_ble_eq_true hr.2⟩)
  dsimp only [Pt.U, Pt.locs, Pt.cells, Pt.slots] at X' e1 e2 e3 S hQ hgr
  subst e1 e2 e3
  obtain ⟨s₂, v', L, h1, rr⟩ := G v T'.heap hQ hgr T' _ X' (Fr.app N hF) rfl
  exact ⟨s₂, v', L, S.trans h1, rr⟩
end
section
variable {K : Ctx} {R : Room} {n0 : Nat} {B : State → List Loc → Prop} {Q : Option Value → Heap → Prop} {h : Heap} {cells slots pc : Nat} {st rest post : List Slot} {rs : List Value} {Z : State} {own : String} {bs : ByteArray} {mx : Nat} {rt : Option FieldType} {nm : String}
theorem g_astore_10 (hK : Cx K Z own bs mx rt nm) {s0 s1 s2 s3 s4 s5 s6 s7 s8 s9 : Slot} {o : Slot} {x : Addr} (hd : decode bs pc = .ok (.astore 10, 2)) (ho : isOne o = true) (G : Go K R n0 B Q h cells slots (pc + 2) (s0 :: s1 :: s2 :: s3 :: s4 :: s5 :: s6 :: s7 :: s8 :: s9 :: .val (.ref x) :: post) rs) : Go K R n0 B Q h cells slots pc (s0 :: s1 :: s2 :: s3 :: s4 :: s5 :: s6 :: s7 :: s8 :: s9 :: o :: post) (.ref x :: rs) :=
  g_astoreG (pre := [s0, s1, s2, s3, s4, s5, s6, s7, s8, s9]) hK rfl hd ho G
theorem g_istore_2 (hK : Cx K Z own bs mx rt nm) {s0 s1 : Slot} {o : Slot} {x : Int32} (hd : decode bs pc = .ok (.istore_n 2, 1)) (ho : isOne o = true) (G : Go K R n0 B Q h cells slots (pc + 1) (s0 :: s1 :: .val (.int x) :: post) rs) : Go K R n0 B Q h cells slots pc (s0 :: s1 :: o :: post) (.int x :: rs) :=
  g_istoreNG (pre := [s0, s1]) hK rfl hd ho G
theorem g_istore_5 (hK : Cx K Z own bs mx rt nm) {s0 s1 s2 s3 s4 : Slot} {o : Slot} {x : Int32} (hd : decode bs pc = .ok (.istore 5, 2)) (ho : isOne o = true) (G : Go K R n0 B Q h cells slots (pc + 2) (s0 :: s1 :: s2 :: s3 :: s4 :: .val (.int x) :: post) rs) : Go K R n0 B Q h cells slots pc (s0 :: s1 :: s2 :: s3 :: s4 :: o :: post) (.int x :: rs) :=
  g_istoreG (pre := [s0, s1, s2, s3, s4]) hK rfl hd ho G
theorem g_istore_6 (hK : Cx K Z own bs mx rt nm) {s0 s1 s2 s3 s4 s5 : Slot} {o : Slot} {x : Int32} (hd : decode bs pc = .ok (.istore 6, 2)) (ho : isOne o = true) (G : Go K R n0 B Q h cells slots (pc + 2) (s0 :: s1 :: s2 :: s3 :: s4 :: s5 :: .val (.int x) :: post) rs) : Go K R n0 B Q h cells slots pc (s0 :: s1 :: s2 :: s3 :: s4 :: s5 :: o :: post) (.int x :: rs) :=
  g_istoreG (pre := [s0, s1, s2, s3, s4, s5]) hK rfl hd ho G
theorem g_istore_7 (hK : Cx K Z own bs mx rt nm) {s0 s1 s2 s3 s4 s5 s6 : Slot} {o : Slot} {x : Int32} (hd : decode bs pc = .ok (.istore 7, 2)) (ho : isOne o = true) (G : Go K R n0 B Q h cells slots (pc + 2) (s0 :: s1 :: s2 :: s3 :: s4 :: s5 :: s6 :: .val (.int x) :: post) rs) : Go K R n0 B Q h cells slots pc (s0 :: s1 :: s2 :: s3 :: s4 :: s5 :: s6 :: o :: post) (.int x :: rs) :=
  g_istoreG (pre := [s0, s1, s2, s3, s4, s5, s6]) hK rfl hd ho G
theorem g_istore_8 (hK : Cx K Z own bs mx rt nm) {s0 s1 s2 s3 s4 s5 s6 s7 : Slot} {o : Slot} {x : Int32} (hd : decode bs pc = .ok (.istore 8, 2)) (ho : isOne o = true) (G : Go K R n0 B Q h cells slots (pc + 2) (s0 :: s1 :: s2 :: s3 :: s4 :: s5 :: s6 :: s7 :: .val (.int x) :: post) rs) : Go K R n0 B Q h cells slots pc (s0 :: s1 :: s2 :: s3 :: s4 :: s5 :: s6 :: s7 :: o :: post) (.int x :: rs) :=
  g_istoreG (pre := [s0, s1, s2, s3, s4, s5, s6, s7]) hK rfl hd ho G
theorem g_istore_9 (hK : Cx K Z own bs mx rt nm) {s0 s1 s2 s3 s4 s5 s6 s7 s8 : Slot} {o : Slot} {x : Int32} (hd : decode bs pc = .ok (.istore 9, 2)) (ho : isOne o = true) (G : Go K R n0 B Q h cells slots (pc + 2) (s0 :: s1 :: s2 :: s3 :: s4 :: s5 :: s6 :: s7 :: s8 :: .val (.int x) :: post) rs) : Go K R n0 B Q h cells slots pc (s0 :: s1 :: s2 :: s3 :: s4 :: s5 :: s6 :: s7 :: s8 :: o :: post) (.int x :: rs) :=
  g_istoreG (pre := [s0, s1, s2, s3, s4, s5, s6, s7, s8]) hK rfl hd ho G
theorem g_lstore_11 (hK : Cx K Z own bs mx rt nm) {s0 s1 s2 s3 s4 s5 s6 s7 s8 s9 s10 : Slot} {o q : Slot} {x : Int64} (hd : decode bs pc = .ok (.lstore 11, 2)) (ho : isTwo o q = true) (G : Go K R n0 B Q h cells slots (pc + 2) (s0 :: s1 :: s2 :: s3 :: s4 :: s5 :: s6 :: s7 :: s8 :: s9 :: s10 :: .val (.long x) :: .second :: post) rs) : Go K R n0 B Q h cells slots pc (s0 :: s1 :: s2 :: s3 :: s4 :: s5 :: s6 :: s7 :: s8 :: s9 :: s10 :: o :: q :: post) (.long x :: rs) :=
  g_lstoreG (pre := [s0, s1, s2, s3, s4, s5, s6, s7, s8, s9, s10]) hK rfl hd ho G
end
section
variable {K : Ctx} {R : Room} {n0 : Nat} {B : State → List Loc → Prop} {Q : Option Value → Heap → Prop} {h : Heap} {cells slots pc : Nat} {Ls : List Slot} {rest : List Value} {Z : State} {own : String} {bs : ByteArray} {mx : Nat} {rt : Option FieldType} {nm : String} {a0 : Array Value}
theorem g_special_0V (hK : Cx K Z own bs mx rt nm) {y : MethodName} {bs' : ByteArray} {mx' i : Nat} {rm : Room} {a : Addr} {P : Heap → Prop} {ps : List FieldType} {r : Option FieldType} (W : Nat) (hd : decode bs pc = .ok (.invokespecial i, 3)) (hy1 : y.name = "<init>") (w1 : (Jvm.Cond.methodLink own i y).before a0 Z = true) (w2 : (Jvm.Cond.instanceMethod y).before a0 Z = true) (w3 : (Jvm.Cond.initialized y.cls).before a0 Z = true) (w4 : (Jvm.Cond.code y bs' mx' none).before a0 Z = true) (hy : y.cls ≠ "java/lang/invoke/MethodHandle" ∧ y.cls ≠ "java/lang/invoke/VarHandle")
    (C : Con (kL K) y bs' mx' none [] rm Z n0 #[.ref a] h (qV P)) (pd : parseMethodDescriptor y.desc = some ⟨ps, r⟩) (hlen : 0 = ps.length) (hsz : Ls.length = mx)
    (hr : (Nat.ble (rm.frames + 1) R.frames && Nat.ble (W + (mx' + 11) + rm.locals) R.locals && Nat.ble (rest.map fun v => v.category).sum W && Nat.ble (cells + rm.cells) R.cells && Nat.ble (slots + rm.slots) R.slots) = true)
    (G : ∀ h', P h' → h.size ≤ h'.size → Go K R n0 B Q h' (cells + rm.cells) (slots + rm.slots) (pc + 3) Ls rest) : Go K R n0 B Q h cells slots pc Ls (.ref a :: rest) :=
  g_special (argsL := []) hK W C hy1 w1 w2 w3 w4 hy pd hlen hd hsz hr (fun v h' q gr => by obtain ⟨rfl, p⟩ := q; exact G h' p gr)
theorem g_static_2I (hK : Cx K Z own bs mx rt nm) {y : MethodName} {bs' : ByteArray} {mx' i : Nat} {rt' : Option FieldType} {rm : Room} {x0 x1 : Value} {P : Int32 → Heap → Prop} {ps : List FieldType} {r : Option FieldType} (W : Nat) (hd : decode bs pc = .ok (.invokestatic i, 3)) (w1 : (Jvm.Cond.methodLink own i y).before a0 Z = true) (w2 : (Jvm.Cond.static y).before a0 Z = true) (w3 : (Jvm.Cond.initialized y.cls).before a0 Z = true) (w4 : (Jvm.Cond.code y bs' mx' rt').before a0 Z = true) (hy : y.cls ≠ "java/lang/invoke/MethodHandle" ∧ y.cls ≠ "java/lang/invoke/VarHandle")
    (C : Con (kL K) y bs' mx' rt' [] rm Z n0 #[x0, x1] h (qI P)) (pd : parseMethodDescriptor y.desc = some ⟨ps, r⟩) (hlen : 2 = ps.length) (hsz : Ls.length = mx)
    (hr : (Nat.ble (rm.frames + 1) R.frames && Nat.ble (W + (mx' + 11) + rm.locals) R.locals && Nat.ble (rest.map fun v => v.category).sum W && Nat.ble (cells + rm.cells) R.cells && Nat.ble (slots + rm.slots) R.slots) = true)
    (G : ∀ z h', P z h' → h.size ≤ h'.size → Go K R n0 B Q h' (cells + rm.cells) (slots + rm.slots) (pc + 3) Ls (.int z :: rest)) : Go K R n0 B Q h cells slots pc Ls (x1 :: x0 :: rest) :=
  g_static (argsL := [x0, x1]) hK W C w1 w2 w3 w4 hy pd hlen hd hsz hr (fun v h' q gr => by obtain ⟨z, rfl, p⟩ := q; exact G z h' p gr)
theorem g_static_2J (hK : Cx K Z own bs mx rt nm) {y : MethodName} {bs' : ByteArray} {mx' i : Nat} {rt' : Option FieldType} {rm : Room} {x0 x1 : Value} {P : Int64 → Heap → Prop} {ps : List FieldType} {r : Option FieldType} (W : Nat) (hd : decode bs pc = .ok (.invokestatic i, 3)) (w1 : (Jvm.Cond.methodLink own i y).before a0 Z = true) (w2 : (Jvm.Cond.static y).before a0 Z = true) (w3 : (Jvm.Cond.initialized y.cls).before a0 Z = true) (w4 : (Jvm.Cond.code y bs' mx' rt').before a0 Z = true) (hy : y.cls ≠ "java/lang/invoke/MethodHandle" ∧ y.cls ≠ "java/lang/invoke/VarHandle")
    (C : Con (kL K) y bs' mx' rt' [] rm Z n0 #[x0, x1] h (qJ P)) (pd : parseMethodDescriptor y.desc = some ⟨ps, r⟩) (hlen : 2 = ps.length) (hsz : Ls.length = mx)
    (hr : (Nat.ble (rm.frames + 1) R.frames && Nat.ble (W + (mx' + 11) + rm.locals) R.locals && Nat.ble (rest.map fun v => v.category).sum W && Nat.ble (cells + rm.cells) R.cells && Nat.ble (slots + rm.slots) R.slots) = true)
    (G : ∀ z h', P z h' → h.size ≤ h'.size → Go K R n0 B Q h' (cells + rm.cells) (slots + rm.slots) (pc + 3) Ls (.long z :: rest)) : Go K R n0 B Q h cells slots pc Ls (x1 :: x0 :: rest) :=
  g_static (argsL := [x0, x1]) hK W C w1 w2 w3 w4 hy pd hlen hd hsz hr (fun v h' q gr => by obtain ⟨z, rfl, p⟩ := q; exact G z h' p gr)
theorem g_static_4V (hK : Cx K Z own bs mx rt nm) {y : MethodName} {bs' : ByteArray} {mx' i : Nat} {rt' : Option FieldType} {rm : Room} {x0 x1 x2 x3 : Value} {P : Heap → Prop} {ps : List FieldType} {r : Option FieldType} (W : Nat) (hd : decode bs pc = .ok (.invokestatic i, 3)) (w1 : (Jvm.Cond.methodLink own i y).before a0 Z = true) (w2 : (Jvm.Cond.static y).before a0 Z = true) (w3 : (Jvm.Cond.initialized y.cls).before a0 Z = true) (w4 : (Jvm.Cond.code y bs' mx' rt').before a0 Z = true) (hy : y.cls ≠ "java/lang/invoke/MethodHandle" ∧ y.cls ≠ "java/lang/invoke/VarHandle")
    (C : Con (kL K) y bs' mx' rt' [] rm Z n0 #[x0, x1, x2, x3] h (qV P)) (pd : parseMethodDescriptor y.desc = some ⟨ps, r⟩) (hlen : 4 = ps.length) (hsz : Ls.length = mx)
    (hr : (Nat.ble (rm.frames + 1) R.frames && Nat.ble (W + (mx' + 11) + rm.locals) R.locals && Nat.ble (rest.map fun v => v.category).sum W && Nat.ble (cells + rm.cells) R.cells && Nat.ble (slots + rm.slots) R.slots) = true)
    (G : ∀ h', P h' → h.size ≤ h'.size → Go K R n0 B Q h' (cells + rm.cells) (slots + rm.slots) (pc + 3) Ls rest) : Go K R n0 B Q h cells slots pc Ls (x3 :: x2 :: x1 :: x0 :: rest) :=
  g_static (argsL := [x0, x1, x2, x3]) hK W C w1 w2 w3 w4 hy pd hlen hd hsz hr (fun v h' q gr => by obtain ⟨rfl, p⟩ := q; exact G h' p gr)
theorem g_virtual_0I (hK : Cx K Z own bs mx rt nm) {y : MethodName} {bs' : ByteArray} {mx' i : Nat} {rt' : Option FieldType} {rm : Room} {a : Addr} {P : Int32 → Heap → Prop} {ps : List FieldType} {r : Option FieldType} (W : Nat) (hd : decode bs pc = .ok (.invokevirtual i, 3)) (w1 : (Jvm.Cond.methodLink own i y).before a0 Z = true) (w2 : (Jvm.Cond.declares y).before a0 Z = true) (w3 : (Jvm.Cond.selects y.cls y y).before a0 Z = true) (w4 : (Jvm.Cond.instanceMethod y).before a0 Z = true) (w5 : (Jvm.Cond.initialized y.cls).before a0 Z = true) (w6 : (Jvm.Cond.code y bs' mx' rt').before a0 Z = true) (hy : y.cls ≠ "java/lang/invoke/MethodHandle" ∧ y.cls ≠ "java/lang/invoke/VarHandle")
    (E : Exa Z h a y.cls) (C : Con (kL K) y bs' mx' rt' [] rm Z n0 #[.ref a] h (qI P)) (pd : parseMethodDescriptor y.desc = some ⟨ps, r⟩) (hlen : 0 = ps.length) (hsz : Ls.length = mx)
    (hr : (Nat.ble (rm.frames + 1) R.frames && Nat.ble (W + (mx' + 11) + rm.locals) R.locals && Nat.ble (rest.map fun v => v.category).sum W && Nat.ble (cells + rm.cells) R.cells && Nat.ble (slots + rm.slots) R.slots) = true)
    (G : ∀ z h', P z h' → h.size ≤ h'.size → Go K R n0 B Q h' (cells + rm.cells) (slots + rm.slots) (pc + 3) Ls (.int z :: rest)) : Go K R n0 B Q h cells slots pc Ls (.ref a :: rest) :=
  g_virtual (argsL := []) hK W C E w1 w2 w3 w4 w5 w6 hy pd hlen hd hsz hr (fun v h' q gr => by obtain ⟨z, rfl, p⟩ := q; exact G z h' p gr)
end
/-! a walk that may load String constants cold: over the start with the tables at hand -/
abbrev wB (s : State) (R : Room) (s₂ : State) (L : List Loc) : Prop := s.Warmed39 s₂.vm ∧ s.Booked s₂.vm s₂.heap.size ∧ s.sameButNew ({ s₂ with vm := s.vm } : State) L R.cells R.slots
abbrev reK (K : Ctx) (vm : Vm) : Ctx := (kP K, kL K, kE K, (kS K).setVm vm, kM K, kA K, kB K, kI K, kC K)
def ConW (l : Launch) (y : MethodName) (bs : ByteArray) (mx : Nat) (rt : Option FieldType) (ws : List Jvm.Cond) (rm : Room) (Z : State) (n0 : Nat) (as : Array Value) (h : Heap) (Q : Option Value → Heap → Prop) : Prop :=
  MetFree l y (head1 (Jvm.Cond.code y bs mx rt :: ws) rm) (fun a U => a = as ∧ Z.Warmed39 U.vm ∧ U.heap = h) (fun _ _ _ _ _ => True)
    (fun _ U o U' => ∃ v L, o = .returned v ∧ (Q v U'.heap ∧ Fr n0 L) ∧ ReturnedEndW U o U' L rm.cells rm.slots)
theorem conW_of_go {l : Launch} {Z : State} {y : MethodName} {bs : ByteArray} {mx : Nat} {rt : Option FieldType} {ws : List Jvm.Cond} {rm : Room} {as : Array Value} {h : Heap} {n0 : Nat} {Q : Option Value → Heap → Prop} {Ls : List Slot}
    (hp : plainFor y = true) (hLs : ∀ m, entryFrame m as mx = mkF m 0 ⟨Ls⟩ []) (G : ∀ K : Ctx, kL K = l → Cx (reK K (kS K).vm) Z y.cls bs mx rt y.name → Go (reK K (kS K).vm) rm n0 (wB (kS K) rm) Q h 0 0 0 Ls []) : ConW l y bs mx rt ws rm Z n0 as h Q := by
  refine MetFree.of_bodySF hp hisR ?_
  intro p e s m args below meth c s₁ Bd hml hP hK
  obtain ⟨rfl, hZ, hh⟩ := hP
  obtain ⟨s₂, v, L, h1, h2, h3, h4, h5, h6, h7, h8⟩ := G (p, l, e, s, m, args, below, meth, c) rfl ⟨Bd.exec, Bd.bytes, hml, findClass_of_methodNamed Bd.named, (name_of_methodNamed Bd.named Bd.method).1, Bd.returns, Bd.notSynchronized, hZ⟩ s₁ [] (Stand.of_body Bd) (Fr.nil n0) (by rw [← hh, Bd.state]; rfl)
  exact ⟨s₂, .returned v, castTop (hLs m) h1, h2, h3, v, L, rfl, ⟨h4, h5⟩, ⟨v, rfl⟩, h6, h7, h8⟩
section
variable {K : Ctx} {vm : Vm} {R : Room} {n0 k : Nat} {B : State → List Loc → Prop} {Q : Option Value → Heap → Prop} {h : Heap} {cells slots pc : Nat} {Ls : List Slot} {st rest : List Value} {Z : State} {own : String} {bs : ByteArray} {mx : Nat} {rt : Option FieldType} {nm : String} {a0 : Array Value}
theorem gW_ldcS (hK : Cx (reK K vm) Z own bs mx rt nm) (hS : (kS K).Since vm k) (hk : k ≤ h.size) {text : String} {i : Nat} (n : Nat) (w : (Jvm.Cond.stringLink own i text).before a0 Z = true) (wS : ∀ a ∈ Bundle.stringAtoms, a.before a0 Z = true) (hd : decode bs pc = .ok (.ldc i, 2)) (hn : 4 * text.toList.length ≤ n)
    (hr : (Nat.ble n 536870912 && Nat.ble (cells + 2) R.cells && Nat.ble (slots + (n + 4)) R.slots) = true)
    (G : ∀ vm' h' a k', Cx (reK K vm') Z own bs mx rt nm → (kS K).Since vm' k' → k' ≤ h'.size → Ext h h' → Go (reK K vm') R n0 B Q h' (cells + 2) (slots + (n + 4)) (pc + 2) Ls (.ref a :: st)) : Go (reK K vm) R n0 B Q h cells slots pc Ls st := by
  intro T locs X N eT
  simp only [Bool.and_eq_true] at hr
  obtain ⟨a, T', h', k1, X', e', E, S', hk1, hZ', hown', St⟩ := ldcS (s := kS K) (vm0 := vm) X hK.1 hK.2.2.2.2.2.2.2 hK.2.2.2.1 w wS eT hS hk (g := mkF (kM K) pc ⟨Ls⟩ st) rfl (hb hK.2.1 hd) hn (Nat.le_of_ble_eq_true hr.1.1) (Nat.le_of_ble_eq_true hr.1.2) (Nat.le_of_ble_eq_true hr.2)
  have hK' : Cx (reK K T'.vm) Z own bs mx rt nm := ⟨hK.1, hK.2.1, hK.2.2.1, hown', hK.2.2.2.2.1, hK.2.2.2.2.2.1, hK.2.2.2.2.2.2.1, hZ'⟩
  obtain ⟨s₂, v, L, h1, r⟩ := G T'.vm h' a k1 hK' S' hk1 E T' locs X' N e'
  exact ⟨s₂, v, L, St _ h1, r⟩
theorem gW_ret {w : Value} {t : FieldType} {ins : Instr} (hK : Cx (reK K vm) Z own bs mx (some t) nm) (hS : (kS K).Since vm k) (hk : k ≤ h.size) (hn : narrow t w = w) (hi : (ins = .ireturn ∧ (t = .int ∨ t = .boolean ∨ t = .byte ∨ t = .char ∨ t = .short) ∧ ∃ z, w = .int z) ∨ (ins = .lreturn ∧ t = .long ∧ ∃ z, w = .long z) ∨ (ins = .dreturn ∧ t = .double ∧ ∃ z, w = .double z) ∨ (ins = .freturn ∧ t = .float ∧ ∃ z, w = .float z) ∨ (ins = .areturn ∧ t.isReference = true ∧ w.isRef = true))
    (hd : decode bs pc = .ok (ins, 1)) (hr : (Nat.ble cells R.cells && Nat.ble slots R.slots) = true) (q : Q (some w) h) : Go (reK K vm) R n0 (wB (kS K) R) Q h cells slots pc Ls (w :: rest) := by
  intro T locs X N eT
  simp only [Bool.and_eq_true] at hr
  have hlk := hK.2.2.2.2.2.2.1
  obtain ⟨fs, hl, hrun, hended, hW, hsame⟩ := X.leave (v := some w) (fun e => by rw [hK.2.2.2.2.2.1] at e; cases e) hlk
  obtain ⟨e1, e2, e3⟩ := hS.ended (U := T.setFrames fs) hW (by show k ≤ T.heap.size; rw [eT]; exact hk) hsame
  refine ⟨_, some w, locs, retOut X hK.1 hK.2.2.2.2.2.1 hn hi (hb hK.2.1 hd) hl, hrun, hended, ?_, N, e1, e2, e3.mono (Nat.le_of_ble_eq_true hr.1) (Nat.le_of_ble_eq_true hr.2)⟩
  show Q (some w) T.heap
  rw [eT]; exact q
theorem gW_ireturn {z : Int32} {P : Int32 → Heap → Prop} (hK : Cx (reK K vm) Z own bs mx (some .int) nm) (hS : (kS K).Since vm k) (hk : k ≤ h.size) (hd : decode bs pc = .ok (.ireturn, 1)) (hr : (Nat.ble cells R.cells && Nat.ble slots R.slots) = true) (q : P z h) : Go (reK K vm) R n0 (wB (kS K) R) (qI P) h cells slots pc Ls (.int z :: rest) :=
  gW_ret hK hS hk rfl (Or.inl ⟨rfl, Or.inl rfl, z, rfl⟩) hd hr ⟨z, rfl, q⟩
theorem gW_zreturn {z : Int32} {P : Int32 → Heap → Prop} (hK : Cx (reK K vm) Z own bs mx (some .boolean) nm) (hS : (kS K).Since vm k) (hk : k ≤ h.size) (hd : decode bs pc = .ok (.ireturn, 1)) (hn : narrow .boolean (.int z) = .int z) (hr : (Nat.ble cells R.cells && Nat.ble slots R.slots) = true) (q : P z h) : Go (reK K vm) R n0 (wB (kS K) R) (qI P) h cells slots pc Ls (.int z :: rest) :=
  gW_ret hK hS hk hn (Or.inl ⟨rfl, Or.inr (Or.inl rfl), z, rfl⟩) hd hr ⟨z, rfl, q⟩
theorem gW_return {P : Heap → Prop} (hK : Cx (reK K vm) Z own bs mx none nm) (hS : (kS K).Since vm k) (hk : k ≤ h.size) (hd : decode bs pc = .ok (.return_, 1)) (hr : (Nat.ble cells R.cells && Nat.ble slots R.slots) = true) (q : P h) : Go (reK K vm) R n0 (wB (kS K) R) (qV P) h cells slots pc Ls [] := by
  intro T locs X N eT
  simp only [Bool.and_eq_true] at hr
  have hlk := hK.2.2.2.2.2.2.1
  obtain ⟨fs, hl, hrun, hended, hW, hsame⟩ := X.leave (v := none) (fun _ => rfl) hlk
  obtain ⟨e1, e2, e3⟩ := hS.ended (U := T.setFrames fs) hW (by show k ≤ T.heap.size; rw [eT]; exact hk) hsame
  refine ⟨_, none, locs, X.returnOut hK.1 hK.2.2.2.2.2.1 (hb hK.2.1 hd) hl, hrun, hended, ⟨rfl, ?_⟩, N, e1, e2, e3.mono (Nat.le_of_ble_eq_true hr.1) (Nat.le_of_ble_eq_true hr.2)⟩
  show P T.heap
  rw [eT]; exact q
theorem gW_special (hK : Cx (reK K vm) Z own bs mx rt nm) (hS : (kS K).Since vm k) (hk : k ≤ h.size) {y : MethodName} {bs' : ByteArray} {mx' i : Nat} {rm : Room} {a : Addr} {argsL : List Value} {Q' : Option Value → Heap → Prop} {ps : List FieldType} {r : Option FieldType} (W : Nat) (C : ConW (kL K) y bs' mx' none [] rm Z n0 (.ref a :: argsL).toArray h Q') (hy1 : y.name = "<init>")
    (w1 : (Jvm.Cond.methodLink own i y).before a0 Z = true) (w2 : (Jvm.Cond.instanceMethod y).before a0 Z = true) (w3 : (Jvm.Cond.initialized y.cls).before a0 Z = true) (w4 : (Jvm.Cond.code y bs' mx' none).before a0 Z = true) (hy : y.cls ≠ "java/lang/invoke/MethodHandle" ∧ y.cls ≠ "java/lang/invoke/VarHandle")
    (pd : parseMethodDescriptor y.desc = some ⟨ps, r⟩) (hlen : argsL.length = ps.length) (hd : decode bs pc = .ok (.invokespecial i, 3)) (hsz : Ls.length = mx)
    (hr : (Nat.ble (rm.frames + 1) R.frames && Nat.ble (W + (mx' + 11) + rm.locals) R.locals && Nat.ble (rest.map fun v => v.category).sum W && Nat.ble (cells + rm.cells) R.cells && Nat.ble (slots + rm.slots) R.slots) = true)
    (G : ∀ v h' vm', Q' v h' → Cx (reK K vm') Z own bs mx rt nm → (kS K).Since vm' h'.size → h.size ≤ h'.size → Go (reK K vm') R n0 B Q h' (cells + rm.cells) (slots + rm.slots) (pc + 3) Ls (v.toList ++ rest)) : Go (reK K vm) R n0 B Q h cells slots pc Ls (argsL.reverse ++ .ref a :: rest) := by
  intro T locs X N eT
  simp only [Bool.and_eq_true] at hr
  obtain ⟨v, _, ⟨T', L', k', n'⟩, -, X', hS', hgr, ⟨Lc, ⟨hQ, hF⟩, e1, e2, e3⟩, S⟩ := X.specialBackS hK.1 (y := y) hy1 hK.2.2.2.1 (mvT hK.2.2.2.2.2.2.2 w1) (mvT hK.2.2.2.2.2.2.2 w2) (mvT hK.2.2.2.2.2.2.2 w4) hy
    (backOfS (W := W) (Q := fun v h L => Q' v h ∧ Fr n0 L) C hK.2.2.2.2.2.2.2 w4 w3 (Nat.le_of_ble_eq_true hr.1.1.1.1) (Nat.le_of_ble_eq_true hr.1.1.1.2)) (g := mkF (kM K) pc ⟨Ls⟩ (argsL.reverse ++ .ref a :: rest)) rfl (by rw [hK.2.2.1]; exact hsz) (Steps.refl _) (a := a) (argsL := argsL) (rest := rest) (lenOf pd hlen) rfl (by show 2 * 0 + _ ≤ _; rw [Nat.mul_zero, Nat.zero_add]; exact Nat.le_of_ble_eq_true hr.1.1.2) (hb hK.2.1 hd)
    (fun _ _ => ⟨rfl, eT, Nat.le_of_ble_eq_true hr.1.2, Nat.le_of_ble_eq_true hr.2⟩)
  dsimp only [Pt.U, Pt.locs, Pt.cells, Pt.slots] at X' e1 e2 e3 S hQ hS' hgr
  subst e1 e2 e3
  obtain ⟨X2, S2, Z2, O2⟩ := rebS (s := kS K) (vm0 := vm) (k0 := k) (n1 := T.heap.size) (own := own) hS (by rw [eT]; exact hk) X' hS' hgr hK.2.2.2.2.2.2.2 hK.2.2.2.1
  have hK' : Cx (reK K T'.vm) Z own bs mx rt nm := ⟨hK.1, hK.2.1, hK.2.2.1, O2, hK.2.2.2.2.1, hK.2.2.2.2.2.1, hK.2.2.2.2.2.2.1, Z2⟩
  obtain ⟨s₂, v', L, h1, rr⟩ := G v T'.heap T'.vm hQ hK' S2 (by rw [← eT]; exact hgr) T' _ X2 (Fr.app N hF) rfl
  exact ⟨s₂, v', L, S.trans h1, rr⟩

theorem gW_special_5V (hK : Cx (reK K vm) Z own bs mx rt nm) (hS : (kS K).Since vm k) (hk : k ≤ h.size) {y : MethodName} {bs' : ByteArray} {mx' i : Nat} {rm : Room} {a : Addr} {x0 x1 x2 x3 x4 : Value} {P : Heap → Prop} {ps : List FieldType} {r : Option FieldType} (W : Nat) (hd : decode bs pc = .ok (.invokespecial i, 3)) (hy1 : y.name = "<init>") (w1 : (Jvm.Cond.methodLink own i y).before a0 Z = true) (w2 : (Jvm.Cond.instanceMethod y).before a0 Z = true) (w3 : (Jvm.Cond.initialized y.cls).before a0 Z = true) (w4 : (Jvm.Cond.code y bs' mx' none).before a0 Z = true) (hy : y.cls ≠ "java/lang/invoke/MethodHandle" ∧ y.cls ≠ "java/lang/invoke/VarHandle")
    (C : ConW (kL K) y bs' mx' none [] rm Z n0 #[.ref a, x0, x1, x2, x3, x4] h (qV P)) (pd : parseMethodDescriptor y.desc = some ⟨ps, r⟩) (hlen : 5 = ps.length) (hsz : Ls.length = mx)
    (hr : (Nat.ble (rm.frames + 1) R.frames && Nat.ble (W + (mx' + 11) + rm.locals) R.locals && Nat.ble (rest.map fun v => v.category).sum W && Nat.ble (cells + rm.cells) R.cells && Nat.ble (slots + rm.slots) R.slots) = true)
    (G : ∀ h' vm', P h' → Cx (reK K vm') Z own bs mx rt nm → (kS K).Since vm' h'.size → h.size ≤ h'.size → Go (reK K vm') R n0 B Q h' (cells + rm.cells) (slots + rm.slots) (pc + 3) Ls rest) : Go (reK K vm) R n0 B Q h cells slots pc Ls (x4 :: x3 :: x2 :: x1 :: x0 :: .ref a :: rest) :=
  gW_special (argsL := [x0, x1, x2, x3, x4]) hK hS hk W C hy1 w1 w2 w3 w4 hy pd hlen hd hsz hr (fun v h' vm' q c1 c2 c3 => by obtain ⟨rfl, p⟩ := q; exact G h' vm' p c1 c2 c3)
end
theorem d1_0 : decode jdk_29_method_69_code 0 = .ok (.iload_n 0, 1) := by decide +kernel
theorem d1_1 : decode jdk_29_method_69_code 1 = .ok (.iload_n 1, 1) := by decide +kernel
theorem d1_2 : decode jdk_29_method_69_code 2 = .ok (.if_icmp .gt 7, 3) := by decide +kernel
theorem d1_5 : decode jdk_29_method_69_code 5 = .ok (.iload_n 0, 1) := by decide +kernel
theorem d1_6 : decode jdk_29_method_69_code 6 = .ok (.goto 4, 3) := by decide +kernel
theorem d1_9 : decode jdk_29_method_69_code 9 = .ok (.iload_n 1, 1) := by decide +kernel
theorem d1_10 : decode jdk_29_method_69_code 10 = .ok (.ireturn, 1) := by decide +kernel
theorem d2_0 : decode prog_138_method_1_code 0 = .ok (.aload_n 0, 1) := by decide +kernel
theorem d2_1 : decode prog_138_method_1_code 1 = .ok (.invokespecial 1, 3) := by decide +kernel
theorem d2_4 : decode prog_138_method_1_code 4 = .ok (.ldc 7, 2) := by decide +kernel
theorem d2_6 : decode prog_138_method_1_code 6 = .ok (.iload_n 1, 1) := by decide +kernel
theorem d2_7 : decode prog_138_method_1_code 7 = .ok (.iconst 1, 1) := by decide +kernel
theorem d2_8 : decode prog_138_method_1_code 8 = .ok (.ldc 11, 2) := by decide +kernel
theorem d2_10 : decode prog_138_method_1_code 10 = .ok (.invokestatic 12, 3) := by decide +kernel
theorem d2_13 : decode prog_138_method_1_code 13 = .ok (.ldc 16, 2) := by decide +kernel
theorem d2_15 : decode prog_138_method_1_code 15 = .ok (.iload_n 2, 1) := by decide +kernel
theorem d2_16 : decode prog_138_method_1_code 16 = .ok (.iconst 1, 1) := by decide +kernel
theorem d2_17 : decode prog_138_method_1_code 17 = .ok (.ldc 18, 2) := by decide +kernel
theorem d2_19 : decode prog_138_method_1_code 19 = .ok (.invokestatic 12, 3) := by decide +kernel
theorem d2_22 : decode prog_138_method_1_code 22 = .ok (.ldc 19, 2) := by decide +kernel
theorem d2_24 : decode prog_138_method_1_code 24 = .ok (.iload_n 3, 1) := by decide +kernel
theorem d2_25 : decode prog_138_method_1_code 25 = .ok (.iconst 1, 1) := by decide +kernel
theorem d2_26 : decode prog_138_method_1_code 26 = .ok (.sipush 16384, 3) := by decide +kernel
theorem d2_29 : decode prog_138_method_1_code 29 = .ok (.invokestatic 12, 3) := by decide +kernel
theorem d2_32 : decode prog_138_method_1_code 32 = .ok (.ldc 21, 2) := by decide +kernel
theorem d2_34 : decode prog_138_method_1_code 34 = .ok (.iload 4, 2) := by decide +kernel
theorem d2_36 : decode prog_138_method_1_code 36 = .ok (.iconst 1, 1) := by decide +kernel
theorem d2_37 : decode prog_138_method_1_code 37 = .ok (.sipush 16384, 3) := by decide +kernel
theorem d2_40 : decode prog_138_method_1_code 40 = .ok (.invokestatic 12, 3) := by decide +kernel
theorem d2_43 : decode prog_138_method_1_code 43 = .ok (.ldc 23, 2) := by decide +kernel
theorem d2_45 : decode prog_138_method_1_code 45 = .ok (.iload 5, 2) := by decide +kernel
theorem d2_47 : decode prog_138_method_1_code 47 = .ok (.iconst 1, 1) := by decide +kernel
theorem d2_48 : decode prog_138_method_1_code 48 = .ok (.ldc 11, 2) := by decide +kernel
theorem d2_50 : decode prog_138_method_1_code 50 = .ok (.invokestatic 12, 3) := by decide +kernel
theorem d2_53 : decode prog_138_method_1_code 53 = .ok (.ldc 25, 2) := by decide +kernel
theorem d2_55 : decode prog_138_method_1_code 55 = .ok (.iload_n 3, 1) := by decide +kernel
theorem d2_56 : decode prog_138_method_1_code 56 = .ok (.iload 4, 2) := by decide +kernel
theorem d2_58 : decode prog_138_method_1_code 58 = .ok (.iadd, 1) := by decide +kernel
theorem d2_59 : decode prog_138_method_1_code 59 = .ok (.iconst 2, 1) := by decide +kernel
theorem d2_60 : decode prog_138_method_1_code 60 = .ok (.sipush 16384, 3) := by decide +kernel
theorem d2_63 : decode prog_138_method_1_code 63 = .ok (.invokestatic 12, 3) := by decide +kernel
theorem d2_66 : decode prog_138_method_1_code 66 = .ok (.ldc2_w 27, 3) := by decide +kernel
theorem d2_69 : decode prog_138_method_1_code 69 = .ok (.iload_n 1, 1) := by decide +kernel
theorem d2_70 : decode prog_138_method_1_code 70 = .ok (.iload_n 3, 1) := by decide +kernel
theorem d2_71 : decode prog_138_method_1_code 71 = .ok (.invokestatic 29, 3) := by decide +kernel
theorem d2_74 : decode prog_138_method_1_code 74 = .ok (.i2l, 1) := by decide +kernel
theorem d2_75 : decode prog_138_method_1_code 75 = .ok (.lmul, 1) := by decide +kernel
theorem d2_76 : decode prog_138_method_1_code 76 = .ok (.lconst 1, 1) := by decide +kernel
theorem d2_77 : decode prog_138_method_1_code 77 = .ok (.lsub, 1) := by decide +kernel
theorem d2_78 : decode prog_138_method_1_code 78 = .ok (.iload_n 3, 1) := by decide +kernel
theorem d2_79 : decode prog_138_method_1_code 79 = .ok (.iload 4, 2) := by decide +kernel
theorem d2_81 : decode prog_138_method_1_code 81 = .ok (.iadd, 1) := by decide +kernel
theorem d2_82 : decode prog_138_method_1_code 82 = .ok (.i2l, 1) := by decide +kernel
theorem d2_83 : decode prog_138_method_1_code 83 = .ok (.lmul, 1) := by decide +kernel
theorem d2_84 : decode prog_138_method_1_code 84 = .ok (.ldc2_w 33, 3) := by decide +kernel
theorem d2_87 : decode prog_138_method_1_code 87 = .ok (.lcmp, 1) := by decide +kernel
theorem d2_88 : decode prog_138_method_1_code 88 = .ok (.ifCond .le 13, 3) := by decide +kernel
theorem d2_101 : decode prog_138_method_1_code 101 = .ok (.iload_n 1, 1) := by decide +kernel
theorem d2_102 : decode prog_138_method_1_code 102 = .ok (.iload 5, 2) := by decide +kernel
theorem d2_104 : decode prog_138_method_1_code 104 = .ok (.invokestatic 42, 3) := by decide +kernel
theorem d2_107 : decode prog_138_method_1_code 107 = .ok (.iconst 5, 1) := by decide +kernel
theorem d2_108 : decode prog_138_method_1_code 108 = .ok (.iload_n 2, 1) := by decide +kernel
theorem d2_109 : decode prog_138_method_1_code 109 = .ok (.iadd, 1) := by decide +kernel
theorem d2_110 : decode prog_138_method_1_code 110 = .ok (.i2l, 1) := by decide +kernel
theorem d2_111 : decode prog_138_method_1_code 111 = .ok (.lmul, 1) := by decide +kernel
theorem d2_112 : decode prog_138_method_1_code 112 = .ok (.ldc2_w 46, 3) := by decide +kernel
theorem d2_115 : decode prog_138_method_1_code 115 = .ok (.lcmp, 1) := by decide +kernel
theorem d2_116 : decode prog_138_method_1_code 116 = .ok (.ifCond .le 13, 3) := by decide +kernel
theorem d2_129 : decode prog_138_method_1_code 129 = .ok (.aload_n 0, 1) := by decide +kernel
theorem d2_130 : decode prog_138_method_1_code 130 = .ok (.iload_n 1, 1) := by decide +kernel
theorem d2_131 : decode prog_138_method_1_code 131 = .ok (.putfield 50, 3) := by decide +kernel
theorem d2_134 : decode prog_138_method_1_code 134 = .ok (.aload_n 0, 1) := by decide +kernel
theorem d2_135 : decode prog_138_method_1_code 135 = .ok (.iload_n 2, 1) := by decide +kernel
theorem d2_136 : decode prog_138_method_1_code 136 = .ok (.putfield 53, 3) := by decide +kernel
theorem d2_139 : decode prog_138_method_1_code 139 = .ok (.aload_n 0, 1) := by decide +kernel
theorem d2_140 : decode prog_138_method_1_code 140 = .ok (.iload_n 3, 1) := by decide +kernel
theorem d2_141 : decode prog_138_method_1_code 141 = .ok (.putfield 56, 3) := by decide +kernel
theorem d2_144 : decode prog_138_method_1_code 144 = .ok (.aload_n 0, 1) := by decide +kernel
theorem d2_145 : decode prog_138_method_1_code 145 = .ok (.iload 4, 2) := by decide +kernel
theorem d2_147 : decode prog_138_method_1_code 147 = .ok (.putfield 58, 3) := by decide +kernel
theorem d2_150 : decode prog_138_method_1_code 150 = .ok (.aload_n 0, 1) := by decide +kernel
theorem d2_151 : decode prog_138_method_1_code 151 = .ok (.iload 5, 2) := by decide +kernel
theorem d2_153 : decode prog_138_method_1_code 153 = .ok (.putfield 60, 3) := by decide +kernel
theorem d2_156 : decode prog_138_method_1_code 156 = .ok (.return_, 1) := by decide +kernel
theorem d3_0 : decode jdk_30_method_1_code 0 = .ok (.aload_n 0, 1) := by decide +kernel
theorem d3_1 : decode jdk_30_method_1_code 1 = .ok (.invokespecial 1, 3) := by decide +kernel
theorem d3_4 : decode jdk_30_method_1_code 4 = .ok (.return_, 1) := by decide +kernel
theorem d5_0 : decode prog_138_method_21_code 0 = .ok (.iload_n 1, 1) := by decide +kernel
theorem d5_1 : decode prog_138_method_21_code 1 = .ok (.iload_n 2, 1) := by decide +kernel
theorem d5_2 : decode prog_138_method_21_code 2 = .ok (.if_icmp .lt 8, 3) := by decide +kernel
theorem d5_5 : decode prog_138_method_21_code 5 = .ok (.iload_n 1, 1) := by decide +kernel
theorem d5_6 : decode prog_138_method_21_code 6 = .ok (.iload_n 3, 1) := by decide +kernel
theorem d5_7 : decode prog_138_method_21_code 7 = .ok (.if_icmp .le 20, 3) := by decide +kernel
theorem d5_27 : decode prog_138_method_21_code 27 = .ok (.return_, 1) := by decide +kernel
theorem d6_0 : decode prog_138_method_3_code 0 = .ok (.iload_n 0, 1) := by decide +kernel
theorem d6_1 : decode prog_138_method_3_code 1 = .ok (.iload_n 1, 1) := by decide +kernel
theorem d6_2 : decode prog_138_method_3_code 2 = .ok (.iadd, 1) := by decide +kernel
theorem d6_3 : decode prog_138_method_3_code 3 = .ok (.iconst 1, 1) := by decide +kernel
theorem d6_4 : decode prog_138_method_3_code 4 = .ok (.isub, 1) := by decide +kernel
theorem d6_5 : decode prog_138_method_3_code 5 = .ok (.iload_n 1, 1) := by decide +kernel
theorem d6_6 : decode prog_138_method_3_code 6 = .ok (.idiv, 1) := by decide +kernel
theorem d6_7 : decode prog_138_method_3_code 7 = .ok (.istore_n 2, 1) := by decide +kernel
theorem d6_8 : decode prog_138_method_3_code 8 = .ok (.iload_n 2, 1) := by decide +kernel
theorem d6_9 : decode prog_138_method_3_code 9 = .ok (.iconst 1, 1) := by decide +kernel
theorem d6_10 : decode prog_138_method_3_code 10 = .ok (.if_icmp .ne 7, 3) := by decide +kernel
theorem d6_13 : decode prog_138_method_3_code 13 = .ok (.iconst 1, 1) := by decide +kernel
theorem d6_14 : decode prog_138_method_3_code 14 = .ok (.goto 11, 3) := by decide +kernel
theorem d6_25 : decode prog_138_method_3_code 25 = .ok (.ireturn, 1) := by decide +kernel
theorem d7_0 : decode prog_138_method_14_code 0 = .ok (.iload_n 0, 1) := by decide +kernel
theorem d7_1 : decode prog_138_method_14_code 1 = .ok (.i2l, 1) := by decide +kernel
theorem d7_2 : decode prog_138_method_14_code 2 = .ok (.iload_n 1, 1) := by decide +kernel
theorem d7_3 : decode prog_138_method_14_code 3 = .ok (.i2l, 1) := by decide +kernel
theorem d7_4 : decode prog_138_method_14_code 4 = .ok (.ldc2_w 93, 3) := by decide +kernel
theorem d7_7 : decode prog_138_method_14_code 7 = .ok (.ladd, 1) := by decide +kernel
theorem d7_8 : decode prog_138_method_14_code 8 = .ok (.invokestatic 95, 3) := by decide +kernel
theorem d7_11 : decode prog_138_method_14_code 11 = .ok (.lreturn, 1) := by decide +kernel
theorem d8_0 : decode jdk_29_method_70_code 0 = .ok (.lload_n 0, 1) := by decide +kernel
theorem d8_1 : decode jdk_29_method_70_code 1 = .ok (.lload_n 2, 1) := by decide +kernel
theorem d8_2 : decode jdk_29_method_70_code 2 = .ok (.lcmp, 1) := by decide +kernel
theorem d8_3 : decode jdk_29_method_70_code 3 = .ok (.ifCond .gt 7, 3) := by decide +kernel
theorem d8_6 : decode jdk_29_method_70_code 6 = .ok (.lload_n 0, 1) := by decide +kernel
theorem d8_7 : decode jdk_29_method_70_code 7 = .ok (.goto 4, 3) := by decide +kernel
theorem d8_10 : decode jdk_29_method_70_code 10 = .ok (.lload_n 2, 1) := by decide +kernel
theorem d8_11 : decode jdk_29_method_70_code 11 = .ok (.lreturn, 1) := by decide +kernel
theorem d9_0 : decode prog_138_method_11_code 0 = .ok (.aload_n 0, 1) := by decide +kernel
theorem d9_1 : decode prog_138_method_11_code 1 = .ok (.getfield 56, 3) := by decide +kernel
theorem d9_4 : decode prog_138_method_11_code 4 = .ok (.iconst 4, 1) := by decide +kernel
theorem d9_5 : decode prog_138_method_11_code 5 = .ok (.aload_n 0, 1) := by decide +kernel
theorem d9_6 : decode prog_138_method_11_code 6 = .ok (.invokevirtual 82, 3) := by decide +kernel
theorem d9_9 : decode prog_138_method_11_code 9 = .ok (.iadd, 1) := by decide +kernel
theorem d9_10 : decode prog_138_method_11_code 10 = .ok (.imul, 1) := by decide +kernel
theorem d9_11 : decode prog_138_method_11_code 11 = .ok (.bipush 32, 2) := by decide +kernel
theorem d9_13 : decode prog_138_method_11_code 13 = .ok (.iadd, 1) := by decide +kernel
theorem d9_14 : decode prog_138_method_11_code 14 = .ok (.ireturn, 1) := by decide +kernel
theorem d10_0 : decode prog_138_method_8_code 0 = .ok (.iconst 5, 1) := by decide +kernel
theorem d10_1 : decode prog_138_method_8_code 1 = .ok (.aload_n 0, 1) := by decide +kernel
theorem d10_2 : decode prog_138_method_8_code 2 = .ok (.getfield 53, 3) := by decide +kernel
theorem d10_5 : decode prog_138_method_8_code 5 = .ok (.iadd, 1) := by decide +kernel
theorem d10_6 : decode prog_138_method_8_code 6 = .ok (.ireturn, 1) := by decide +kernel
theorem w0 {Z : State} {a0 : Array Value} (hw : ∀ d ∈ tables_1, d.before a0 Z = true) : (Jvm.Cond.constant "com/example/veilcommit/veilcommit/oram/TreeShapeKeptBucketBytesPinLaw" (7 : Nat) (2147483647 : Int32)).before a0 Z = true := hw _ (List.mem_of_getElem? (i := 0) rfl)
theorem w1 {Z : State} {a0 : Array Value} (hw : ∀ d ∈ tables_1, d.before a0 Z = true) : (Jvm.Cond.constant "com/example/veilcommit/veilcommit/oram/TreeShapeKeptBucketBytesPinLaw" (8 : Nat) (65535 : Int32)).before a0 Z = true := hw _ (List.mem_of_getElem? (i := 1) rfl)
theorem w2 {Z : State} {a0 : Array Value} (hw : ∀ d ∈ tables_1, d.before a0 Z = true) : (Jvm.Cond.constant "com/example/veilcommit/veilcommit/oram/TreeShapeKeptBucketBytesPinLaw" (9 : Nat) (16777215 : Int32)).before a0 Z = true := hw _ (List.mem_of_getElem? (i := 2) rfl)
theorem w3 {Z : State} {a0 : Array Value} (hw : ∀ d ∈ tables_1, d.before a0 Z = true) : (Jvm.Cond.methodLink "com/example/veilcommit/veilcommit/oram/TreeShapeKeptBucketBytesPinLaw" (10 : Nat) ({ cls := "java/lang/Math", name := "min", desc := "(II)I" } : Jvm.MethodName)).before a0 Z = true := hw _ (List.mem_of_getElem? (i := 3) rfl)
theorem w4 {Z : State} {a0 : Array Value} (hw : ∀ d ∈ tables_1, d.before a0 Z = true) : (Jvm.Cond.static ({ cls := "java/lang/Math", name := "min", desc := "(II)I" } : Jvm.MethodName)).before a0 Z = true := hw _ (List.mem_of_getElem? (i := 4) rfl)
theorem w5 {Z : State} {a0 : Array Value} (hw : ∀ d ∈ tables_1, d.before a0 Z = true) : (Jvm.Cond.initialized "java/lang/Math").before a0 Z = true := hw _ (List.mem_of_getElem? (i := 5) rfl)
theorem w6 {Z : State} {a0 : Array Value} (hw : ∀ d ∈ tables_1, d.before a0 Z = true) : (Jvm.Cond.code ({ cls := "java/lang/Math", name := "min", desc := "(II)I" } : Jvm.MethodName) jdk_29_method_69_code (2 : Nat) (Option.some Jvm.ClassFile.FieldType.int)).before a0 Z = true := hw _ (List.mem_of_getElem? (i := 6) rfl)
theorem w7 {Z : State} {a0 : Array Value} (hw : ∀ d ∈ tables_1, d.before a0 Z = true) : (Jvm.Cond.classLink "com/example/veilcommit/veilcommit/oram/TreeShapeKeptBucketBytesPinLaw" (16 : Nat) "com/example/veilcommit/veilcommit/oram/TreeShape").before a0 Z = true := hw _ (List.mem_of_getElem? (i := 7) rfl)
theorem w8 {Z : State} {a0 : Array Value} (hw : ∀ d ∈ tables_1, d.before a0 Z = true) : (Jvm.Cond.instantiable "com/example/veilcommit/veilcommit/oram/TreeShape" (5 : Nat)).before a0 Z = true := hw _ (List.mem_of_getElem? (i := 8) rfl)
theorem w9 {Z : State} {a0 : Array Value} (hw : ∀ d ∈ tables_1, d.before a0 Z = true) : (Jvm.Cond.initialized "com/example/veilcommit/veilcommit/oram/TreeShape").before a0 Z = true := hw _ (List.mem_of_getElem? (i := 9) rfl)
theorem w10 {Z : State} {a0 : Array Value} (hw : ∀ d ∈ tables_1, d.before a0 Z = true) : (Jvm.Cond.methodLink "com/example/veilcommit/veilcommit/oram/TreeShapeKeptBucketBytesPinLaw" (18 : Nat) ({ cls := "com/example/veilcommit/veilcommit/oram/TreeShape", name := "<init>", desc := "(IIIII)V" } : Jvm.MethodName)).before a0 Z = true := hw _ (List.mem_of_getElem? (i := 10) rfl)
theorem w11 {Z : State} {a0 : Array Value} (hw : ∀ d ∈ tables_1, d.before a0 Z = true) : (Jvm.Cond.instanceMethod ({ cls := "com/example/veilcommit/veilcommit/oram/TreeShape", name := "<init>", desc := "(IIIII)V" } : Jvm.MethodName)).before a0 Z = true := hw _ (List.mem_of_getElem? (i := 11) rfl)
theorem w12 {Z : State} {a0 : Array Value} (hw : ∀ d ∈ tables_1, d.before a0 Z = true) : (Jvm.Cond.code ({ cls := "com/example/veilcommit/veilcommit/oram/TreeShape", name := "<init>", desc := "(IIIII)V" } : Jvm.MethodName) prog_138_method_1_code (6 : Nat) (Option.none : Option Jvm.ClassFile.FieldType)).before a0 Z = true := hw _ (List.mem_of_getElem? (i := 12) rfl)
theorem w13 {Z : State} {a0 : Array Value} (hw : ∀ d ∈ tables_1, d.before a0 Z = true) : (Jvm.Cond.methodLink "com/example/veilcommit/veilcommit/oram/TreeShape" (1 : Nat) ({ cls := "java/lang/Record", name := "<init>", desc := "()V" } : Jvm.MethodName)).before a0 Z = true := hw _ (List.mem_of_getElem? (i := 13) rfl)
theorem w14 {Z : State} {a0 : Array Value} (hw : ∀ d ∈ tables_1, d.before a0 Z = true) : (Jvm.Cond.instanceMethod ({ cls := "java/lang/Record", name := "<init>", desc := "()V" } : Jvm.MethodName)).before a0 Z = true := hw _ (List.mem_of_getElem? (i := 14) rfl)
theorem w16 {Z : State} {a0 : Array Value} (hw : ∀ d ∈ tables_1, d.before a0 Z = true) : (Jvm.Cond.initialized "java/lang/Record").before a0 Z = true := hw _ (List.mem_of_getElem? (i := 16) rfl)
theorem w17 {Z : State} {a0 : Array Value} (hw : ∀ d ∈ tables_1, d.before a0 Z = true) : (Jvm.Cond.code ({ cls := "java/lang/Record", name := "<init>", desc := "()V" } : Jvm.MethodName) jdk_30_method_1_code (1 : Nat) (Option.none : Option Jvm.ClassFile.FieldType)).before a0 Z = true := hw _ (List.mem_of_getElem? (i := 17) rfl)
theorem w18 {Z : State} {a0 : Array Value} (hw : ∀ d ∈ tables_1, d.before a0 Z = true) : (Jvm.Cond.methodLink "java/lang/Record" (1 : Nat) ({ cls := "java/lang/Object", name := "<init>", desc := "()V" } : Jvm.MethodName)).before a0 Z = true := hw _ (List.mem_of_getElem? (i := 18) rfl)
theorem w19 {Z : State} {a0 : Array Value} (hw : ∀ d ∈ tables_1, d.before a0 Z = true) : (Jvm.Cond.instanceMethod ({ cls := "java/lang/Object", name := "<init>", desc := "()V" } : Jvm.MethodName)).before a0 Z = true := hw _ (List.mem_of_getElem? (i := 19) rfl)
theorem w20 {Z : State} {a0 : Array Value} (hw : ∀ d ∈ tables_1, d.before a0 Z = true) : (Jvm.Cond.code ({ cls := "java/lang/Object", name := "<init>", desc := "()V" } : Jvm.MethodName) object_method_1_code (1 : Nat) (Option.none : Option Jvm.ClassFile.FieldType)).before a0 Z = true := hw _ (List.mem_of_getElem? (i := 20) rfl)
theorem w21 {Z : State} {a0 : Array Value} (hw : ∀ d ∈ tables_1, d.before a0 Z = true) : (Jvm.Cond.stringLink "com/example/veilcommit/veilcommit/oram/TreeShape" (7 : Nat) "capacity").before a0 Z = true := hw _ (List.mem_of_getElem? (i := 21) rfl)
theorem w22 {Z : State} {a0 : Array Value} (hw : ∀ d ∈ tables_1, d.before a0 Z = true) : (Jvm.Cond.initialized "java/lang/String").before a0 Z = true := hw _ (List.mem_of_getElem? (i := 22) rfl)
theorem w23 {Z : State} {a0 : Array Value} (hw : ∀ d ∈ tables_1, d.before a0 Z = true) : (Jvm.Cond.instantiable "java/lang/String" (4 : Nat)).before a0 Z = true := hw _ (List.mem_of_getElem? (i := 23) rfl)
theorem w24 {Z : State} {a0 : Array Value} (hw : ∀ d ∈ tables_1, d.before a0 Z = true) : (Jvm.Cond.arrayClass Jvm.ClassFile.FieldType.byte).before a0 Z = true := hw _ (List.mem_of_getElem? (i := 24) rfl)
theorem w25 {Z : State} {a0 : Array Value} (hw : ∀ d ∈ tables_1, d.before a0 Z = true) : (Jvm.Cond.laysFinal "java/lang/String" "java/lang/String" "value" "[B").before a0 Z = true := hw _ (List.mem_of_getElem? (i := 25) rfl)
theorem w26 {Z : State} {a0 : Array Value} (hw : ∀ d ∈ tables_1, d.before a0 Z = true) : (Jvm.Cond.laysFinal "java/lang/String" "java/lang/String" "coder" "B").before a0 Z = true := hw _ (List.mem_of_getElem? (i := 26) rfl)
theorem w27 {Z : State} {a0 : Array Value} (hw : ∀ d ∈ tables_1, d.before a0 Z = true) : (Jvm.Cond.soleField "java/lang/String" "value").before a0 Z = true := hw _ (List.mem_of_getElem? (i := 27) rfl)
theorem w28 {Z : State} {a0 : Array Value} (hw : ∀ d ∈ tables_1, d.before a0 Z = true) : (Jvm.Cond.soleField "java/lang/String" "coder").before a0 Z = true := hw _ (List.mem_of_getElem? (i := 28) rfl)
theorem w29 {Z : State} {a0 : Array Value} (hw : ∀ d ∈ tables_1, d.before a0 Z = true) : (Jvm.Cond.constant "com/example/veilcommit/veilcommit/oram/TreeShape" (11 : Nat) (16777216 : Int32)).before a0 Z = true := hw _ (List.mem_of_getElem? (i := 29) rfl)
theorem w30 {Z : State} {a0 : Array Value} (hw : ∀ d ∈ tables_1, d.before a0 Z = true) : (Jvm.Cond.methodLink "com/example/veilcommit/veilcommit/oram/TreeShape" (12 : Nat) ({ cls := "com/example/veilcommit/veilcommit/oram/TreeShape", name := "requireRange", desc := "(Ljava/lang/String;III)V" } : Jvm.MethodName)).before a0 Z = true := hw _ (List.mem_of_getElem? (i := 30) rfl)
theorem w31 {Z : State} {a0 : Array Value} (hw : ∀ d ∈ tables_1, d.before a0 Z = true) : (Jvm.Cond.static ({ cls := "com/example/veilcommit/veilcommit/oram/TreeShape", name := "requireRange", desc := "(Ljava/lang/String;III)V" } : Jvm.MethodName)).before a0 Z = true := hw _ (List.mem_of_getElem? (i := 31) rfl)
theorem w32 {Z : State} {a0 : Array Value} (hw : ∀ d ∈ tables_1, d.before a0 Z = true) : (Jvm.Cond.code ({ cls := "com/example/veilcommit/veilcommit/oram/TreeShape", name := "requireRange", desc := "(Ljava/lang/String;III)V" } : Jvm.MethodName) prog_138_method_21_code (4 : Nat) (Option.none : Option Jvm.ClassFile.FieldType)).before a0 Z = true := hw _ (List.mem_of_getElem? (i := 32) rfl)
theorem w33 {Z : State} {a0 : Array Value} (hw : ∀ d ∈ tables_1, d.before a0 Z = true) : (Jvm.Cond.stringLink "com/example/veilcommit/veilcommit/oram/TreeShape" (16 : Nat) "block size").before a0 Z = true := hw _ (List.mem_of_getElem? (i := 33) rfl)
theorem w34 {Z : State} {a0 : Array Value} (hw : ∀ d ∈ tables_1, d.before a0 Z = true) : (Jvm.Cond.constant "com/example/veilcommit/veilcommit/oram/TreeShape" (18 : Nat) (65536 : Int32)).before a0 Z = true := hw _ (List.mem_of_getElem? (i := 34) rfl)
theorem w35 {Z : State} {a0 : Array Value} (hw : ∀ d ∈ tables_1, d.before a0 Z = true) : (Jvm.Cond.stringLink "com/example/veilcommit/veilcommit/oram/TreeShape" (19 : Nat) "z").before a0 Z = true := hw _ (List.mem_of_getElem? (i := 35) rfl)
theorem w36 {Z : State} {a0 : Array Value} (hw : ∀ d ∈ tables_1, d.before a0 Z = true) : (Jvm.Cond.stringLink "com/example/veilcommit/veilcommit/oram/TreeShape" (21 : Nat) "s").before a0 Z = true := hw _ (List.mem_of_getElem? (i := 36) rfl)
theorem w37 {Z : State} {a0 : Array Value} (hw : ∀ d ∈ tables_1, d.before a0 Z = true) : (Jvm.Cond.stringLink "com/example/veilcommit/veilcommit/oram/TreeShape" (23 : Nat) "a").before a0 Z = true := hw _ (List.mem_of_getElem? (i := 37) rfl)
theorem w38 {Z : State} {a0 : Array Value} (hw : ∀ d ∈ tables_1, d.before a0 Z = true) : (Jvm.Cond.stringLink "com/example/veilcommit/veilcommit/oram/TreeShape" (25 : Nat) "z + s").before a0 Z = true := hw _ (List.mem_of_getElem? (i := 38) rfl)
theorem w39 {Z : State} {a0 : Array Value} (hw : ∀ d ∈ tables_1, d.before a0 Z = true) : (Jvm.Cond.constantLong "com/example/veilcommit/veilcommit/oram/TreeShape" (27 : Nat) (2 : Int64)).before a0 Z = true := hw _ (List.mem_of_getElem? (i := 39) rfl)
theorem w40 {Z : State} {a0 : Array Value} (hw : ∀ d ∈ tables_1, d.before a0 Z = true) : (Jvm.Cond.methodLink "com/example/veilcommit/veilcommit/oram/TreeShape" (29 : Nat) ({ cls := "com/example/veilcommit/veilcommit/oram/TreeShape", name := "leaves", desc := "(II)I" } : Jvm.MethodName)).before a0 Z = true := hw _ (List.mem_of_getElem? (i := 40) rfl)
theorem w41 {Z : State} {a0 : Array Value} (hw : ∀ d ∈ tables_1, d.before a0 Z = true) : (Jvm.Cond.static ({ cls := "com/example/veilcommit/veilcommit/oram/TreeShape", name := "leaves", desc := "(II)I" } : Jvm.MethodName)).before a0 Z = true := hw _ (List.mem_of_getElem? (i := 41) rfl)
theorem w42 {Z : State} {a0 : Array Value} (hw : ∀ d ∈ tables_1, d.before a0 Z = true) : (Jvm.Cond.code ({ cls := "com/example/veilcommit/veilcommit/oram/TreeShape", name := "leaves", desc := "(II)I" } : Jvm.MethodName) prog_138_method_3_code (3 : Nat) (Option.some Jvm.ClassFile.FieldType.int)).before a0 Z = true := hw _ (List.mem_of_getElem? (i := 42) rfl)
theorem w43 {Z : State} {a0 : Array Value} (hw : ∀ d ∈ tables_1, d.before a0 Z = true) : (Jvm.Cond.constantLong "com/example/veilcommit/veilcommit/oram/TreeShape" (33 : Nat) (134217728 : Int64)).before a0 Z = true := hw _ (List.mem_of_getElem? (i := 43) rfl)
theorem w44 {Z : State} {a0 : Array Value} (hw : ∀ d ∈ tables_1, d.before a0 Z = true) : (Jvm.Cond.methodLink "com/example/veilcommit/veilcommit/oram/TreeShape" (42 : Nat) ({ cls := "com/example/veilcommit/veilcommit/oram/TreeShape", name := "stashCapacity", desc := "(II)J" } : Jvm.MethodName)).before a0 Z = true := hw _ (List.mem_of_getElem? (i := 44) rfl)
theorem w45 {Z : State} {a0 : Array Value} (hw : ∀ d ∈ tables_1, d.before a0 Z = true) : (Jvm.Cond.static ({ cls := "com/example/veilcommit/veilcommit/oram/TreeShape", name := "stashCapacity", desc := "(II)J" } : Jvm.MethodName)).before a0 Z = true := hw _ (List.mem_of_getElem? (i := 45) rfl)
theorem w46 {Z : State} {a0 : Array Value} (hw : ∀ d ∈ tables_1, d.before a0 Z = true) : (Jvm.Cond.code ({ cls := "com/example/veilcommit/veilcommit/oram/TreeShape", name := "stashCapacity", desc := "(II)J" } : Jvm.MethodName) prog_138_method_14_code (2 : Nat) (Option.some Jvm.ClassFile.FieldType.long)).before a0 Z = true := hw _ (List.mem_of_getElem? (i := 46) rfl)
theorem w47 {Z : State} {a0 : Array Value} (hw : ∀ d ∈ tables_1, d.before a0 Z = true) : (Jvm.Cond.constantLong "com/example/veilcommit/veilcommit/oram/TreeShape" (93 : Nat) (256 : Int64)).before a0 Z = true := hw _ (List.mem_of_getElem? (i := 47) rfl)
theorem w48 {Z : State} {a0 : Array Value} (hw : ∀ d ∈ tables_1, d.before a0 Z = true) : (Jvm.Cond.methodLink "com/example/veilcommit/veilcommit/oram/TreeShape" (95 : Nat) ({ cls := "java/lang/Math", name := "min", desc := "(JJ)J" } : Jvm.MethodName)).before a0 Z = true := hw _ (List.mem_of_getElem? (i := 48) rfl)
theorem w49 {Z : State} {a0 : Array Value} (hw : ∀ d ∈ tables_1, d.before a0 Z = true) : (Jvm.Cond.static ({ cls := "java/lang/Math", name := "min", desc := "(JJ)J" } : Jvm.MethodName)).before a0 Z = true := hw _ (List.mem_of_getElem? (i := 49) rfl)
theorem w50 {Z : State} {a0 : Array Value} (hw : ∀ d ∈ tables_1, d.before a0 Z = true) : (Jvm.Cond.code ({ cls := "java/lang/Math", name := "min", desc := "(JJ)J" } : Jvm.MethodName) jdk_29_method_70_code (4 : Nat) (Option.some Jvm.ClassFile.FieldType.long)).before a0 Z = true := hw _ (List.mem_of_getElem? (i := 50) rfl)
theorem w51 {Z : State} {a0 : Array Value} (hw : ∀ d ∈ tables_1, d.before a0 Z = true) : (Jvm.Cond.constantLong "com/example/veilcommit/veilcommit/oram/TreeShape" (46 : Nat) (1073741824 : Int64)).before a0 Z = true := hw _ (List.mem_of_getElem? (i := 51) rfl)
theorem w52 {Z : State} {a0 : Array Value} (hw : ∀ d ∈ tables_1, d.before a0 Z = true) : (Jvm.Cond.fieldLink "com/example/veilcommit/veilcommit/oram/TreeShape" (50 : Nat) "com/example/veilcommit/veilcommit/oram/TreeShape" "capacity" "I").before a0 Z = true := hw _ (List.mem_of_getElem? (i := 52) rfl)
theorem w53 {Z : State} {a0 : Array Value} (hw : ∀ d ∈ tables_1, d.before a0 Z = true) : (Jvm.Cond.laysFinal "com/example/veilcommit/veilcommit/oram/TreeShape" "com/example/veilcommit/veilcommit/oram/TreeShape" "capacity" "I").before a0 Z = true := hw _ (List.mem_of_getElem? (i := 53) rfl)
theorem w54 {Z : State} {a0 : Array Value} (hw : ∀ d ∈ tables_1, d.before a0 Z = true) : (Jvm.Cond.fieldLink "com/example/veilcommit/veilcommit/oram/TreeShape" (53 : Nat) "com/example/veilcommit/veilcommit/oram/TreeShape" "blockSize" "I").before a0 Z = true := hw _ (List.mem_of_getElem? (i := 54) rfl)
theorem w55 {Z : State} {a0 : Array Value} (hw : ∀ d ∈ tables_1, d.before a0 Z = true) : (Jvm.Cond.laysFinal "com/example/veilcommit/veilcommit/oram/TreeShape" "com/example/veilcommit/veilcommit/oram/TreeShape" "blockSize" "I").before a0 Z = true := hw _ (List.mem_of_getElem? (i := 55) rfl)
theorem w56 {Z : State} {a0 : Array Value} (hw : ∀ d ∈ tables_1, d.before a0 Z = true) : (Jvm.Cond.fieldLink "com/example/veilcommit/veilcommit/oram/TreeShape" (56 : Nat) "com/example/veilcommit/veilcommit/oram/TreeShape" "z" "I").before a0 Z = true := hw _ (List.mem_of_getElem? (i := 56) rfl)
theorem w57 {Z : State} {a0 : Array Value} (hw : ∀ d ∈ tables_1, d.before a0 Z = true) : (Jvm.Cond.laysFinal "com/example/veilcommit/veilcommit/oram/TreeShape" "com/example/veilcommit/veilcommit/oram/TreeShape" "z" "I").before a0 Z = true := hw _ (List.mem_of_getElem? (i := 57) rfl)
theorem w58 {Z : State} {a0 : Array Value} (hw : ∀ d ∈ tables_1, d.before a0 Z = true) : (Jvm.Cond.fieldLink "com/example/veilcommit/veilcommit/oram/TreeShape" (58 : Nat) "com/example/veilcommit/veilcommit/oram/TreeShape" "s" "I").before a0 Z = true := hw _ (List.mem_of_getElem? (i := 58) rfl)
theorem w59 {Z : State} {a0 : Array Value} (hw : ∀ d ∈ tables_1, d.before a0 Z = true) : (Jvm.Cond.laysFinal "com/example/veilcommit/veilcommit/oram/TreeShape" "com/example/veilcommit/veilcommit/oram/TreeShape" "s" "I").before a0 Z = true := hw _ (List.mem_of_getElem? (i := 59) rfl)
theorem w60 {Z : State} {a0 : Array Value} (hw : ∀ d ∈ tables_1, d.before a0 Z = true) : (Jvm.Cond.fieldLink "com/example/veilcommit/veilcommit/oram/TreeShape" (60 : Nat) "com/example/veilcommit/veilcommit/oram/TreeShape" "a" "I").before a0 Z = true := hw _ (List.mem_of_getElem? (i := 60) rfl)
theorem w61 {Z : State} {a0 : Array Value} (hw : ∀ d ∈ tables_1, d.before a0 Z = true) : (Jvm.Cond.laysFinal "com/example/veilcommit/veilcommit/oram/TreeShape" "com/example/veilcommit/veilcommit/oram/TreeShape" "a" "I").before a0 Z = true := hw _ (List.mem_of_getElem? (i := 61) rfl)
theorem w62 {Z : State} {a0 : Array Value} (hw : ∀ d ∈ tables_1, d.before a0 Z = true) : (Jvm.Cond.constantLong "com/example/veilcommit/veilcommit/oram/TreeShapeKeptBucketBytesPinLaw" (21 : Nat) (9 : Int64)).before a0 Z = true := hw _ (List.mem_of_getElem? (i := 62) rfl)
theorem w63 {Z : State} {a0 : Array Value} (hw : ∀ d ∈ tables_1, d.before a0 Z = true) : (Jvm.Cond.constantLong "com/example/veilcommit/veilcommit/oram/TreeShapeKeptBucketBytesPinLaw" (23 : Nat) (32 : Int64)).before a0 Z = true := hw _ (List.mem_of_getElem? (i := 63) rfl)
theorem w64 {Z : State} {a0 : Array Value} (hw : ∀ d ∈ tables_1, d.before a0 Z = true) : (Jvm.Cond.methodLink "com/example/veilcommit/veilcommit/oram/TreeShapeKeptBucketBytesPinLaw" (25 : Nat) ({ cls := "com/example/veilcommit/veilcommit/oram/TreeShape", name := "keptBucketBytes", desc := "()I" } : Jvm.MethodName)).before a0 Z = true := hw _ (List.mem_of_getElem? (i := 64) rfl)
theorem w65 {Z : State} {a0 : Array Value} (hw : ∀ d ∈ tables_1, d.before a0 Z = true) : (Jvm.Cond.declares ({ cls := "com/example/veilcommit/veilcommit/oram/TreeShape", name := "keptBucketBytes", desc := "()I" } : Jvm.MethodName)).before a0 Z = true := hw _ (List.mem_of_getElem? (i := 65) rfl)
theorem w66 {Z : State} {a0 : Array Value} (hw : ∀ d ∈ tables_1, d.before a0 Z = true) : (Jvm.Cond.instanceMethod ({ cls := "com/example/veilcommit/veilcommit/oram/TreeShape", name := "keptBucketBytes", desc := "()I" } : Jvm.MethodName)).before a0 Z = true := hw _ (List.mem_of_getElem? (i := 66) rfl)
theorem w67 {Z : State} {a0 : Array Value} (hw : ∀ d ∈ tables_1, d.before a0 Z = true) : (Jvm.Cond.selects "com/example/veilcommit/veilcommit/oram/TreeShape" ({ cls := "com/example/veilcommit/veilcommit/oram/TreeShape", name := "keptBucketBytes", desc := "()I" } : Jvm.MethodName) ({ cls := "com/example/veilcommit/veilcommit/oram/TreeShape", name := "keptBucketBytes", desc := "()I" } : Jvm.MethodName)).before a0 Z = true := hw _ (List.mem_of_getElem? (i := 67) rfl)
theorem w68 {Z : State} {a0 : Array Value} (hw : ∀ d ∈ tables_1, d.before a0 Z = true) : (Jvm.Cond.code ({ cls := "com/example/veilcommit/veilcommit/oram/TreeShape", name := "keptBucketBytes", desc := "()I" } : Jvm.MethodName) prog_138_method_11_code (1 : Nat) (Option.some Jvm.ClassFile.FieldType.int)).before a0 Z = true := hw _ (List.mem_of_getElem? (i := 68) rfl)
theorem w69 {Z : State} {a0 : Array Value} (hw : ∀ d ∈ tables_1, d.before a0 Z = true) : (Jvm.Cond.methodLink "com/example/veilcommit/veilcommit/oram/TreeShape" (82 : Nat) ({ cls := "com/example/veilcommit/veilcommit/oram/TreeShape", name := "plainSlotBytes", desc := "()I" } : Jvm.MethodName)).before a0 Z = true := hw _ (List.mem_of_getElem? (i := 69) rfl)
theorem w70 {Z : State} {a0 : Array Value} (hw : ∀ d ∈ tables_1, d.before a0 Z = true) : (Jvm.Cond.declares ({ cls := "com/example/veilcommit/veilcommit/oram/TreeShape", name := "plainSlotBytes", desc := "()I" } : Jvm.MethodName)).before a0 Z = true := hw _ (List.mem_of_getElem? (i := 70) rfl)
theorem w71 {Z : State} {a0 : Array Value} (hw : ∀ d ∈ tables_1, d.before a0 Z = true) : (Jvm.Cond.instanceMethod ({ cls := "com/example/veilcommit/veilcommit/oram/TreeShape", name := "plainSlotBytes", desc := "()I" } : Jvm.MethodName)).before a0 Z = true := hw _ (List.mem_of_getElem? (i := 71) rfl)
theorem w72 {Z : State} {a0 : Array Value} (hw : ∀ d ∈ tables_1, d.before a0 Z = true) : (Jvm.Cond.selects "com/example/veilcommit/veilcommit/oram/TreeShape" ({ cls := "com/example/veilcommit/veilcommit/oram/TreeShape", name := "plainSlotBytes", desc := "()I" } : Jvm.MethodName) ({ cls := "com/example/veilcommit/veilcommit/oram/TreeShape", name := "plainSlotBytes", desc := "()I" } : Jvm.MethodName)).before a0 Z = true := hw _ (List.mem_of_getElem? (i := 72) rfl)
theorem w73 {Z : State} {a0 : Array Value} (hw : ∀ d ∈ tables_1, d.before a0 Z = true) : (Jvm.Cond.code ({ cls := "com/example/veilcommit/veilcommit/oram/TreeShape", name := "plainSlotBytes", desc := "()I" } : Jvm.MethodName) prog_138_method_8_code (1 : Nat) (Option.some Jvm.ClassFile.FieldType.int)).before a0 Z = true := hw _ (List.mem_of_getElem? (i := 73) rfl)
theorem pd_0 : parseMethodDescriptor "(JJ)J" = some ⟨[.long, .long], some (.long)⟩ := by decide +kernel
theorem pd_1 : parseMethodDescriptor "()V" = some ⟨[], none⟩ := by decide +kernel
theorem pd_2 : parseMethodDescriptor "(Ljava/lang/String;III)V" = some ⟨[.object "java/lang/String", .int, .int, .int], none⟩ := by decide +kernel
theorem pd_3 : parseMethodDescriptor "(II)I" = some ⟨[.int, .int], some (.int)⟩ := by decide +kernel
theorem pd_4 : parseMethodDescriptor "(II)J" = some ⟨[.int, .int], some (.long)⟩ := by decide +kernel
theorem pd_5 : parseMethodDescriptor "()I" = some ⟨[], some (.int)⟩ := by decide +kernel
theorem pd_6 : parseMethodDescriptor "(IIIII)V" = some ⟨[.int, .int, .int, .int, .int], none⟩ := by decide +kernel
theorem own_str {Z : State} {a0 : Array Value} (hw : ∀ d ∈ tables_1, d.before a0 Z = true) : ∀ a ∈ Bundle.stringAtoms, a.before a0 Z = true := by
  intro d hd
  simp only [Bundle.stringAtoms, List.mem_cons, List.not_mem_nil, or_false] at hd
  rcases hd with rfl | rfl | rfl | rfl | rfl | rfl | rfl
  · exact (w22 hw)
  · exact (w23 hw)
  · exact (w24 hw)
  · exact (w25 hw)
  · exact (w26 hw)
  · exact (w27 hw)
  · exact (w28 hw)
theorem sn_TreeShape_capacity_blockSize {Z : State} {a0 : Array Value} (hw : ∀ d ∈ tables_1, d.before a0 Z = true) : Jvm.RoadKit.slotOf Z "com/example/veilcommit/veilcommit/oram/TreeShape" "capacity" "I" ≠ Jvm.RoadKit.slotOf Z "com/example/veilcommit/veilcommit/oram/TreeShape" "blockSize" "I" := slot_ne (t := .int) (t' := .int) (C := "com/example/veilcommit/veilcommit/oram/TreeShape") (Or.inr (w53 hw)) (Or.inr (w55 hw)) (by decide) (by decide) (by decide)
theorem sn_TreeShape_capacity_z {Z : State} {a0 : Array Value} (hw : ∀ d ∈ tables_1, d.before a0 Z = true) : Jvm.RoadKit.slotOf Z "com/example/veilcommit/veilcommit/oram/TreeShape" "capacity" "I" ≠ Jvm.RoadKit.slotOf Z "com/example/veilcommit/veilcommit/oram/TreeShape" "z" "I" := slot_ne (t := .int) (t' := .int) (C := "com/example/veilcommit/veilcommit/oram/TreeShape") (Or.inr (w53 hw)) (Or.inr (w57 hw)) (by decide) (by decide) (by decide)
theorem sn_TreeShape_capacity_s {Z : State} {a0 : Array Value} (hw : ∀ d ∈ tables_1, d.before a0 Z = true) : Jvm.RoadKit.slotOf Z "com/example/veilcommit/veilcommit/oram/TreeShape" "capacity" "I" ≠ Jvm.RoadKit.slotOf Z "com/example/veilcommit/veilcommit/oram/TreeShape" "s" "I" := slot_ne (t := .int) (t' := .int) (C := "com/example/veilcommit/veilcommit/oram/TreeShape") (Or.inr (w53 hw)) (Or.inr (w59 hw)) (by decide) (by decide) (by decide)
theorem sn_TreeShape_capacity_a {Z : State} {a0 : Array Value} (hw : ∀ d ∈ tables_1, d.before a0 Z = true) : Jvm.RoadKit.slotOf Z "com/example/veilcommit/veilcommit/oram/TreeShape" "capacity" "I" ≠ Jvm.RoadKit.slotOf Z "com/example/veilcommit/veilcommit/oram/TreeShape" "a" "I" := slot_ne (t := .int) (t' := .int) (C := "com/example/veilcommit/veilcommit/oram/TreeShape") (Or.inr (w53 hw)) (Or.inr (w61 hw)) (by decide) (by decide) (by decide)
theorem sn_TreeShape_blockSize_capacity {Z : State} {a0 : Array Value} (hw : ∀ d ∈ tables_1, d.before a0 Z = true) : Jvm.RoadKit.slotOf Z "com/example/veilcommit/veilcommit/oram/TreeShape" "blockSize" "I" ≠ Jvm.RoadKit.slotOf Z "com/example/veilcommit/veilcommit/oram/TreeShape" "capacity" "I" := slot_ne (t := .int) (t' := .int) (C := "com/example/veilcommit/veilcommit/oram/TreeShape") (Or.inr (w55 hw)) (Or.inr (w53 hw)) (by decide) (by decide) (by decide)
theorem sn_TreeShape_blockSize_z {Z : State} {a0 : Array Value} (hw : ∀ d ∈ tables_1, d.before a0 Z = true) : Jvm.RoadKit.slotOf Z "com/example/veilcommit/veilcommit/oram/TreeShape" "blockSize" "I" ≠ Jvm.RoadKit.slotOf Z "com/example/veilcommit/veilcommit/oram/TreeShape" "z" "I" := slot_ne (t := .int) (t' := .int) (C := "com/example/veilcommit/veilcommit/oram/TreeShape") (Or.inr (w55 hw)) (Or.inr (w57 hw)) (by decide) (by decide) (by decide)
theorem sn_TreeShape_blockSize_s {Z : State} {a0 : Array Value} (hw : ∀ d ∈ tables_1, d.before a0 Z = true) : Jvm.RoadKit.slotOf Z "com/example/veilcommit/veilcommit/oram/TreeShape" "blockSize" "I" ≠ Jvm.RoadKit.slotOf Z "com/example/veilcommit/veilcommit/oram/TreeShape" "s" "I" := slot_ne (t := .int) (t' := .int) (C := "com/example/veilcommit/veilcommit/oram/TreeShape") (Or.inr (w55 hw)) (Or.inr (w59 hw)) (by decide) (by decide) (by decide)
theorem sn_TreeShape_blockSize_a {Z : State} {a0 : Array Value} (hw : ∀ d ∈ tables_1, d.before a0 Z = true) : Jvm.RoadKit.slotOf Z "com/example/veilcommit/veilcommit/oram/TreeShape" "blockSize" "I" ≠ Jvm.RoadKit.slotOf Z "com/example/veilcommit/veilcommit/oram/TreeShape" "a" "I" := slot_ne (t := .int) (t' := .int) (C := "com/example/veilcommit/veilcommit/oram/TreeShape") (Or.inr (w55 hw)) (Or.inr (w61 hw)) (by decide) (by decide) (by decide)
theorem sn_TreeShape_z_capacity {Z : State} {a0 : Array Value} (hw : ∀ d ∈ tables_1, d.before a0 Z = true) : Jvm.RoadKit.slotOf Z "com/example/veilcommit/veilcommit/oram/TreeShape" "z" "I" ≠ Jvm.RoadKit.slotOf Z "com/example/veilcommit/veilcommit/oram/TreeShape" "capacity" "I" := slot_ne (t := .int) (t' := .int) (C := "com/example/veilcommit/veilcommit/oram/TreeShape") (Or.inr (w57 hw)) (Or.inr (w53 hw)) (by decide) (by decide) (by decide)
theorem sn_TreeShape_z_blockSize {Z : State} {a0 : Array Value} (hw : ∀ d ∈ tables_1, d.before a0 Z = true) : Jvm.RoadKit.slotOf Z "com/example/veilcommit/veilcommit/oram/TreeShape" "z" "I" ≠ Jvm.RoadKit.slotOf Z "com/example/veilcommit/veilcommit/oram/TreeShape" "blockSize" "I" := slot_ne (t := .int) (t' := .int) (C := "com/example/veilcommit/veilcommit/oram/TreeShape") (Or.inr (w57 hw)) (Or.inr (w55 hw)) (by decide) (by decide) (by decide)
theorem sn_TreeShape_z_s {Z : State} {a0 : Array Value} (hw : ∀ d ∈ tables_1, d.before a0 Z = true) : Jvm.RoadKit.slotOf Z "com/example/veilcommit/veilcommit/oram/TreeShape" "z" "I" ≠ Jvm.RoadKit.slotOf Z "com/example/veilcommit/veilcommit/oram/TreeShape" "s" "I" := slot_ne (t := .int) (t' := .int) (C := "com/example/veilcommit/veilcommit/oram/TreeShape") (Or.inr (w57 hw)) (Or.inr (w59 hw)) (by decide) (by decide) (by decide)
theorem sn_TreeShape_z_a {Z : State} {a0 : Array Value} (hw : ∀ d ∈ tables_1, d.before a0 Z = true) : Jvm.RoadKit.slotOf Z "com/example/veilcommit/veilcommit/oram/TreeShape" "z" "I" ≠ Jvm.RoadKit.slotOf Z "com/example/veilcommit/veilcommit/oram/TreeShape" "a" "I" := slot_ne (t := .int) (t' := .int) (C := "com/example/veilcommit/veilcommit/oram/TreeShape") (Or.inr (w57 hw)) (Or.inr (w61 hw)) (by decide) (by decide) (by decide)
theorem sn_TreeShape_s_capacity {Z : State} {a0 : Array Value} (hw : ∀ d ∈ tables_1, d.before a0 Z = true) : Jvm.RoadKit.slotOf Z "com/example/veilcommit/veilcommit/oram/TreeShape" "s" "I" ≠ Jvm.RoadKit.slotOf Z "com/example/veilcommit/veilcommit/oram/TreeShape" "capacity" "I" := slot_ne (t := .int) (t' := .int) (C := "com/example/veilcommit/veilcommit/oram/TreeShape") (Or.inr (w59 hw)) (Or.inr (w53 hw)) (by decide) (by decide) (by decide)
theorem sn_TreeShape_s_blockSize {Z : State} {a0 : Array Value} (hw : ∀ d ∈ tables_1, d.before a0 Z = true) : Jvm.RoadKit.slotOf Z "com/example/veilcommit/veilcommit/oram/TreeShape" "s" "I" ≠ Jvm.RoadKit.slotOf Z "com/example/veilcommit/veilcommit/oram/TreeShape" "blockSize" "I" := slot_ne (t := .int) (t' := .int) (C := "com/example/veilcommit/veilcommit/oram/TreeShape") (Or.inr (w59 hw)) (Or.inr (w55 hw)) (by decide) (by decide) (by decide)
theorem sn_TreeShape_s_z {Z : State} {a0 : Array Value} (hw : ∀ d ∈ tables_1, d.before a0 Z = true) : Jvm.RoadKit.slotOf Z "com/example/veilcommit/veilcommit/oram/TreeShape" "s" "I" ≠ Jvm.RoadKit.slotOf Z "com/example/veilcommit/veilcommit/oram/TreeShape" "z" "I" := slot_ne (t := .int) (t' := .int) (C := "com/example/veilcommit/veilcommit/oram/TreeShape") (Or.inr (w59 hw)) (Or.inr (w57 hw)) (by decide) (by decide) (by decide)
theorem sn_TreeShape_s_a {Z : State} {a0 : Array Value} (hw : ∀ d ∈ tables_1, d.before a0 Z = true) : Jvm.RoadKit.slotOf Z "com/example/veilcommit/veilcommit/oram/TreeShape" "s" "I" ≠ Jvm.RoadKit.slotOf Z "com/example/veilcommit/veilcommit/oram/TreeShape" "a" "I" := slot_ne (t := .int) (t' := .int) (C := "com/example/veilcommit/veilcommit/oram/TreeShape") (Or.inr (w59 hw)) (Or.inr (w61 hw)) (by decide) (by decide) (by decide)
theorem sn_TreeShape_a_capacity {Z : State} {a0 : Array Value} (hw : ∀ d ∈ tables_1, d.before a0 Z = true) : Jvm.RoadKit.slotOf Z "com/example/veilcommit/veilcommit/oram/TreeShape" "a" "I" ≠ Jvm.RoadKit.slotOf Z "com/example/veilcommit/veilcommit/oram/TreeShape" "capacity" "I" := slot_ne (t := .int) (t' := .int) (C := "com/example/veilcommit/veilcommit/oram/TreeShape") (Or.inr (w61 hw)) (Or.inr (w53 hw)) (by decide) (by decide) (by decide)
theorem sn_TreeShape_a_blockSize {Z : State} {a0 : Array Value} (hw : ∀ d ∈ tables_1, d.before a0 Z = true) : Jvm.RoadKit.slotOf Z "com/example/veilcommit/veilcommit/oram/TreeShape" "a" "I" ≠ Jvm.RoadKit.slotOf Z "com/example/veilcommit/veilcommit/oram/TreeShape" "blockSize" "I" := slot_ne (t := .int) (t' := .int) (C := "com/example/veilcommit/veilcommit/oram/TreeShape") (Or.inr (w61 hw)) (Or.inr (w55 hw)) (by decide) (by decide) (by decide)
theorem sn_TreeShape_a_z {Z : State} {a0 : Array Value} (hw : ∀ d ∈ tables_1, d.before a0 Z = true) : Jvm.RoadKit.slotOf Z "com/example/veilcommit/veilcommit/oram/TreeShape" "a" "I" ≠ Jvm.RoadKit.slotOf Z "com/example/veilcommit/veilcommit/oram/TreeShape" "z" "I" := slot_ne (t := .int) (t' := .int) (C := "com/example/veilcommit/veilcommit/oram/TreeShape") (Or.inr (w61 hw)) (Or.inr (w57 hw)) (by decide) (by decide) (by decide)
theorem sn_TreeShape_a_s {Z : State} {a0 : Array Value} (hw : ∀ d ∈ tables_1, d.before a0 Z = true) : Jvm.RoadKit.slotOf Z "com/example/veilcommit/veilcommit/oram/TreeShape" "a" "I" ≠ Jvm.RoadKit.slotOf Z "com/example/veilcommit/veilcommit/oram/TreeShape" "s" "I" := slot_ne (t := .int) (t' := .int) (C := "com/example/veilcommit/veilcommit/oram/TreeShape") (Or.inr (w61 hw)) (Or.inr (w59 hw)) (by decide) (by decide) (by decide)
def own_T (Z : State) (h : Heap) (o : Addr) (cap bs z s a : Int32) : Prop := Exa Z h o "com/example/veilcommit/veilcommit/oram/TreeShape" ∧ Fld Z h o "com/example/veilcommit/veilcommit/oram/TreeShape" "capacity" "I" (.int cap) ∧ Fld Z h o "com/example/veilcommit/veilcommit/oram/TreeShape" "blockSize" "I" (.int bs) ∧ Fld Z h o "com/example/veilcommit/veilcommit/oram/TreeShape" "z" "I" (.int z) ∧ Fld Z h o "com/example/veilcommit/veilcommit/oram/TreeShape" "s" "I" (.int s) ∧ Fld Z h o "com/example/veilcommit/veilcommit/oram/TreeShape" "a" "I" (.int a)
set_option maxRecDepth 65536 in
set_option maxHeartbeats 4000000 in
theorem rmV (l : Launch) (Z : State) (a0 : Array Value) (hw : ∀ d ∈ tables_1, d.before a0 Z = true) (n0 : Nat) (h : Heap) (i j : Int32) (hj : j ≠ 0) (hq : (i + j - 1) / j = 1) : Con l (⟨"com/example/veilcommit/veilcommit/oram/TreeShape", "leaves", "(II)I"⟩ : MethodName) prog_138_method_3_code 3 (some .int) [] ({ frames := 0, cells := 0, slots := 0, locals := 0 } : Room) Z n0 #[.int i, .int j] h (qI fun z h' => z = 1 ∧ h' = h) := by
  refine con_of_go (Ls := [.val (.int i), .val (.int j), .unset]) (plainFor_of_name (by first | (simp [plainName, overriddenIn]; done) | decide +kernel)) (fun m => by first | (simp [entryFrame, mkF, argsToLocals, Value.category]; done) | rfl) ?_
  intro K hl hK
  subst hl
  change Cx K Z "com/example/veilcommit/veilcommit/oram/TreeShape" prog_138_method_3_code 3 (some .int) "leaves" at hK
  refine g_iloadN (pc := 0) hK d6_0 rfl ?_
  refine g_iloadN (pc := 1) hK d6_1 rfl ?_
  refine g_iadd (pc := 2) hK d6_2 ?_
  refine g_iconst (pc := 3) (z := (1 : Int32)) hK d6_3 (by decide) ?_
  refine g_isub (pc := 4) hK d6_4 ?_
  refine g_iloadN (pc := 5) hK d6_5 rfl ?_
  refine g_idiv (pc := 6) hK d6_6 hj ?_
  refine g_istore_2 (pc := 7) hK d6_7 rfl ?_
  refine g_iloadN (pc := 8) hK d6_8 rfl ?_
  refine g_iconst (pc := 9) (z := (1 : Int32)) hK d6_9 (by decide) ?_
  refine gN_icmp_ne (pc := 10) hK d6_10 hq ?_
  refine g_iconst (pc := 13) (z := (1 : Int32)) hK d6_13 (by decide) ?_
  refine g_goto (pc := 14) (pc' := 25) hK d6_14 (by decide) ?_
  exact g_ireturn (pc := 25) hK d6_25 rfl ⟨rfl, rfl⟩
set_option maxRecDepth 65536 in
set_option maxHeartbeats 4000000 in
theorem rmI (l : Launch) (Z : State) (a0 : Array Value) (hw : ∀ d ∈ tables_1, d.before a0 Z = true) (n0 : Nat) (h : Heap) (o : Addr) : Con l (⟨"java/lang/Record", "<init>", "()V"⟩ : MethodName) jdk_30_method_1_code 1 none [] ({ frames := 1, cells := 0, slots := 0, locals := 14 } : Room) Z n0 #[.ref o] h (qV fun h' => h' = h) := by
  refine con_of_go (Ls := [.val (.ref o)]) (plainFor_of_name (by first | (simp [plainName, overriddenIn]; done) | decide +kernel)) (fun m => by first | (simp [entryFrame, mkF, argsToLocals, Value.category]; done) | rfl) ?_
  intro K hl hK
  subst hl
  change Cx K Z "java/lang/Record" jdk_30_method_1_code 1 none "<init>" at hK
  refine g_aloadN (pc := 0) hK d3_0 rfl ?_
  refine g_objinit (pc := 1) hK 2 (w18 hw) (w19 hw) (w20 hw) d3_1 rfl rfl ?_
  exact g_return (pc := 4) hK d3_4 rfl rfl
set_option maxRecDepth 65536 in
set_option maxHeartbeats 4000000 in
theorem rmR (l : Launch) (Z : State) (a0 : Array Value) (hw : ∀ d ∈ tables_1, d.before a0 Z = true) (n0 : Nat) (h : Heap) (b : Addr) (v lo hi : Int32) (h1 : lo.toInt ≤ v.toInt) (h2 : v.toInt ≤ hi.toInt) : Con l (⟨"com/example/veilcommit/veilcommit/oram/TreeShape", "requireRange", "(Ljava/lang/String;III)V"⟩ : MethodName) prog_138_method_21_code 4 none [] ({ frames := 0, cells := 0, slots := 0, locals := 0 } : Room) Z n0 #[.ref b, .int v, .int lo, .int hi] h (qV fun h' => h' = h) := by
  refine con_of_go (Ls := [.val (.ref b), .val (.int v), .val (.int lo), .val (.int hi)]) (plainFor_of_name (by first | (simp [plainName, overriddenIn]; done) | decide +kernel)) (fun m => by first | (simp [entryFrame, mkF, argsToLocals, Value.category]; done) | rfl) ?_
  intro K hl hK
  subst hl
  change Cx K Z "com/example/veilcommit/veilcommit/oram/TreeShape" prog_138_method_21_code 4 none "requireRange" at hK
  refine g_iloadN (pc := 0) hK d5_0 rfl ?_
  refine g_iloadN (pc := 1) hK d5_1 rfl ?_
  refine gN_icmp_lt (pc := 2) hK d5_2 h1 ?_
  refine g_iloadN (pc := 5) hK d5_5 rfl ?_
  refine g_iloadN (pc := 6) hK d5_6 rfl ?_
  refine gY_icmp_le (pc := 7) (pc' := 27) hK d5_7 (by decide) h2 ?_
  exact g_return (pc := 27) hK d5_27 rfl rfl
set_option maxRecDepth 65536 in
set_option maxHeartbeats 4000000 in
theorem rmM (l : Launch) (Z : State) (a0 : Array Value) (hw : ∀ d ∈ tables_1, d.before a0 Z = true) (n0 : Nat) (h : Heap) (x y : Int64) : Con l (⟨"java/lang/Math", "min", "(JJ)J"⟩ : MethodName) jdk_29_method_70_code 4 (some .long) [] ({ frames := 0, cells := 0, slots := 0, locals := 0 } : Room) Z n0 #[.long x, .long y] h (qJ fun z h' => ((x.toInt ≤ y.toInt → z = x) ∧ (y.toInt < x.toInt → z = y)) ∧ h' = h) := by
  refine con_of_go (Ls := [.val (.long x), .second, .val (.long y), .second]) (Jvm.Free.JP.mathPlain rfl (by decide)) (fun m => by first | (simp [entryFrame, mkF, argsToLocals, Value.category]; done) | rfl) ?_
  intro K hl hK
  subst hl
  change Cx K Z "java/lang/Math" jdk_29_method_70_code 4 (some .long) "min" at hK
  refine g_lloadN (pc := 0) hK d8_0 rfl ?_
  refine g_lloadN (pc := 1) hK d8_1 rfl ?_
  refine g_lif_gt (pc := 2) (pc' := 10) hK d8_2 d8_3 (by decide) (fun b2 => ?_) (fun b2 => ?_)
  · refine g_lloadN (pc := 10) hK d8_10 rfl ?_
    exact g_lreturn (pc := 11) hK d8_11 rfl ⟨⟨fun q => absurd q (by omega), fun _ => rfl⟩, rfl⟩
  · refine g_lloadN (pc := 6) hK d8_6 rfl ?_
    refine g_goto (pc := 7) (pc' := 11) hK d8_7 (by decide) ?_
    exact g_lreturn (pc := 11) hK d8_11 rfl ⟨⟨fun _ => rfl, fun q => absurd q (by omega)⟩, rfl⟩
set_option maxRecDepth 65536 in
set_option maxHeartbeats 4000000 in
theorem rmH (l : Launch) (Z : State) (a0 : Array Value) (hw : ∀ d ∈ tables_1, d.before a0 Z = true) (n0 : Nat) (h : Heap) (i j : Int32) (hi : 0 ≤ i.toInt) (hj : 0 ≤ j.toInt) : Con l (⟨"com/example/veilcommit/veilcommit/oram/TreeShape", "stashCapacity", "(II)J"⟩ : MethodName) prog_138_method_14_code 2 (some .long) [] ({ frames := 1, cells := 0, slots := 0, locals := 20 } : Room) Z n0 #[.int i, .int j] h (qJ fun z h' => (0 ≤ z.toInt ∧ z.toInt ≤ i.toInt) ∧ h' = h) := by
  refine con_of_go (Ls := [.val (.int i), .val (.int j)]) (plainFor_of_name (by first | (simp [plainName, overriddenIn]; done) | decide +kernel)) (fun m => by first | (simp [entryFrame, mkF, argsToLocals, Value.category]; done) | rfl) ?_
  intro K hl hK
  subst hl
  change Cx K Z "com/example/veilcommit/veilcommit/oram/TreeShape" prog_138_method_14_code 2 (some .long) "stashCapacity" at hK
  refine g_iloadN (pc := 0) hK d7_0 rfl ?_
  refine g_i2l (pc := 1) hK d7_1 ?_
  refine g_iloadN (pc := 2) hK d7_2 rfl ?_
  refine g_i2l (pc := 3) hK d7_3 ?_
  refine g_ldc2 (pc := 4) hK (w47 hw) d7_4 ?_
  refine g_ladd (pc := 7) hK d7_7 ?_
  refine g_static_2J (pc := 8) hK 2 d7_8 (w48 hw) (w49 hw) (w5 hw) (w50 hw) (by decide) (rmM _ Z a0 hw n0 _ _ _) pd_0 rfl rfl rfl (fun z8 h8 q8 gr8 => ?_)
  obtain ⟨⟨p1, p2⟩, rfl⟩ := q8
  have e1 := c_i2l i
  have e2 := c_i2l j
  have e3 := c_ladd j.toInt64 256
  have e4 := rng64 (j.toInt64 + 256)
  have e5 := rng32 j
  have e6 := rng32 i
  simp only [Int64.reduceToInt] at e3
  exact g_lreturn (pc := 11) hK d7_11 rfl ⟨by
      by_cases q : i.toInt64.toInt ≤ (j.toInt64 + 256).toInt
      · rw [p1 q]; omega
      · rw [p2 (by omega)]; omega, rfl⟩
set_option maxRecDepth 65536 in
set_option maxHeartbeats 4000000 in
theorem rmN (l : Launch) (Z : State) (a0 : Array Value) (hw : ∀ d ∈ tables_1, d.before a0 Z = true) (n0 : Nat) (h : Heap) (o : Addr) (go : n0 ≤ o) (c1 c2 c3 c4 c5 x1 x2 x3 x4 x5 : Int32) (h1 : 1 ≤ x1.toInt ∧ x1.toInt ≤ 16000) (h2 : 1 ≤ x2.toInt ∧ x2.toInt ≤ 65536) (h3 : 1 ≤ x3.toInt ∧ x3.toInt ≤ 16383) (h4 : 1 ≤ x4.toInt ∧ x3.toInt + x4.toInt ≤ 16384) (h5 : 1 ≤ x5.toInt ∧ x5.toInt ≤ 16777216) (hv0 : x3 ≠ 0) (hv : (x1 + x3 - 1) / x3 = 1) (hT : own_T Z h o c1 c2 c3 c4 c5) : ConW l (⟨"com/example/veilcommit/veilcommit/oram/TreeShape", "<init>", "(IIIII)V"⟩ : MethodName) prog_138_method_1_code 6 none [] ({ frames := 2, cells := 12, slots := 128, locals := 48 } : Room) Z n0 #[.ref o, .int x1, .int x2, .int x3, .int x4, .int x5] h (qV fun h' => own_T Z h' o x1 x2 x3 x4 x5) := by
  refine conW_of_go (Ls := [.val (.ref o), .val (.int x1), .val (.int x2), .val (.int x3), .val (.int x4), .val (.int x5)]) (plainFor_of_name (by first | (simp [plainName, overriddenIn]; done) | decide +kernel)) (fun m => by first | (simp [entryFrame, mkF, argsToLocals, Value.category]; done) | rfl) ?_
  intro K hl hK
  subst hl
  have hS : (kS K).Since (kS K).vm 0 := (State.WarmedH.refl _).since 0
  have hk : 0 ≤ h.size := Nat.zero_le _
  change Cx (reK K (kS K).vm) Z "com/example/veilcommit/veilcommit/oram/TreeShape" prog_138_method_1_code 6 none "<init>" at hK
  obtain ⟨E_o, F_o_capacity, F_o_blockSize, F_o_z, F_o_s, F_o_a⟩ := hT
  have j1 := c_iadd x3 x4
  have j2 := rng32 (x3 + x4)
  have ez : (x3 + x4).toInt = x3.toInt + x4.toInt := by omega
  refine g_aloadN (pc := 0) hK d2_0 rfl ?_
  refine g_special_0V (pc := 1) hK 2 d2_1 rfl (w13 hw) (w14 hw) (w16 hw) (w17 hw) (by decide) (rmI _ Z a0 hw n0 _ _) pd_1 rfl rfl rfl (fun h1 q1 gr1 => ?_)
  subst q1
  refine gW_ldcS (pc := 4) hK hS hk 32 (w21 hw) (own_str hw) d2_4 (by decide) rfl (fun vm4 h4 a4 k4 hK hS hk X4 => ?_)
  have E_o := E_o.ext X4
  have F_o_capacity := F_o_capacity.ext X4
  have F_o_blockSize := F_o_blockSize.ext X4
  have F_o_z := F_o_z.ext X4
  have F_o_s := F_o_s.ext X4
  have F_o_a := F_o_a.ext X4
  refine g_iloadN (pc := 6) hK d2_6 rfl ?_
  refine g_iconst (pc := 7) (z := (1 : Int32)) hK d2_7 (by decide) ?_
  refine g_ldc (pc := 8) hK (w29 hw) d2_8 ?_
  refine g_static_4V (pc := 10) hK 4 d2_10 (w30 hw) (w31 hw) (w9 hw) (w32 hw) (by decide) (rmR _ Z a0 hw n0 _ _ _ _ _ (by simp only [Int32.reduceToInt]; omega) (by simp only [Int32.reduceToInt]; omega)) pd_2 rfl rfl rfl (fun h10 q10 gr10 => ?_)
  subst q10
  refine gW_ldcS (pc := 13) hK hS hk 40 (w33 hw) (own_str hw) d2_13 (by decide) rfl (fun vm13 h13 a13 k13 hK hS hk X13 => ?_)
  have E_o := E_o.ext X13
  have F_o_capacity := F_o_capacity.ext X13
  have F_o_blockSize := F_o_blockSize.ext X13
  have F_o_z := F_o_z.ext X13
  have F_o_s := F_o_s.ext X13
  have F_o_a := F_o_a.ext X13
  refine g_iloadN (pc := 15) hK d2_15 rfl ?_
  refine g_iconst (pc := 16) (z := (1 : Int32)) hK d2_16 (by decide) ?_
  refine g_ldc (pc := 17) hK (w34 hw) d2_17 ?_
  refine g_static_4V (pc := 19) hK 4 d2_19 (w30 hw) (w31 hw) (w9 hw) (w32 hw) (by decide) (rmR _ Z a0 hw n0 _ _ _ _ _ (by simp only [Int32.reduceToInt]; omega) (by simp only [Int32.reduceToInt]; omega)) pd_2 rfl rfl rfl (fun h19 q19 gr19 => ?_)
  subst q19
  refine gW_ldcS (pc := 22) hK hS hk 4 (w35 hw) (own_str hw) d2_22 (by decide) rfl (fun vm22 h22 a22 k22 hK hS hk X22 => ?_)
  have E_o := E_o.ext X22
  have F_o_capacity := F_o_capacity.ext X22
  have F_o_blockSize := F_o_blockSize.ext X22
  have F_o_z := F_o_z.ext X22
  have F_o_s := F_o_s.ext X22
  have F_o_a := F_o_a.ext X22
  refine g_iloadN (pc := 24) hK d2_24 rfl ?_
  refine g_iconst (pc := 25) (z := (1 : Int32)) hK d2_25 (by decide) ?_
  refine g_sipush (pc := 26) (z := (16384 : Int32)) hK d2_26 (by decide) ?_
  refine g_static_4V (pc := 29) hK 4 d2_29 (w30 hw) (w31 hw) (w9 hw) (w32 hw) (by decide) (rmR _ Z a0 hw n0 _ _ _ _ _ (by simp only [Int32.reduceToInt]; omega) (by simp only [Int32.reduceToInt]; omega)) pd_2 rfl rfl rfl (fun h29 q29 gr29 => ?_)
  subst q29
  refine gW_ldcS (pc := 32) hK hS hk 4 (w36 hw) (own_str hw) d2_32 (by decide) rfl (fun vm32 h32 a32 k32 hK hS hk X32 => ?_)
  have E_o := E_o.ext X32
  have F_o_capacity := F_o_capacity.ext X32
  have F_o_blockSize := F_o_blockSize.ext X32
  have F_o_z := F_o_z.ext X32
  have F_o_s := F_o_s.ext X32
  have F_o_a := F_o_a.ext X32
  refine g_iload (pc := 34) hK d2_34 rfl ?_
  refine g_iconst (pc := 36) (z := (1 : Int32)) hK d2_36 (by decide) ?_
  refine g_sipush (pc := 37) (z := (16384 : Int32)) hK d2_37 (by decide) ?_
  refine g_static_4V (pc := 40) hK 4 d2_40 (w30 hw) (w31 hw) (w9 hw) (w32 hw) (by decide) (rmR _ Z a0 hw n0 _ _ _ _ _ (by simp only [Int32.reduceToInt]; omega) (by simp only [Int32.reduceToInt]; omega)) pd_2 rfl rfl rfl (fun h40 q40 gr40 => ?_)
  subst q40
  refine gW_ldcS (pc := 43) hK hS hk 4 (w37 hw) (own_str hw) d2_43 (by decide) rfl (fun vm43 h43 a43 k43 hK hS hk X43 => ?_)
  have E_o := E_o.ext X43
  have F_o_capacity := F_o_capacity.ext X43
  have F_o_blockSize := F_o_blockSize.ext X43
  have F_o_z := F_o_z.ext X43
  have F_o_s := F_o_s.ext X43
  have F_o_a := F_o_a.ext X43
  refine g_iload (pc := 45) hK d2_45 rfl ?_
  refine g_iconst (pc := 47) (z := (1 : Int32)) hK d2_47 (by decide) ?_
  refine g_ldc (pc := 48) hK (w29 hw) d2_48 ?_
  refine g_static_4V (pc := 50) hK 4 d2_50 (w30 hw) (w31 hw) (w9 hw) (w32 hw) (by decide) (rmR _ Z a0 hw n0 _ _ _ _ _ (by simp only [Int32.reduceToInt]; omega) (by simp only [Int32.reduceToInt]; omega)) pd_2 rfl rfl rfl (fun h50 q50 gr50 => ?_)
  subst q50
  refine gW_ldcS (pc := 53) hK hS hk 20 (w38 hw) (own_str hw) d2_53 (by decide) rfl (fun vm53 h53 a53 k53 hK hS hk X53 => ?_)
  have E_o := E_o.ext X53
  have F_o_capacity := F_o_capacity.ext X53
  have F_o_blockSize := F_o_blockSize.ext X53
  have F_o_z := F_o_z.ext X53
  have F_o_s := F_o_s.ext X53
  have F_o_a := F_o_a.ext X53
  refine g_iloadN (pc := 55) hK d2_55 rfl ?_
  refine g_iload (pc := 56) hK d2_56 rfl ?_
  refine g_iadd (pc := 58) hK d2_58 ?_
  refine g_iconst (pc := 59) (z := (2 : Int32)) hK d2_59 (by decide) ?_
  refine g_sipush (pc := 60) (z := (16384 : Int32)) hK d2_60 (by decide) ?_
  refine g_static_4V (pc := 63) hK 4 d2_63 (w30 hw) (w31 hw) (w9 hw) (w32 hw) (by decide) (rmR _ Z a0 hw n0 _ _ _ _ _ (by simp only [Int32.reduceToInt]; omega) (by simp only [Int32.reduceToInt]; omega)) pd_2 rfl rfl rfl (fun h63 q63 gr63 => ?_)
  subst q63
  refine g_ldc2 (pc := 66) hK (w39 hw) d2_66 ?_
  refine g_iloadN (pc := 69) hK d2_69 rfl ?_
  refine g_iloadN (pc := 70) hK d2_70 rfl ?_
  refine g_static_2I (pc := 71) hK 4 d2_71 (w40 hw) (w41 hw) (w9 hw) (w42 hw) (by decide) (rmV _ Z a0 hw n0 _ _ _ hv0 hv) pd_3 rfl rfl rfl (fun z71 h71 q71 gr71 => ?_)
  obtain ⟨rfl, rfl⟩ := q71
  refine g_i2l (pc := 74) hK d2_74 ?_
  refine g_lmul (pc := 75) hK d2_75 ?_
  refine g_lconst (pc := 76) (z := (1 : Int64)) hK d2_76 (by decide) ?_
  refine g_lsub (pc := 77) hK d2_77 ?_
  refine g_iloadN (pc := 78) hK d2_78 rfl ?_
  refine g_iload (pc := 79) hK d2_79 rfl ?_
  refine g_iadd (pc := 81) hK d2_81 ?_
  refine g_i2l (pc := 82) hK d2_82 ?_
  refine g_lmul (pc := 83) hK d2_83 ?_
  refine g_ldc2 (pc := 84) hK (w43 hw) d2_84 ?_
  refine gY_lif_le (pc := 87) (pc' := 101) hK d2_87 d2_88 (by decide) (by rw [show (2 * (1 : Int32).toInt64 - 1 : Int64) = 1 by decide, Int64.one_mul, c_i2l]; simp only [Int64.reduceToInt]; omega) ?_
  refine g_iloadN (pc := 101) hK d2_101 rfl ?_
  refine g_iload (pc := 102) hK d2_102 rfl ?_
  refine g_static_2J (pc := 104) hK 4 d2_104 (w44 hw) (w45 hw) (w9 hw) (w46 hw) (by decide) (rmH _ Z a0 hw n0 _ _ _ (by omega) (by omega)) pd_4 rfl rfl rfl (fun z104 h104 q104 gr104 => ?_)
  obtain ⟨⟨s1, s2⟩, rfl⟩ := q104
  have n1 := c_iadd 5 x2
  have n1r := rng32 (5 + x2)
  simp only [Int32.reduceToInt] at n1
  have n2 := c_i2l (5 + x2)
  have n3 := c_lmul z104 (5 + x2).toInt64
  have n3r := rng64 (z104 * (5 + x2).toInt64)
  have n4 := mc (a := z104.toInt) (b := (5 + x2).toInt64.toInt) (l1 := 0) (h1 := 16000) (l2 := 0) (h2 := 65541) (by omega) (by omega) (by omega) (by omega)
  refine g_iconst (pc := 107) (z := (5 : Int32)) hK d2_107 (by decide) ?_
  refine g_iloadN (pc := 108) hK d2_108 rfl ?_
  refine g_iadd (pc := 109) hK d2_109 ?_
  refine g_i2l (pc := 110) hK d2_110 ?_
  refine g_lmul (pc := 111) hK d2_111 ?_
  refine g_ldc2 (pc := 112) hK (w51 hw) d2_112 ?_
  refine gY_lif_le (pc := 115) (pc' := 129) hK d2_115 d2_116 (by decide) (by simp only [Int64.reduceToInt]; omega) ?_
  refine g_aloadN (pc := 129) hK d2_129 rfl ?_
  refine g_iloadN (pc := 130) hK d2_130 rfl ?_
  refine g_put (pc := 131) (ty := .int) hK (w52 hw) (Or.inr ⟨(w53 hw), rfl, rfl⟩) (w8 hw) d2_131 (by assumption) (by assumption) (by assumption) (by decide) rfl rfl (fun h131 W131 => ?_)
  have E_o := E_o.wr W131
  have F_o_capacity := F_o_capacity.same W131
  have F_o_blockSize := F_o_blockSize.other W131 (Or.inr (sn_TreeShape_blockSize_capacity hw))
  have F_o_z := F_o_z.other W131 (Or.inr (sn_TreeShape_z_capacity hw))
  have F_o_s := F_o_s.other W131 (Or.inr (sn_TreeShape_s_capacity hw))
  have F_o_a := F_o_a.other W131 (Or.inr (sn_TreeShape_a_capacity hw))
  refine g_aloadN (pc := 134) hK d2_134 rfl ?_
  refine g_iloadN (pc := 135) hK d2_135 rfl ?_
  refine g_put (pc := 136) (ty := .int) hK (w54 hw) (Or.inr ⟨(w55 hw), rfl, rfl⟩) (w8 hw) d2_136 (by assumption) (by assumption) (by assumption) (by decide) rfl rfl (fun h136 W136 => ?_)
  have E_o := E_o.wr W136
  have F_o_capacity := F_o_capacity.other W136 (Or.inr (sn_TreeShape_capacity_blockSize hw))
  have F_o_blockSize := F_o_blockSize.same W136
  have F_o_z := F_o_z.other W136 (Or.inr (sn_TreeShape_z_blockSize hw))
  have F_o_s := F_o_s.other W136 (Or.inr (sn_TreeShape_s_blockSize hw))
  have F_o_a := F_o_a.other W136 (Or.inr (sn_TreeShape_a_blockSize hw))
  refine g_aloadN (pc := 139) hK d2_139 rfl ?_
  refine g_iloadN (pc := 140) hK d2_140 rfl ?_
  refine g_put (pc := 141) (ty := .int) hK (w56 hw) (Or.inr ⟨(w57 hw), rfl, rfl⟩) (w8 hw) d2_141 (by assumption) (by assumption) (by assumption) (by decide) rfl rfl (fun h141 W141 => ?_)
  have E_o := E_o.wr W141
  have F_o_capacity := F_o_capacity.other W141 (Or.inr (sn_TreeShape_capacity_z hw))
  have F_o_blockSize := F_o_blockSize.other W141 (Or.inr (sn_TreeShape_blockSize_z hw))
  have F_o_z := F_o_z.same W141
  have F_o_s := F_o_s.other W141 (Or.inr (sn_TreeShape_s_z hw))
  have F_o_a := F_o_a.other W141 (Or.inr (sn_TreeShape_a_z hw))
  refine g_aloadN (pc := 144) hK d2_144 rfl ?_
  refine g_iload (pc := 145) hK d2_145 rfl ?_
  refine g_put (pc := 147) (ty := .int) hK (w58 hw) (Or.inr ⟨(w59 hw), rfl, rfl⟩) (w8 hw) d2_147 (by assumption) (by assumption) (by assumption) (by decide) rfl rfl (fun h147 W147 => ?_)
  have E_o := E_o.wr W147
  have F_o_capacity := F_o_capacity.other W147 (Or.inr (sn_TreeShape_capacity_s hw))
  have F_o_blockSize := F_o_blockSize.other W147 (Or.inr (sn_TreeShape_blockSize_s hw))
  have F_o_z := F_o_z.other W147 (Or.inr (sn_TreeShape_z_s hw))
  have F_o_s := F_o_s.same W147
  have F_o_a := F_o_a.other W147 (Or.inr (sn_TreeShape_a_s hw))
  refine g_aloadN (pc := 150) hK d2_150 rfl ?_
  refine g_iload (pc := 151) hK d2_151 rfl ?_
  refine g_put (pc := 153) (ty := .int) hK (w60 hw) (Or.inr ⟨(w61 hw), rfl, rfl⟩) (w8 hw) d2_153 (by assumption) (by assumption) (by assumption) (by decide) rfl rfl (fun h153 W153 => ?_)
  have E_o := E_o.wr W153
  have F_o_capacity := F_o_capacity.other W153 (Or.inr (sn_TreeShape_capacity_a hw))
  have F_o_blockSize := F_o_blockSize.other W153 (Or.inr (sn_TreeShape_blockSize_a hw))
  have F_o_z := F_o_z.other W153 (Or.inr (sn_TreeShape_z_a hw))
  have F_o_s := F_o_s.other W153 (Or.inr (sn_TreeShape_s_a hw))
  have F_o_a := F_o_a.same W153
  have hk := hk
  rw [← W131.size, ← W136.size, ← W141.size, ← W147.size, ← W153.size] at hk
  exact gW_return (pc := 156) hK hS hk d2_156 rfl ⟨E_o, F_o_capacity, F_o_blockSize, F_o_z, F_o_s, F_o_a⟩
set_option maxRecDepth 65536 in
set_option maxHeartbeats 4000000 in
theorem rmJ (l : Launch) (Z : State) (a0 : Array Value) (hw : ∀ d ∈ tables_1, d.before a0 Z = true) (n0 : Nat) (h : Heap) (x y : Int32) : Con l (⟨"java/lang/Math", "min", "(II)I"⟩ : MethodName) jdk_29_method_69_code 2 (some .int) [] ({ frames := 0, cells := 0, slots := 0, locals := 0 } : Room) Z n0 #[.int x, .int y] h (qI fun z h' => ((x.toInt ≤ y.toInt → z = x) ∧ (y.toInt < x.toInt → z = y)) ∧ h' = h) := by
  refine con_of_go (Ls := [.val (.int x), .val (.int y)]) (Jvm.Free.JP.mathPlain rfl (by decide)) (fun m => by first | (simp [entryFrame, mkF, argsToLocals, Value.category]; done) | rfl) ?_
  intro K hl hK
  subst hl
  change Cx K Z "java/lang/Math" jdk_29_method_69_code 2 (some .int) "min" at hK
  refine g_iloadN (pc := 0) hK d1_0 rfl ?_
  refine g_iloadN (pc := 1) hK d1_1 rfl ?_
  refine g_icmp_gt (pc := 2) (pc' := 9) hK d1_2 (by decide) (fun b2 => ?_) (fun b2 => ?_)
  · refine g_iloadN (pc := 9) hK d1_9 rfl ?_
    exact g_ireturn (pc := 10) hK d1_10 rfl ⟨⟨fun q => absurd q (by omega), fun _ => rfl⟩, rfl⟩
  · refine g_iloadN (pc := 5) hK d1_5 rfl ?_
    refine g_goto (pc := 6) (pc' := 10) hK d1_6 (by decide) ?_
    exact g_ireturn (pc := 10) hK d1_10 rfl ⟨⟨fun _ => rfl, fun q => absurd q (by omega)⟩, rfl⟩
set_option maxRecDepth 65536 in
set_option maxHeartbeats 4000000 in
theorem rmP (l : Launch) (Z : State) (a0 : Array Value) (hw : ∀ d ∈ tables_1, d.before a0 Z = true) (n0 : Nat) (h : Heap) (o : Addr) (c1 c2 c3 c4 c5 : Int32) (hT : own_T Z h o c1 c2 c3 c4 c5) : Con l (⟨"com/example/veilcommit/veilcommit/oram/TreeShape", "plainSlotBytes", "()I"⟩ : MethodName) prog_138_method_8_code 1 (some .int) [] ({ frames := 0, cells := 0, slots := 0, locals := 0 } : Room) Z n0 #[.ref o] h (qI fun z h' => z = 5 + c2 ∧ h' = h) := by
  refine con_of_go (Ls := [.val (.ref o)]) (plainFor_of_name (by first | (simp [plainName, overriddenIn]; done) | decide +kernel)) (fun m => by first | (simp [entryFrame, mkF, argsToLocals, Value.category]; done) | rfl) ?_
  intro K hl hK
  subst hl
  change Cx K Z "com/example/veilcommit/veilcommit/oram/TreeShape" prog_138_method_8_code 1 (some .int) "plainSlotBytes" at hK
  obtain ⟨E_o, F_o_capacity, F_o_blockSize, F_o_z, F_o_s, F_o_a⟩ := hT
  refine g_iconst (pc := 0) (z := (5 : Int32)) hK d10_0 (by decide) ?_
  refine g_aloadN (pc := 1) hK d10_1 rfl ?_
  refine g_get (pc := 2) hK (w54 hw) d10_2 (by assumption) ?_
  refine g_iadd (pc := 5) hK d10_5 ?_
  exact g_ireturn (pc := 6) hK d10_6 rfl ⟨rfl, rfl⟩
set_option maxRecDepth 65536 in
set_option maxHeartbeats 4000000 in
theorem rmK (l : Launch) (Z : State) (a0 : Array Value) (hw : ∀ d ∈ tables_1, d.before a0 Z = true) (n0 : Nat) (h : Heap) (o : Addr) (c1 c2 c3 c4 c5 : Int32) (hT : own_T Z h o c1 c2 c3 c4 c5) : Con l (⟨"com/example/veilcommit/veilcommit/oram/TreeShape", "keptBucketBytes", "()I"⟩ : MethodName) prog_138_method_11_code 1 (some .int) [] ({ frames := 1, cells := 0, slots := 0, locals := 20 } : Room) Z n0 #[.ref o] h (qI fun z h' => z = c3 * (4 + (5 + c2)) + 32 ∧ h' = h) := by
  refine con_of_go (Ls := [.val (.ref o)]) (plainFor_of_name (by first | (simp [plainName, overriddenIn]; done) | decide +kernel)) (fun m => by first | (simp [entryFrame, mkF, argsToLocals, Value.category]; done) | rfl) ?_
  intro K hl hK
  subst hl
  change Cx K Z "com/example/veilcommit/veilcommit/oram/TreeShape" prog_138_method_11_code 1 (some .int) "keptBucketBytes" at hK
  have hT0 := hT
  obtain ⟨E_o, F_o_capacity, F_o_blockSize, F_o_z, F_o_s, F_o_a⟩ := hT
  refine g_aloadN (pc := 0) hK d9_0 rfl ?_
  refine g_get (pc := 1) hK (w56 hw) d9_1 (by assumption) ?_
  refine g_iconst (pc := 4) (z := (4 : Int32)) hK d9_4 (by decide) ?_
  refine g_aloadN (pc := 5) hK d9_5 rfl ?_
  refine g_virtual_0I (pc := 6) hK 4 d9_6 (w69 hw) (w70 hw) (w72 hw) (w71 hw) (w9 hw) (w73 hw) (by decide) E_o (rmP _ Z a0 hw n0 _ o _ _ _ _ _ hT0) pd_5 rfl rfl rfl (fun z6 h6 q6 gr6 => ?_)
  obtain ⟨rfl, rfl⟩ := q6
  refine g_iadd (pc := 9) hK d9_9 ?_
  refine g_imul (pc := 10) hK d9_10 ?_
  refine g_bipush (pc := 11) (z := (32 : Int32)) hK d9_11 (by decide) ?_
  refine g_iadd (pc := 13) hK d9_13 ?_
  exact g_ireturn (pc := 14) hK d9_14 rfl ⟨rfl, rfl⟩
set_option maxRecDepth 65536 in
set_option maxHeartbeats 4000000 in
theorem rm0 (l : Launch) (Z : State) (a0 : Array Value) (hw : ∀ d ∈ tables_1, d.before a0 Z = true) (n0 : Nat) (h : Heap) (Z0 : n0 ≤ h.size) (i0 i1 i2 i3 i4 : Int32) : ConW l x code maxLocals ret tables_1 room_1 Z n0 #[.int i0, .int i1, .int i2, .int i3, .int i4] h (qI fun z _ => z = 1) := by
  refine conW_of_go (Ls := [.val (.int i0), .val (.int i1), .val (.int i2), .val (.int i3), .val (.int i4), .unset, .unset, .unset, .unset, .unset, .unset, .unset, .unset]) (plainFor_of_name (by first | (simp [plainName, overriddenIn]; done) | decide +kernel)) (fun m => by first | (simp [entryFrame, mkF, argsToLocals, Value.category, maxLocals]; done) | rfl) ?_
  intro K hl hK
  subst hl
  have hS : (kS K).Since (kS K).vm 0 := (State.WarmedH.refl _).since 0
  have hk : 0 ≤ h.size := Nat.zero_le _
  change Cx (reK K (kS K).vm) Z "com/example/veilcommit/veilcommit/oram/TreeShapeKeptBucketBytesPinLaw" code 13 (some .boolean) "law" at hK
  refine g_iconst (pc := 0) (z := (1 : Int32)) hK at_0 (by decide) ?_
  refine g_iloadN (pc := 1) hK at_1 rfl ?_
  refine g_ldc (pc := 2) hK (w0 hw) at_2 ?_
  refine g_iand (pc := 4) hK at_4 ?_
  refine g_sipush (pc := 5) (z := (16383 : Int32)) hK at_5 (by decide) ?_
  refine g_irem (pc := 8) hK at_8 (by decide) ?_
  refine g_iadd (pc := 9) hK at_9 ?_
  refine g_istore_5 (pc := 10) hK at_10 rfl ?_
  have m0 := c_mask i0 2147483647 31 (by decide) (by decide)
  have m1 := (c_irem (i0 &&& 2147483647) 16383 16383 rfl).1 (by omega)
  have m2 := c_iadd 1 ((i0 &&& 2147483647) % 16383)
  have m3 := rng32 (1 + (i0 &&& 2147483647) % 16383)
  simp only [Int32.reduceToInt] at m2
  generalize 1 + (i0 &&& 2147483647) % 16383 = z at *
  have hz : 1 ≤ z.toInt ∧ z.toInt ≤ 16383 := by omega
  clear m0 m1 m2 m3
  have m4 := c_isub 16384 z
  have m5 := rng32 (16384 - z)
  simp only [Int32.reduceToInt] at m4
  have ed : (16384 - z).toInt = 16384 - z.toInt := by omega
  refine g_iconst (pc := 12) (z := (1 : Int32)) hK at_12 (by decide) ?_
  refine g_iloadN (pc := 13) hK at_13 rfl ?_
  refine g_ldc (pc := 14) hK (w0 hw) at_14 ?_
  refine g_iand (pc := 16) hK at_16 ?_
  refine g_sipush (pc := 17) (z := (16384 : Int32)) hK at_17 (by decide) ?_
  refine g_iload (pc := 20) hK at_20 rfl ?_
  refine g_isub (pc := 22) hK at_22 ?_
  refine g_irem (pc := 23) hK at_23 (fun q => by rw [q] at ed; simp only [Int32.reduceToInt] at ed; omega) ?_
  refine g_iadd (pc := 24) hK at_24 ?_
  refine g_istore_6 (pc := 25) hK at_25 rfl ?_
  have m0 := c_mask i1 2147483647 31 (by decide) (by decide)
  have m1 := (c_iremV (i1 &&& 2147483647) (16384 - z)).1 (by omega) (by omega)
  have m2 := c_iadd 1 ((i1 &&& 2147483647) % (16384 - z))
  have m3 := rng32 (1 + (i1 &&& 2147483647) % (16384 - z))
  simp only [Int32.reduceToInt] at m2
  generalize 1 + (i1 &&& 2147483647) % (16384 - z) = s at *
  have hs : 1 ≤ s.toInt ∧ z.toInt + s.toInt ≤ 16384 := by omega
  clear m0 m1 m2 m3
  refine g_iconst (pc := 27) (z := (1 : Int32)) hK at_27 (by decide) ?_
  refine g_iloadN (pc := 28) hK at_28 rfl ?_
  refine g_ldc (pc := 29) hK (w1 hw) at_29 ?_
  refine g_iand (pc := 31) hK at_31 ?_
  refine g_iadd (pc := 32) hK at_32 ?_
  refine g_istore_7 (pc := 33) hK at_33 rfl ?_
  have m0 := c_mask i2 65535 16 (by decide) (by decide)
  have m2 := c_iadd 1 (i2 &&& 65535)
  have m3 := rng32 (1 + (i2 &&& 65535))
  simp only [Int32.reduceToInt] at m2
  generalize 1 + (i2 &&& 65535) = bs at *
  have hbs : 1 ≤ bs.toInt ∧ bs.toInt ≤ 65536 := by omega
  clear m0 m2 m3
  refine g_iconst (pc := 35) (z := (1 : Int32)) hK at_35 (by decide) ?_
  refine g_iloadN (pc := 36) hK at_36 rfl ?_
  refine g_ldc (pc := 37) hK (w2 hw) at_37 ?_
  refine g_iand (pc := 39) hK at_39 ?_
  refine g_iadd (pc := 40) hK at_40 ?_
  refine g_istore_8 (pc := 41) hK at_41 rfl ?_
  have m0 := c_mask i3 16777215 24 (by decide) (by decide)
  have m2 := c_iadd 1 (i3 &&& 16777215)
  have m3 := rng32 (1 + (i3 &&& 16777215))
  simp only [Int32.reduceToInt] at m2
  generalize 1 + (i3 &&& 16777215) = a at *
  have ha : 1 ≤ a.toInt ∧ a.toInt ≤ 16777216 := by omega
  clear m0 m2 m3
  refine g_iconst (pc := 43) (z := (1 : Int32)) hK at_43 (by decide) ?_
  refine g_iload (pc := 44) hK at_44 rfl ?_
  refine g_ldc (pc := 46) hK (w0 hw) at_46 ?_
  refine g_iand (pc := 48) hK at_48 ?_
  refine g_iload (pc := 49) hK at_49 rfl ?_
  refine g_sipush (pc := 51) (z := (16000 : Int32)) hK at_51 (by decide) ?_
  refine g_static_2I (pc := 54) hK 8 at_54 (w3 hw) (w4 hw) (w5 hw) (w6 hw) (by decide) (rmJ _ Z a0 hw n0 _ _ _) pd_3 rfl rfl rfl (fun z54 h54 q54 gr54 => ?_)
  obtain ⟨⟨p1, p2⟩, rfl⟩ := q54
  have hm : 1 ≤ z54.toInt ∧ z54.toInt ≤ z.toInt ∧ z54.toInt ≤ 16000 := by
    simp only [Int32.reduceToInt] at p1 p2
    by_cases q : z.toInt ≤ 16000
    · rw [p1 q]; omega
    · rw [p2 (by omega)]; simp only [Int32.reduceToInt]; omega
  refine g_irem (pc := 57) hK at_57 (fun q => by rw [q] at hm; exact absurd hm.1 (by decide)) ?_
  refine g_iadd (pc := 58) hK at_58 ?_
  refine g_istore_9 (pc := 59) hK at_59 rfl ?_
  have m0 := c_mask i4 2147483647 31 (by decide) (by decide)
  have m1 := (c_iremV (i4 &&& 2147483647) z54).1 (by omega) (by omega)
  have m2 := c_iadd 1 ((i4 &&& 2147483647) % z54)
  have m3 := rng32 (1 + (i4 &&& 2147483647) % z54)
  simp only [Int32.reduceToInt] at m2
  generalize 1 + (i4 &&& 2147483647) % z54 = cap at *
  have hcap : 1 ≤ cap.toInt ∧ cap.toInt ≤ z.toInt ∧ cap.toInt ≤ 16000 := by omega
  clear m0 m1 m2 m3
  have n1 := c_iadd cap z
  have n2 := rng32 (cap + z)
  have n3 := c_isub (cap + z) 1
  have n4 := rng32 (cap + z - 1)
  simp only [Int32.reduceToInt] at n3
  have zne : z ≠ 0 := fun q => by rw [q] at hz; exact absurd hz (by decide)
  have n5 := (c_idiv (cap + z - 1) z z.toInt rfl (fun q => by rw [q] at hz; exact absurd hz (by decide))).1 (by omega)
  have n6 : (cap + z - 1) / z = 1 := Int32.toInt_inj.mp (by
    have a1 : 1 ≤ (cap + z - 1).toInt / z.toInt := Int.le_ediv_of_mul_le (by omega) (by omega)
    have a2 : (cap + z - 1).toInt / z.toInt < 2 := Int.ediv_lt_of_lt_mul (by omega) (by omega)
    simp only [Int32.reduceToInt]; omega)
  refine g_new (pc := 61) hK (w7 hw) (w8 hw) (w9 hw) at_61 rfl (fun h61 o61 ea61 X61 E61 D61 => ?_)
  have F61_capacity : Fld Z h61 o61 "com/example/veilcommit/veilcommit/oram/TreeShape" "capacity" "I" (.int 0) := D61 (Or.inr (w53 hw)) (ty := .int) (by decide)
  have F61_blockSize : Fld Z h61 o61 "com/example/veilcommit/veilcommit/oram/TreeShape" "blockSize" "I" (.int 0) := D61 (Or.inr (w55 hw)) (ty := .int) (by decide)
  have F61_z : Fld Z h61 o61 "com/example/veilcommit/veilcommit/oram/TreeShape" "z" "I" (.int 0) := D61 (Or.inr (w57 hw)) (ty := .int) (by decide)
  have F61_s : Fld Z h61 o61 "com/example/veilcommit/veilcommit/oram/TreeShape" "s" "I" (.int 0) := D61 (Or.inr (w59 hw)) (ty := .int) (by decide)
  have F61_a : Fld Z h61 o61 "com/example/veilcommit/veilcommit/oram/TreeShape" "a" "I" (.int 0) := D61 (Or.inr (w61 hw)) (ty := .int) (by decide)
  have hT : own_T Z h61 o61 0 0 0 0 0 := ⟨E61, F61_capacity, F61_blockSize, F61_z, F61_s, F61_a⟩
  have go : n0 ≤ o61 := ea61 ▸ Z0
  have hk : 0 ≤ h61.size := Nat.zero_le _
  refine g_dup (pc := 64) hK at_64 rfl ?_
  refine g_iload (pc := 65) hK at_65 rfl ?_
  refine g_iload (pc := 67) hK at_67 rfl ?_
  refine g_iload (pc := 69) hK at_69 rfl ?_
  refine g_iload (pc := 71) hK at_71 rfl ?_
  refine g_iload (pc := 73) hK at_73 rfl ?_
  refine gW_special_5V (pc := 75) hK hS hk 4 at_75 rfl (w10 hw) (w11 hw) (w9 hw) (w12 hw) (by decide) (rmN _ Z a0 hw n0 _ _ go _ _ _ _ _ _ _ _ _ _ ⟨hcap.1, hcap.2.2⟩ hbs hz hs ha zne n6 hT) pd_6 rfl rfl rfl (fun h75 vm75 q75 hK hS gr75 => ?_)
  have hk := Nat.le_refl h75.size
  have hT := q75
  refine g_astore_10 (pc := 78) hK at_78 rfl ?_
  refine g_ldc2 (pc := 80) hK (w62 hw) at_80 ?_
  refine g_iload (pc := 83) hK at_83 rfl ?_
  refine g_i2l (pc := 85) hK at_85 ?_
  refine g_lmul (pc := 86) hK at_86 ?_
  refine g_iload (pc := 87) hK at_87 rfl ?_
  refine g_i2l (pc := 89) hK at_89 ?_
  refine g_iload (pc := 90) hK at_90 rfl ?_
  refine g_i2l (pc := 92) hK at_92 ?_
  refine g_lmul (pc := 93) hK at_93 ?_
  refine g_ladd (pc := 94) hK at_94 ?_
  refine g_ldc2 (pc := 95) hK (w63 hw) at_95 ?_
  refine g_ladd (pc := 98) hK at_98 ?_
  refine g_lstore_11 (pc := 99) hK at_99 rfl ?_
  refine g_aload (pc := 101) hK at_101 rfl ?_
  refine g_virtual_0I (pc := 103) hK 4 at_103 (w64 hw) (w65 hw) (w67 hw) (w66 hw) (w9 hw) (w68 hw) (by decide) hT.1 (rmK _ Z a0 hw n0 _ _ _ _ _ _ _ hT) pd_5 rfl rfl rfl (fun z103 h103 q103 gr103 => ?_)
  obtain ⟨rfl, rfl⟩ := q103
  have b1 := c_iadd 5 bs
  have b2 := rng32 (5 + bs)
  have b3 := c_iadd 4 (5 + bs)
  have b4 := rng32 (4 + (5 + bs))
  simp only [Int32.reduceToInt] at b1 b3
  have eb : (4 + (5 + bs)).toInt = 9 + bs.toInt := by omega
  have b5 := c_imul z (4 + (5 + bs))
  have b6 := rng32 (z * (4 + (5 + bs)))
  have b7 := c_iadd (z * (4 + (5 + bs))) 32
  have b8 := rng32 (z * (4 + (5 + bs)) + 32)
  simp only [Int32.reduceToInt] at b7
  have bm := mc (a := z.toInt) (b := bs.toInt) (l1 := 0) (h1 := 16383) (l2 := 0) (h2 := 65536) (by omega) (by omega) (by omega) (by omega)
  rw [eb, Int.mul_add, Int.mul_comm z.toInt 9] at b5
  have d1 := c_i2l z
  have d2 := c_i2l bs
  have d3 := c_lmul 9 z.toInt64
  have d4 := rng64 (9 * z.toInt64)
  have d5 := c_lmul z.toInt64 bs.toInt64
  have d6 := rng64 (z.toInt64 * bs.toInt64)
  have d7 := c_ladd (9 * z.toInt64) (z.toInt64 * bs.toInt64)
  have d8 := rng64 (9 * z.toInt64 + z.toInt64 * bs.toInt64)
  have d9 := c_ladd (9 * z.toInt64 + z.toInt64 * bs.toInt64) 32
  have da := rng64 (9 * z.toInt64 + z.toInt64 * bs.toInt64 + 32)
  have db := c_i2l (z * (4 + (5 + bs)) + 32)
  simp only [Int64.reduceToInt] at d3 d9
  rw [d1, d2] at d5
  generalize z.toInt * bs.toInt = M at *
  have f1 : (z * (4 + (5 + bs))).toInt = 9 * z.toInt + M := by omega
  have f2 : (z * (4 + (5 + bs)) + 32).toInt = 9 * z.toInt + M + 32 := by omega
  have g1 : (9 * z.toInt64).toInt = 9 * z.toInt := by omega
  have g2 : (z.toInt64 * bs.toInt64).toInt = M := by omega
  have g3 : (9 * z.toInt64 + z.toInt64 * bs.toInt64).toInt = 9 * z.toInt + M := by omega
  have g4 : (9 * z.toInt64 + z.toInt64 * bs.toInt64 + 32).toInt = 9 * z.toInt + M + 32 := by omega
  refine g_i2l (pc := 106) hK at_106 ?_
  refine g_lload (pc := 107) hK at_107 rfl ?_
  refine gN_lif_ne (pc := 109) hK at_109 at_110 (Int64.toInt_inj.mp (by rw [db, f2, g4])) ?_
  refine g_iconst (pc := 113) (z := (1 : Int32)) hK at_113 (by decide) ?_
  refine g_goto (pc := 114) (pc' := 118) hK at_114 (by decide) ?_
  exact gW_zreturn (pc := 118) hK hS hk at_118 (by first | rfl | decide) rfl rfl
set_option maxRecDepth 65536 in
set_option maxHeartbeats 40000000 in
theorem comes_1 {Post : Tables → Env → Array Value → State → Outcome → State → Prop} (hpost : ∀ tb e args s v u, (limb_1_1.after args s (.returned v) u = true ∧ limb_1_2.after args s (.returned v) u = true ∧ True) → ReturnedEndW s (.returned v) u (Jvm.fieldLocs frame_1_writes args s ++ Jvm.arrayLocs frame_1_arrays args s ++ Jvm.staticLocs frame_1_statics s) 24 6272 → Post tb e args s (.returned v) u) :
    ArmFor flags0 classFile x code maxLocals ret World_1 tables_1 room_1 Calls_1 rest_1 Pre_1 Post := by
  intro l hfl _ _ p e ha hc hk s m args below hf hA hF happ hP
  obtain ⟨hcalls, hrest, hpre⟩ := hP
  obtain ⟨-, -, -, hnamed, -, -, -, hat⟩ := (Spec.applies_iff hf).mp happ
  obtain ⟨hg, hn⟩ := and_e (Cond.before_iff.mp (show (Jvm.Cond.and given_1 narrow_1).before args s = true from hpre))
  obtain ⟨gc, g0⟩ := and_e hg
  obtain ⟨u0, g1⟩ := and_e g0
  obtain ⟨u1, g2⟩ := and_e g1
  obtain ⟨u2, g3⟩ := and_e g2
  obtain ⟨u3, g4⟩ := and_e g3
  obtain ⟨v0, v1, v2, v3, v4, rfl⟩ : ∃ v0 v1 v2 v3 v4 : Value, args = #[v0, v1, v2, v3, v4] := by
    have hs : args.size = 5 := by simpa [Cond.value, given_1] using gc
    obtain ⟨L⟩ := args
    match L, hs with
    | [v0, v1, v2, v3, v4], _ => exact ⟨v0, v1, v2, v3, v4, rfl⟩
  have hw := fun d (hd : d ∈ tables_1) => atoms_spec (ws := Jvm.Cond.code x code maxLocals ret :: tables_1) hat d (List.mem_cons_of_mem _ hd)
  obtain ⟨i0, ei0⟩ := is_v u0
  obtain rfl : v0 = (.int i0) := Option.some.inj ei0
  obtain ⟨i1, ei1⟩ := is_v u1
  obtain rfl : v1 = (.int i1) := Option.some.inj ei1
  obtain ⟨i2, ei2⟩ := is_v u2
  obtain rfl : v2 = (.int i2) := Option.some.inj ei2
  obtain ⟨i3, ei3⟩ := is_v u3
  obtain rfl : v3 = (.int i3) := Option.some.inj ei3
  obtain ⟨i4, ei4⟩ := is_v g4
  obtain rfl : v4 = (.int i4) := Option.some.inj ei4
  obtain ⟨n, o, h1, h2, h3, _, L, rfl, ⟨⟨_, rfl, rfl⟩, N⟩, hq⟩ := rm0 l s _ hw s.heap.size s.heap (Nat.le_refl _) i0 i1 i2 i3 i4 p e ha hc hk s m _ below hf ((Spec.applies_iff_loose hf).mp happ).1 ⟨rfl, State.Warmed39.refl s, rfl⟩ trivial
  refine ⟨n, _, h1, h2, h3, hpost _ _ _ _ _ _ ⟨Cond.after_iff.mpr rfl, Cond.after_iff.mpr (eq_i res_at (Term.int_eval (1)) rfl), trivial⟩ ⟨hq.1, hq.2.1, hq.2.2.1, (hq.2.2.2.sift fun y hy => Or.inr (N y hy)).mono (by decide) (by decide)⟩⟩
theorem main_1_1 : Claimed_1_1 := comes_1 fun _ _ _ _ _ _ h hF => ⟨h.1, hF⟩
theorem main_1_2 : Claimed_1_2 := comes_1 fun _ _ _ _ _ _ h hF => ⟨h.2.1, hF⟩
end Jvm.Pilot.@@N@@
namespace Jvm.Pilot.@@N@@
open Jvm Jvm.ClassFile Sem Op Lib Jvm.Free Jvm.Stand Jvm.Pilot.@@N@@.Jvm.D
/-! MADE BY PROGRAM (witnessworld.py) out of the Statement's table words and the real class files: 16 classes; the members and pool entries that the words name. The judged class is class 1, her method 1. -/
namespace start1
open Jvm.ClassFile
def u (s : String) : CpInfo := .utf8 (stringToUtf16 s)
/-- a pool by its gaps: so many unusable entries, then the entry; so many at the end -/
def gap : Nat → List CpInfo → List CpInfo
  | 0, r => r
  | n + 1, r => .unusable :: gap n r
def poolList (es : List (Nat × CpInfo)) (last : Nat) : List CpInfo := es.foldr (fun e r => gap e.1 (e.2 :: r)) (gap last [])
def pool (es : List (Nat × CpInfo)) (last : Nat) : Array CpInfo := ⟨poolList es last⟩
def fileOf (pool : Array CpInfo) (this : Nat) (attrs : Array Attribute := #[]) (ms : Array MethodInfo := #[]) (fl : Nat := 33) (sup : Nat := 0) (ifs : Array Nat := #[]) (fds : Array FieldInfo := #[]) : ClassFile where
  minorVersion := 0
  majorVersion := 65
  constantPool := pool
  accessFlags := fl
  thisClass := this
  superClass := sup
  interfaces := ifs
  fields := fds
  methods := ms
  attributes := attrs
def plain (name : String) (sup : Option ClassId) : Class where
  name := name
  kind := .ordinary
  loader := none
  accessFlags := 33
  super := sup
  interfaces := #[]
  cf := none
  fields := #[]
  methods := #[]
  instanceTypes := #[]
  staticTypes := #[]
  resolved := #[]
  callSites := []
  init := .initialized
  statics := none
  mirror := none

def pool0 : Array CpInfo := pool [(5, u "<init>"), (0, u "()V"), (1, .class_ 10), (1, u "java/lang/Object")] 113

def k0c0 : Code := { maxStack := 0, maxLocals := 1, code := object_method_1_code, exceptionTable := #[], attributes := #[] }
def k0m0 : Method := { name := "<init>", desc := "()V", sig := { parameters := [], returnType := none }, accessFlags := 1, code := some k0c0 }
/-- java/lang/Object -/
def k0 : Class := { plain "java/lang/Object" none with
  accessFlags := 33
  interfaces := #[]
  cf := some (fileOf pool0 8 #[] #[{ accessFlags := 1, nameIndex := 5, descriptorIndex := 6, attributes := #[] }] 33 0 #[] #[])
  fields := #[]
  methods := #[k0m0]
  instanceTypes := #[]
  staticTypes := #[]
  resolved := Array.replicate 124 none
  statics := none }

def pool1 : Array CpInfo := pool [(2, .class_ 4), (1, u "java/lang/Object"), (0, u "<init>"), (0, u "()V"), (0, .integer 2147483647), (0, .integer 65535), (0, .integer 16777215), (0, .methodref 11 12), (0, .class_ 13), (0, .nameAndType 14 15), (0, u "java/lang/Math"), (0, u "min"), (0, u "(II)I"), (0, .class_ 17), (0, u "com/example/veilcommit/veilcommit/oram/TreeShape"), (0, .methodref 16 19), (0, .nameAndType 5 20), (0, u "(IIIII)V"), (0, .long 9), (1, .long 32), (1, .methodref 16 26), (0, .nameAndType 27 28), (0, u "keptBucketBytes"), (0, u "()I"), (0, .class_ 30), (0, u "com/example/veilcommit/veilcommit/oram/TreeShapeKeptBucketBytesPinLaw"), (2, u "law"), (0, u "(IIIII)Z")] 3

def k1m0 : Method := { name := "<init>", desc := "()V", sig := { parameters := [], returnType := none }, accessFlags := 2, code := none }
def k1c1 : Code := { maxStack := 7, maxLocals := 13, code := code, exceptionTable := #[], attributes := #[] }
def k1m1 : Method := { name := "law", desc := "(IIIII)Z", sig := { parameters := [.int, .int, .int, .int, .int], returnType := some .boolean }, accessFlags := 9, code := some k1c1 }
/-- com/example/veilcommit/veilcommit/oram/TreeShapeKeptBucketBytesPinLaw -/
def k1 : Class := { plain "com/example/veilcommit/veilcommit/oram/TreeShapeKeptBucketBytesPinLaw" (some 0) with
  accessFlags := 49
  interfaces := #[]
  cf := some (fileOf pool1 29 #[] #[{ accessFlags := 2, nameIndex := 5, descriptorIndex := 6, attributes := #[] }, { accessFlags := 9, nameIndex := 33, descriptorIndex := 34, attributes := #[] }] 49 2 #[] #[])
  fields := #[]
  methods := #[k1m0, k1m1]
  instanceTypes := #[]
  staticTypes := #[]
  resolved := Array.replicate 38 none
  statics := none }

def pool2 : Array CpInfo := pool [(1, .class_ 2), (0, u "java/lang/Math"), (1, .class_ 6), (1, u "java/lang/Object"), (0, u "<init>"), (0, u "()V"), (89, .class_ 100), (1, u "java/lang/Math$RandomNumberGeneratorHolder"), (20, u "(JJ)J"), (50, u "negativeZeroFloatBits"), (0, u "J"), (2, u "negativeZeroDoubleBits"), (24, u "min"), (43, u "$assertionsDisabled"), (0, u "Z"), (88, u "(II)I"), (2, u "twoToTheDoubleScaleDown"), (0, u "D"), (4, u "twoToTheDoubleScaleUp"), (9, u "E"), (3, u "PI"), (2, u "TAU"), (2, u "DEGREES_TO_RADIANS"), (0, u "RADIANS_TO_DEGREES")] 94

def k2m0 : Method := { name := "<init>", desc := "()V", sig := { parameters := [], returnType := none }, accessFlags := 2, code := none }
def k2c1 : Code := { maxStack := 2, maxLocals := 2, code := jdk_29_method_69_code, exceptionTable := #[], attributes := #[] }
def k2m1 : Method := { name := "min", desc := "(II)I", sig := { parameters := [.int, .int], returnType := some .int }, accessFlags := 9, code := some k2c1 }
def k2c2 : Code := { maxStack := 4, maxLocals := 4, code := jdk_29_method_70_code, exceptionTable := #[], attributes := #[] }
def k2m2 : Method := { name := "min", desc := "(JJ)J", sig := { parameters := [.long, .long], returnType := some .long }, accessFlags := 9, code := some k2c2 }
/-- java/lang/Math -/
def k2 : Class := { plain "java/lang/Math" (some 0) with
  accessFlags := 49
  interfaces := #[]
  cf := some (fileOf pool2 1 #[.nestMembers #[98]] #[{ accessFlags := 2, nameIndex := 7, descriptorIndex := 8, attributes := #[] }, { accessFlags := 9, nameIndex := 201, descriptorIndex := 335, attributes := #[] }, { accessFlags := 9, nameIndex := 201, descriptorIndex := 121, attributes := #[] }] 49 4 #[] #[{ accessFlags := 25, nameIndex := 354, descriptorIndex := 339, attributes := #[] }, { accessFlags := 25, nameIndex := 358, descriptorIndex := 339, attributes := #[] }, { accessFlags := 25, nameIndex := 361, descriptorIndex := 339, attributes := #[] }, { accessFlags := 26, nameIndex := 364, descriptorIndex := 339, attributes := #[] }, { accessFlags := 26, nameIndex := 365, descriptorIndex := 339, attributes := #[] }, { accessFlags := 26, nameIndex := 172, descriptorIndex := 173, attributes := #[] }, { accessFlags := 26, nameIndex := 176, descriptorIndex := 173, attributes := #[] }, { accessFlags := 8, nameIndex := 344, descriptorIndex := 339, attributes := #[] }, { accessFlags := 8, nameIndex := 338, descriptorIndex := 339, attributes := #[] }, { accessFlags := 4120, nameIndex := 245, descriptorIndex := 246, attributes := #[] }])
  fields := #[{ name := "E", type := .double, accessFlags := 25, slot := 0, constantValue := 0 }, { name := "PI", type := .double, accessFlags := 25, slot := 1, constantValue := 0 }, { name := "TAU", type := .double, accessFlags := 25, slot := 2, constantValue := 0 }, { name := "DEGREES_TO_RADIANS", type := .double, accessFlags := 26, slot := 3, constantValue := 0 }, { name := "RADIANS_TO_DEGREES", type := .double, accessFlags := 26, slot := 4, constantValue := 0 }, { name := "negativeZeroFloatBits", type := .long, accessFlags := 26, slot := 5, constantValue := 0 }, { name := "negativeZeroDoubleBits", type := .long, accessFlags := 26, slot := 6, constantValue := 0 }, { name := "twoToTheDoubleScaleUp", type := .double, accessFlags := 8, slot := 7, constantValue := 0 }, { name := "twoToTheDoubleScaleDown", type := .double, accessFlags := 8, slot := 8, constantValue := 0 }, { name := "$assertionsDisabled", type := .boolean, accessFlags := 4120, slot := 9, constantValue := 0 }]
  methods := #[k2m0, k2m1, k2m2]
  instanceTypes := #[]
  staticTypes := #[.double, .double, .double, .double, .double, .long, .long, .double, .double, .boolean]
  resolved := Array.replicate 460 none
  statics := none }

def pool3 : Array CpInfo := pool [(1, .methodref 2 3), (0, .class_ 4), (0, .nameAndType 5 6), (0, u "java/lang/Object"), (0, u "<init>"), (0, u "()V"), (0, .class_ 8), (0, u "java/lang/Record")] 13

def k3c0 : Code := { maxStack := 1, maxLocals := 1, code := jdk_30_method_1_code, exceptionTable := #[], attributes := #[] }
def k3m0 : Method := { name := "<init>", desc := "()V", sig := { parameters := [], returnType := none }, accessFlags := 4, code := some k3c0 }
/-- java/lang/Record -/
def k3 : Class := { plain "java/lang/Record" (some 0) with
  accessFlags := 1057
  interfaces := #[]
  cf := some (fileOf pool3 7 #[] #[{ accessFlags := 4, nameIndex := 5, descriptorIndex := 6, attributes := #[] }] 1057 2 #[] #[])
  fields := #[]
  methods := #[k3m0]
  instanceTypes := #[]
  staticTypes := #[]
  resolved := Array.replicate 22 none
  statics := none }

def pool4 : Array CpInfo := pool [(1, .methodref 2 3), (0, .class_ 4), (0, .nameAndType 5 6), (0, u "java/lang/Record"), (0, u "<init>"), (0, u "()V"), (0, .string 8), (0, u "capacity"), (0, .class_ 10), (0, u "com/example/veilcommit/veilcommit/oram/TreeShape"), (0, .integer 16777216), (0, .methodref 9 13), (0, .nameAndType 14 15), (0, u "requireRange"), (0, u "(Ljava/lang/String;III)V"), (0, .string 17), (0, u "block size"), (0, .integer 65536), (0, .string 20), (0, u "z"), (0, .string 22), (0, u "s"), (0, .string 24), (0, u "a"), (0, .string 26), (0, u "z + s"), (0, .long 2), (1, .methodref 9 30), (0, .nameAndType 31 32), (0, u "leaves"), (0, u "(II)I"), (0, .long 134217728), (8, .methodref 9 43), (0, .nameAndType 44 45), (0, u "stashCapacity"), (0, u "(II)J"), (0, .long 1073741824), (3, .fieldref 9 51), (0, .nameAndType 8 52), (0, u "I"), (0, .fieldref 9 54), (0, .nameAndType 55 52), (0, u "blockSize"), (0, .fieldref 9 57), (0, .nameAndType 20 52), (0, .fieldref 9 59), (0, .nameAndType 22 52), (0, .fieldref 9 61), (0, .nameAndType 24 52), (8, u "()I"), (7, .class_ 80), (1, u "java/lang/Math"), (0, u "min"), (0, .methodref 9 83), (0, .nameAndType 84 70), (0, u "plainSlotBytes"), (8, .long 256), (1, .methodref 78 96), (0, .nameAndType 81 97), (0, u "(JJ)J"), (82, u "DEFAULT_Z"), (2, u "DEFAULT_S"), (1, u "DEFAULT_A"), (1, u "MAX_KEY_BYTES"), (1, u "STASH_SLACK"), (1, u "MAX_BLOCK_SIZE"), (0, u "MAX_CAPACITY"), (0, u "MAX_SLOTS"), (1, u "MAX_TREE_SLOTS"), (0, u "J"), (0, u "MAX_STASH_BYTES"), (0, u "BLOCK_HEADER_BYTES"), (1, u "KEPT_LEVELS"), (1, u "(IIIII)V"), (7, u "keptBucketBytes")] 47

def k4c0 : Code := { maxStack := 4, maxLocals := 6, code := prog_138_method_1_code, exceptionTable := #[], attributes := #[] }
def k4m0 : Method := { name := "<init>", desc := "(IIIII)V", sig := { parameters := [.int, .int, .int, .int, .int], returnType := none }, accessFlags := 1, code := some k4c0 }
def k4c1 : Code := { maxStack := 2, maxLocals := 3, code := prog_138_method_3_code, exceptionTable := #[], attributes := #[] }
def k4m1 : Method := { name := "leaves", desc := "(II)I", sig := { parameters := [.int, .int], returnType := some .int }, accessFlags := 10, code := some k4c1 }
def k4c2 : Code := { maxStack := 2, maxLocals := 1, code := prog_138_method_8_code, exceptionTable := #[], attributes := #[] }
def k4m2 : Method := { name := "plainSlotBytes", desc := "()I", sig := { parameters := [], returnType := some .int }, accessFlags := 0, code := some k4c2 }
def k4c3 : Code := { maxStack := 3, maxLocals := 1, code := prog_138_method_11_code, exceptionTable := #[], attributes := #[] }
def k4m3 : Method := { name := "keptBucketBytes", desc := "()I", sig := { parameters := [], returnType := some .int }, accessFlags := 0, code := some k4c3 }
def k4c4 : Code := { maxStack := 6, maxLocals := 2, code := prog_138_method_14_code, exceptionTable := #[], attributes := #[] }
def k4m4 : Method := { name := "stashCapacity", desc := "(II)J", sig := { parameters := [.int, .int], returnType := some .long }, accessFlags := 10, code := some k4c4 }
def k4c5 : Code := { maxStack := 6, maxLocals := 4, code := prog_138_method_21_code, exceptionTable := #[], attributes := #[] }
def k4m5 : Method := { name := "requireRange", desc := "(Ljava/lang/String;III)V", sig := { parameters := [(.object "java/lang/String"), .int, .int, .int], returnType := none }, accessFlags := 10, code := some k4c5 }
/-- com/example/veilcommit/veilcommit/oram/TreeShape -/
def k4 : Class := { plain "com/example/veilcommit/veilcommit/oram/TreeShape" (some 3) with
  accessFlags := 49
  interfaces := #[]
  cf := some (fileOf pool4 9 #[] #[{ accessFlags := 1, nameIndex := 5, descriptorIndex := 202, attributes := #[] }, { accessFlags := 10, nameIndex := 31, descriptorIndex := 32, attributes := #[] }, { accessFlags := 0, nameIndex := 84, descriptorIndex := 70, attributes := #[] }, { accessFlags := 0, nameIndex := 210, descriptorIndex := 70, attributes := #[] }, { accessFlags := 10, nameIndex := 44, descriptorIndex := 45, attributes := #[] }, { accessFlags := 10, nameIndex := 14, descriptorIndex := 15, attributes := #[] }] 49 2 #[] #[{ accessFlags := 18, nameIndex := 8, descriptorIndex := 52, attributes := #[] }, { accessFlags := 18, nameIndex := 55, descriptorIndex := 52, attributes := #[] }, { accessFlags := 18, nameIndex := 20, descriptorIndex := 52, attributes := #[] }, { accessFlags := 18, nameIndex := 22, descriptorIndex := 52, attributes := #[] }, { accessFlags := 18, nameIndex := 24, descriptorIndex := 52, attributes := #[] }, { accessFlags := 25, nameIndex := 180, descriptorIndex := 52, attributes := #[] }, { accessFlags := 25, nameIndex := 183, descriptorIndex := 52, attributes := #[] }, { accessFlags := 25, nameIndex := 185, descriptorIndex := 52, attributes := #[] }, { accessFlags := 25, nameIndex := 187, descriptorIndex := 52, attributes := #[] }, { accessFlags := 25, nameIndex := 189, descriptorIndex := 52, attributes := #[] }, { accessFlags := 25, nameIndex := 191, descriptorIndex := 52, attributes := #[] }, { accessFlags := 26, nameIndex := 192, descriptorIndex := 52, attributes := #[] }, { accessFlags := 26, nameIndex := 193, descriptorIndex := 52, attributes := #[] }, { accessFlags := 26, nameIndex := 195, descriptorIndex := 196, attributes := #[] }, { accessFlags := 26, nameIndex := 197, descriptorIndex := 196, attributes := #[] }, { accessFlags := 26, nameIndex := 198, descriptorIndex := 52, attributes := #[] }, { accessFlags := 26, nameIndex := 200, descriptorIndex := 52, attributes := #[] }])
  fields := #[{ name := "capacity", type := .int, accessFlags := 18, slot := 0, constantValue := 0 }, { name := "blockSize", type := .int, accessFlags := 18, slot := 1, constantValue := 0 }, { name := "z", type := .int, accessFlags := 18, slot := 2, constantValue := 0 }, { name := "s", type := .int, accessFlags := 18, slot := 3, constantValue := 0 }, { name := "a", type := .int, accessFlags := 18, slot := 4, constantValue := 0 }, { name := "DEFAULT_Z", type := .int, accessFlags := 25, slot := 0, constantValue := 0 }, { name := "DEFAULT_S", type := .int, accessFlags := 25, slot := 1, constantValue := 0 }, { name := "DEFAULT_A", type := .int, accessFlags := 25, slot := 2, constantValue := 0 }, { name := "MAX_KEY_BYTES", type := .int, accessFlags := 25, slot := 3, constantValue := 0 }, { name := "STASH_SLACK", type := .int, accessFlags := 25, slot := 4, constantValue := 0 }, { name := "MAX_BLOCK_SIZE", type := .int, accessFlags := 25, slot := 5, constantValue := 0 }, { name := "MAX_CAPACITY", type := .int, accessFlags := 26, slot := 6, constantValue := 0 }, { name := "MAX_SLOTS", type := .int, accessFlags := 26, slot := 7, constantValue := 0 }, { name := "MAX_TREE_SLOTS", type := .long, accessFlags := 26, slot := 8, constantValue := 0 }, { name := "MAX_STASH_BYTES", type := .long, accessFlags := 26, slot := 9, constantValue := 0 }, { name := "BLOCK_HEADER_BYTES", type := .int, accessFlags := 26, slot := 10, constantValue := 0 }, { name := "KEPT_LEVELS", type := .int, accessFlags := 26, slot := 11, constantValue := 0 }]
  methods := #[k4m0, k4m1, k4m2, k4m3, k4m4, k4m5]
  instanceTypes := #[.int, .int, .int, .int, .int]
  staticTypes := #[.int, .int, .int, .int, .int, .int, .int, .int, .long, .long, .int, .int]
  resolved := Array.replicate 258 none
  statics := none }

def pool5 : Array CpInfo := pool [(1, .class_ 2), (0, u "java/io/Serializable"), (0, .class_ 4), (0, u "java/lang/Object")] 2

/-- java/io/Serializable -/
def k5 : Class := { plain "java/io/Serializable" (some 0) with
  accessFlags := 1537
  interfaces := #[]
  cf := some (fileOf pool5 1 #[] #[] 1537 3 #[] #[])
  fields := #[]
  methods := #[]
  instanceTypes := #[]
  staticTypes := #[]
  resolved := Array.replicate 7 none
  statics := none }

def pool6 : Array CpInfo := pool [(1, .class_ 2), (0, u "java/lang/Comparable"), (0, .class_ 4), (0, u "java/lang/Object")] 7

/-- java/lang/Comparable -/
def k6 : Class := { plain "java/lang/Comparable" (some 0) with
  accessFlags := 1537
  interfaces := #[]
  cf := some (fileOf pool6 1 #[] #[] 1537 3 #[] #[])
  fields := #[]
  methods := #[]
  instanceTypes := #[]
  staticTypes := #[]
  resolved := Array.replicate 12 none
  statics := none }

def pool7 : Array CpInfo := pool [(2, .class_ 4), (1, u "java/lang/CharSequence"), (42, .class_ 48), (0, u "java/lang/CharSequence$1CodePointIterator"), (10, .class_ 60), (0, u "java/lang/CharSequence$1CharIterator"), (5, .class_ 67), (0, u "java/lang/Object")] 63

/-- java/lang/CharSequence -/
def k7 : Class := { plain "java/lang/CharSequence" (some 0) with
  accessFlags := 1537
  interfaces := #[]
  cf := some (fileOf pool7 2 #[.nestMembers #[47, 59]] #[] 1537 66 #[] #[])
  fields := #[]
  methods := #[]
  instanceTypes := #[]
  staticTypes := #[]
  resolved := Array.replicate 131 none
  statics := none }

def pool8 : Array CpInfo := pool [(1, .class_ 2), (0, u "java/lang/constant/Constable"), (0, .class_ 4), (0, u "java/lang/Object")] 6

/-- java/lang/constant/Constable -/
def k8 : Class := { plain "java/lang/constant/Constable" (some 0) with
  accessFlags := 1537
  interfaces := #[]
  cf := some (fileOf pool8 1 #[] #[] 1537 3 #[] #[])
  fields := #[]
  methods := #[]
  instanceTypes := #[]
  staticTypes := #[]
  resolved := Array.replicate 11 none
  statics := none }

def pool9 : Array CpInfo := pool [(1, .class_ 2), (0, u "java/lang/constant/ConstantDesc"), (0, .class_ 4), (0, u "java/lang/Object")] 32

/-- java/lang/constant/ConstantDesc -/
def k9 : Class := { plain "java/lang/constant/ConstantDesc" (some 0) with
  accessFlags := 1537
  interfaces := #[]
  cf := some (fileOf pool9 1 #[] #[] 1537 3 #[] #[])
  fields := #[]
  methods := #[]
  instanceTypes := #[]
  staticTypes := #[]
  resolved := Array.replicate 37 none
  statics := none }

def pool10 : Array CpInfo := pool [(2, .class_ 4), (1, u "java/lang/Object"), (0, u "<init>"), (0, u "()V"), (3, .class_ 12), (1, u "java/lang/String"), (0, u "value"), (0, u "[B"), (2, u "coder"), (0, u "B"), (2, u "hash"), (0, u "I"), (2, u "hashIsZero"), (0, u "Z"), (13, u "COMPACT_STRINGS"), (534, .class_ 576), (0, u "java/lang/CharSequence"), (22, u "CASE_INSENSITIVE_ORDER"), (0, u "Ljava/util/Comparator;"), (500, u "serialPersistentFields"), (0, u "[Ljava/io/ObjectStreamField;"), (0, .class_ 1104), (0, u "java/lang/String$CaseInsensitiveComparator"), (1, .class_ 1107), (0, u "java/io/Serializable"), (0, .class_ 1109), (0, u "java/lang/Comparable"), (0, .class_ 1111), (0, u "java/lang/constant/Constable"), (0, .class_ 1113), (0, u "java/lang/constant/ConstantDesc"), (2, u "serialVersionUID"), (0, u "J"), (3, u "REPL"), (0, u "C"), (2, u "LATIN1"), (1, u "UTF16")] 323

def k10m0 : Method := { name := "<init>", desc := "()V", sig := { parameters := [], returnType := none }, accessFlags := 1, code := none }
/-- java/lang/String -/
def k10 : Class := { plain "java/lang/String" (some 0) with
  accessFlags := 49
  interfaces := #[5, 6, 7, 8, 9]
  cf := some (fileOf pool10 10 #[.nestMembers #[1103]] #[{ accessFlags := 1, nameIndex := 5, descriptorIndex := 6, attributes := #[] }] 49 2 #[1106, 1108, 575, 1110, 1112] #[{ accessFlags := 18, nameIndex := 13, descriptorIndex := 14, attributes := #[] }, { accessFlags := 18, nameIndex := 17, descriptorIndex := 18, attributes := #[] }, { accessFlags := 2, nameIndex := 21, descriptorIndex := 22, attributes := #[] }, { accessFlags := 2, nameIndex := 25, descriptorIndex := 26, attributes := #[] }, { accessFlags := 26, nameIndex := 1116, descriptorIndex := 1117, attributes := #[] }, { accessFlags := 24, nameIndex := 40, descriptorIndex := 26, attributes := #[] }, { accessFlags := 26, nameIndex := 1101, descriptorIndex := 1102, attributes := #[] }, { accessFlags := 26, nameIndex := 1121, descriptorIndex := 1122, attributes := #[] }, { accessFlags := 25, nameIndex := 599, descriptorIndex := 600, attributes := #[] }, { accessFlags := 24, nameIndex := 1125, descriptorIndex := 18, attributes := #[] }, { accessFlags := 24, nameIndex := 1127, descriptorIndex := 18, attributes := #[] }])
  fields := #[{ name := "value", type := (.array .byte), accessFlags := 18, slot := 0, constantValue := 0 }, { name := "coder", type := .byte, accessFlags := 18, slot := 1, constantValue := 0 }, { name := "hash", type := .int, accessFlags := 2, slot := 2, constantValue := 0 }, { name := "hashIsZero", type := .boolean, accessFlags := 2, slot := 3, constantValue := 0 }, { name := "serialVersionUID", type := .long, accessFlags := 26, slot := 0, constantValue := 0 }, { name := "COMPACT_STRINGS", type := .boolean, accessFlags := 24, slot := 1, constantValue := 0 }, { name := "serialPersistentFields", type := (.array (.object "java/io/ObjectStreamField")), accessFlags := 26, slot := 2, constantValue := 0 }, { name := "REPL", type := .char, accessFlags := 26, slot := 3, constantValue := 0 }, { name := "CASE_INSENSITIVE_ORDER", type := (.object "java/util/Comparator"), accessFlags := 25, slot := 4, constantValue := 0 }, { name := "LATIN1", type := .byte, accessFlags := 24, slot := 5, constantValue := 0 }, { name := "UTF16", type := .byte, accessFlags := 24, slot := 6, constantValue := 0 }]
  methods := #[k10m0]
  instanceTypes := #[(.array .byte), .byte, .int, .boolean]
  staticTypes := #[.long, .boolean, (.array (.object "java/io/ObjectStreamField")), .char, (.object "java/util/Comparator"), .byte, .byte]
  resolved := Array.replicate 1451 none
  statics := none }

def pool11 : Array CpInfo := pool [(1, u "java/lang/Cloneable"), (0, .class_ 1), (0, u "java/lang/Object"), (0, .class_ 3)] 3

/-- java/lang/Cloneable -/
def k11 : Class := { plain "java/lang/Cloneable" (some 0) with
  accessFlags := 1537
  interfaces := #[]
  cf := some (fileOf pool11 2 #[] #[] 1537 4 #[] #[])
  fields := #[]
  methods := #[]
  instanceTypes := #[]
  staticTypes := #[]
  resolved := Array.replicate 8 none
  statics := none }

/-- the primitive byte -/
def k12 : Class := { plain "byte" none with kind := .primitive 'B', accessFlags := 0x411 }
/-- [B -/
def k13 : Class := { plain "[B" (some 0) with kind := .array 12 .byte, interfaces := #[11, 5], accessFlags := 1041 }

/-- the primitive int -/
def k14 : Class := { plain "int" none with kind := .primitive 'I', accessFlags := 0x411 }
/-- [I -/
def k15 : Class := { plain "[I" (some 0) with kind := .array 14 .int, interfaces := #[11, 5], accessFlags := 1041 }

def heap : Heap := #[]
def classes : Array Class := #[k0, k1, k2, k3, k4, k5, k6, k7, k8, k9, k10, k11, k12, k13, k14, k15]
def interned : List (Array UInt16 × Addr) := []
def slotsUsed : Nat := 0
def theMethod : MethodId := ⟨1, 1⟩
def args0 : Array Value := #[.int 97, .int 3, .int 1, .int 2, .int 5]
def aboutOver (below : List Frame) : State where
  vm := { classes := classes, interned := interned.toArray }
  heap := heap
  slotsUsed := slotsUsed
  threads := #[{ frames := .invoking theMethod args0 :: below }]
def below0 : List Frame := [.native { method := ⟨0, 0⟩, args := #[] }]
def about1 : State := aboutOver below0
def p0 : Program := .bare "" "" ""
def e0 : Env := launch0.env 0 0 0
theorem w_frames : about1.frames = Frame.invoking theMethod args0 :: below0 := rfl
set_option maxRecDepth 65536 in
theorem w_args : argsFit about1.vm theMethod args0 = true := by decide +kernel
set_option maxRecDepth 65536 in
theorem w_heap : heapFits about1 = true := by decide +kernel
set_option maxRecDepth 65536 in
theorem w_runnable : about1.curStatus? = some .runnable := by decide +kernel
set_option maxRecDepth 65536 in
theorem w_alone : about1.alone = true := by decide +kernel
set_option maxRecDepth 65536 in
theorem w_named : about1.methodNamed? x = some theMethod := by decide +kernel
set_option maxRecDepth 65536 in
theorem w_hears : about1.hears theMethod below0 = true := by decide +kernel
set_option maxRecDepth 65536 in
theorem w_ripe : about1.ripe theMethod args0 below0 = true := by decide +kernel
theorem w_running : about1.status = .running := rfl
set_option maxRecDepth 65536 in
theorem w_room : about1.hasRoom e0.platform room_1 = true :=
  launch0.hasRoom_least _ room_1 (by decide +kernel) (by decide +kernel) (by decide +kernel) (by decide +kernel) (by decide +kernel) (by decide +kernel)
theorem allAtoms_all (ts : List Jvm.Cond) (a : Array Jvm.Value) (st : Jvm.State) : (allAtoms ts).before a st = ts.all (fun c => c.before a st) := by
  induction ts with
  | nil => rfl
  | cons c t ih =>
    show (Jvm.Cond.and c (allAtoms t)).before a st = _
    rw [Jvm.Cond.before_and, ih, List.all_cons]
def words1 : List Jvm.Cond := Jvm.Cond.code x code maxLocals ret :: tables_1
/-- a 'code' word, met by the world's own term for the bytes: nothing is compared byte by byte -/
theorem code_word {y : MethodName} {bytes : ByteArray} {mx : Nat} {rt : Option FieldType} {a : Array Value} {s : State} {m : MethodId} {meth : Method} {c : Code} (h1 : s.methodNamed? y = some m) (h2 : s.vm.method? m = some meth) (h3 : meth.code = some c) (h4 : c.code = bytes)
    (h5 : (c.maxLocals == mx && c.exceptionTable.isEmpty && decide (c.maxStack ≤ mostOperands) && decide (meth.sig.returnType = rt) && !meth.locks && decide (parseMethodDescriptor y.desc = some meth.sig)) = true) : (Jvm.Cond.code y bytes mx rt).before a s = true := by
  simp only [Bool.and_eq_true, beq_iff_eq, Bool.not_eq_true', decide_eq_true_eq] at h5
  obtain ⟨⟨⟨⟨⟨g1, g2⟩, g3⟩, g4⟩, g5⟩, g6⟩ := h5
  simp [Cond.before, Cond.holds, Cond.value, h1, h2, h3, h4, g1, g2, g3, g4, g5, g6]
def isCode : Jvm.Cond → Bool
  | .code _ _ _ _ => true
  | _ => false
theorem all_split {L : List Jvm.Cond} {P : Jvm.Cond → Bool} (h1 : L.all (fun c => isCode c || P c) = true) (h2 : ∀ c ∈ L.filter isCode, P c = true) : L.all P = true := by
  refine List.all_eq_true.mpr fun c hc => ?_
  have h := List.all_eq_true.mp h1 c hc
  rcases Bool.eq_false_or_eq_true (isCode c) with hi | hi
  · exact h2 c (List.mem_filter.mpr ⟨hc, hi⟩)
  · simpa [hi] using h
set_option maxRecDepth 65536 in
theorem w_c0 : (Jvm.Cond.code x code maxLocals ret).before args0 about1 = true := code_word (m := ⟨1, 1⟩) (meth := k1m1) (c := k1c1) (by decide +kernel) rfl rfl rfl (by decide +kernel)
set_option maxRecDepth 65536 in
theorem w_c1 : (Jvm.Cond.code ({ cls := "java/lang/Math", name := "min", desc := "(II)I" } : Jvm.MethodName) jdk_29_method_69_code (2 : Nat) (Option.some Jvm.ClassFile.FieldType.int)).before args0 about1 = true := code_word (m := ⟨2, 1⟩) (meth := k2m1) (c := k2c1) (by decide +kernel) rfl rfl rfl (by decide +kernel)
set_option maxRecDepth 65536 in
theorem w_c2 : (Jvm.Cond.code ({ cls := "com/example/veilcommit/veilcommit/oram/TreeShape", name := "<init>", desc := "(IIIII)V" } : Jvm.MethodName) prog_138_method_1_code (6 : Nat) (Option.none : Option Jvm.ClassFile.FieldType)).before args0 about1 = true := code_word (m := ⟨4, 0⟩) (meth := k4m0) (c := k4c0) (by decide +kernel) rfl rfl rfl (by decide +kernel)
set_option maxRecDepth 65536 in
theorem w_c3 : (Jvm.Cond.code ({ cls := "java/lang/Record", name := "<init>", desc := "()V" } : Jvm.MethodName) jdk_30_method_1_code (1 : Nat) (Option.none : Option Jvm.ClassFile.FieldType)).before args0 about1 = true := code_word (m := ⟨3, 0⟩) (meth := k3m0) (c := k3c0) (by decide +kernel) rfl rfl rfl (by decide +kernel)
set_option maxRecDepth 65536 in
theorem w_c4 : (Jvm.Cond.code ({ cls := "java/lang/Object", name := "<init>", desc := "()V" } : Jvm.MethodName) object_method_1_code (1 : Nat) (Option.none : Option Jvm.ClassFile.FieldType)).before args0 about1 = true := code_word (m := ⟨0, 0⟩) (meth := k0m0) (c := k0c0) (by decide +kernel) rfl rfl rfl (by decide +kernel)
set_option maxRecDepth 65536 in
theorem w_c5 : (Jvm.Cond.code ({ cls := "com/example/veilcommit/veilcommit/oram/TreeShape", name := "requireRange", desc := "(Ljava/lang/String;III)V" } : Jvm.MethodName) prog_138_method_21_code (4 : Nat) (Option.none : Option Jvm.ClassFile.FieldType)).before args0 about1 = true := code_word (m := ⟨4, 5⟩) (meth := k4m5) (c := k4c5) (by decide +kernel) rfl rfl rfl (by decide +kernel)
set_option maxRecDepth 65536 in
theorem w_c6 : (Jvm.Cond.code ({ cls := "com/example/veilcommit/veilcommit/oram/TreeShape", name := "leaves", desc := "(II)I" } : Jvm.MethodName) prog_138_method_3_code (3 : Nat) (Option.some Jvm.ClassFile.FieldType.int)).before args0 about1 = true := code_word (m := ⟨4, 1⟩) (meth := k4m1) (c := k4c1) (by decide +kernel) rfl rfl rfl (by decide +kernel)
set_option maxRecDepth 65536 in
theorem w_c7 : (Jvm.Cond.code ({ cls := "com/example/veilcommit/veilcommit/oram/TreeShape", name := "stashCapacity", desc := "(II)J" } : Jvm.MethodName) prog_138_method_14_code (2 : Nat) (Option.some Jvm.ClassFile.FieldType.long)).before args0 about1 = true := code_word (m := ⟨4, 4⟩) (meth := k4m4) (c := k4c4) (by decide +kernel) rfl rfl rfl (by decide +kernel)
set_option maxRecDepth 65536 in
theorem w_c8 : (Jvm.Cond.code ({ cls := "java/lang/Math", name := "min", desc := "(JJ)J" } : Jvm.MethodName) jdk_29_method_70_code (4 : Nat) (Option.some Jvm.ClassFile.FieldType.long)).before args0 about1 = true := code_word (m := ⟨2, 2⟩) (meth := k2m2) (c := k2c2) (by decide +kernel) rfl rfl rfl (by decide +kernel)
set_option maxRecDepth 65536 in
theorem w_c9 : (Jvm.Cond.code ({ cls := "com/example/veilcommit/veilcommit/oram/TreeShape", name := "keptBucketBytes", desc := "()I" } : Jvm.MethodName) prog_138_method_11_code (1 : Nat) (Option.some Jvm.ClassFile.FieldType.int)).before args0 about1 = true := code_word (m := ⟨4, 3⟩) (meth := k4m3) (c := k4c3) (by decide +kernel) rfl rfl rfl (by decide +kernel)
set_option maxRecDepth 65536 in
theorem w_c10 : (Jvm.Cond.code ({ cls := "com/example/veilcommit/veilcommit/oram/TreeShape", name := "plainSlotBytes", desc := "()I" } : Jvm.MethodName) prog_138_method_8_code (1 : Nat) (Option.some Jvm.ClassFile.FieldType.int)).before args0 about1 = true := code_word (m := ⟨4, 2⟩) (meth := k4m2) (c := k4c2) (by decide +kernel) rfl rfl rfl (by decide +kernel)
def codes1 : List Jvm.Cond := [Jvm.Cond.code x code maxLocals ret, Jvm.Cond.code ({ cls := "java/lang/Math", name := "min", desc := "(II)I" } : Jvm.MethodName) jdk_29_method_69_code (2 : Nat) (Option.some Jvm.ClassFile.FieldType.int), Jvm.Cond.code ({ cls := "com/example/veilcommit/veilcommit/oram/TreeShape", name := "<init>", desc := "(IIIII)V" } : Jvm.MethodName) prog_138_method_1_code (6 : Nat) (Option.none : Option Jvm.ClassFile.FieldType), Jvm.Cond.code ({ cls := "java/lang/Record", name := "<init>", desc := "()V" } : Jvm.MethodName) jdk_30_method_1_code (1 : Nat) (Option.none : Option Jvm.ClassFile.FieldType), Jvm.Cond.code ({ cls := "java/lang/Object", name := "<init>", desc := "()V" } : Jvm.MethodName) object_method_1_code (1 : Nat) (Option.none : Option Jvm.ClassFile.FieldType), Jvm.Cond.code ({ cls := "com/example/veilcommit/veilcommit/oram/TreeShape", name := "requireRange", desc := "(Ljava/lang/String;III)V" } : Jvm.MethodName) prog_138_method_21_code (4 : Nat) (Option.none : Option Jvm.ClassFile.FieldType), Jvm.Cond.code ({ cls := "com/example/veilcommit/veilcommit/oram/TreeShape", name := "leaves", desc := "(II)I" } : Jvm.MethodName) prog_138_method_3_code (3 : Nat) (Option.some Jvm.ClassFile.FieldType.int), Jvm.Cond.code ({ cls := "com/example/veilcommit/veilcommit/oram/TreeShape", name := "stashCapacity", desc := "(II)J" } : Jvm.MethodName) prog_138_method_14_code (2 : Nat) (Option.some Jvm.ClassFile.FieldType.long), Jvm.Cond.code ({ cls := "java/lang/Math", name := "min", desc := "(JJ)J" } : Jvm.MethodName) jdk_29_method_70_code (4 : Nat) (Option.some Jvm.ClassFile.FieldType.long), Jvm.Cond.code ({ cls := "com/example/veilcommit/veilcommit/oram/TreeShape", name := "keptBucketBytes", desc := "()I" } : Jvm.MethodName) prog_138_method_11_code (1 : Nat) (Option.some Jvm.ClassFile.FieldType.int), Jvm.Cond.code ({ cls := "com/example/veilcommit/veilcommit/oram/TreeShape", name := "plainSlotBytes", desc := "()I" } : Jvm.MethodName) prog_138_method_8_code (1 : Nat) (Option.some Jvm.ClassFile.FieldType.int)]
set_option maxRecDepth 65536 in
theorem codes_eq : words1.filter isCode = codes1 := rfl
theorem w_codes : ∀ c ∈ words1.filter isCode, c.before args0 about1 = true := by
  rw [codes_eq]
  intro c hc
  simp only [codes1, List.mem_cons, List.not_mem_nil, or_false] at hc
  rcases hc with rfl | rfl | rfl | rfl | rfl | rfl | rfl | rfl | rfl | rfl | rfl
  · exact w_c0
  · exact w_c1
  · exact w_c2
  · exact w_c3
  · exact w_c4
  · exact w_c5
  · exact w_c6
  · exact w_c7
  · exact w_c8
  · exact w_c9
  · exact w_c10
set_option maxRecDepth 65536 in
theorem w_t1 : (words1.take 24).all (fun c => isCode c || c.before args0 about1) = true := by decide +kernel
set_option maxRecDepth 65536 in
theorem w_t2 : ((words1.drop 24).take 24).all (fun c => isCode c || c.before args0 about1) = true := by decide +kernel
set_option maxRecDepth 65536 in
theorem w_t3 : (((words1.drop 24).drop 24).take 24).all (fun c => isCode c || c.before args0 about1) = true := by decide +kernel
set_option maxRecDepth 65536 in
theorem w_t4 : (((words1.drop 24).drop 24).drop 24).all (fun c => isCode c || c.before args0 about1) = true := by decide +kernel
theorem w_tables : (allAtoms (Jvm.Cond.code x code maxLocals ret :: tables_1)).before args0 about1 = true := by
  rw [allAtoms_all]
  show words1.all (fun c => c.before args0 about1) = true
  refine all_split ?_ w_codes
  rw [← List.take_append_drop 24 words1, List.all_append, w_t1, ← List.take_append_drop 24 (words1.drop 24), List.all_append, w_t2, ← List.take_append_drop 24 ((words1.drop 24).drop 24), List.all_append, w_t3, w_t4]
  rfl
set_option maxRecDepth 65536 in
theorem w_case : (Jvm.Cond.and given_1 narrow_1).before args0 about1 = true := by decide +kernel
theorem w_applies : (headSpec (Jvm.Cond.code x code maxLocals ret :: tables_1) room_1).applies x e0.platform about1 = true :=
  (Spec.applies_iff w_frames).mpr ⟨w_running, w_runnable, w_alone, w_named, w_hears, w_ripe, w_room, w_tables⟩
theorem atStart : AtStart classFile x code maxLocals ret World_1 tables_1 room_1 Calls_1 rest_1 Pre_1 launch0 p0 e0 about1 theMethod args0 below0 :=
  ⟨lists_1, trivial, launch0.admits_env _ _ _, launch0.least_env, fairChoices_fair.cas, fairChoices_fair.clock, w_frames, w_args, w_heap, w_applies, trivial, trivial, w_case⟩
end start1
theorem witness_1 : WitnessClaimed_1 := ⟨start1.p0, start1.e0, start1.about1, start1.theMethod, start1.args0, start1.below0, start1.atStart⟩
end Jvm.Pilot.@@N@@
