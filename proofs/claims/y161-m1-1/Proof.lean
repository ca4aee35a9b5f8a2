import JvmDerived
import JvmDerived.Pilot.@@N@@Statement
import JvmDerived.Pilot.@@N@@Code
set_option linter.unusedVariables false
set_option linter.unusedSimpArgs false
namespace Jvm.Pilot.@@N@@
open Jvm Jvm.ClassFile Sem Op Lib Jvm.Free Jvm.Stand Jvm.LawKit Jvm.RoadKit Bundle Jvm.Pilot.@@N@@.Jvm.D
/-! ## THE W-KIT: W k n0 Q h cs sl pc L st: whoever stands (in the body that k tells of) over the heap h with locals L and stack st at pc comes to the body's end with Q -/
abbrev KT : Type := Program × Launch × Env × Room × State × MethodId × Array Value × List Frame × Method × Code
def Good (κ : KT) (R : Room) (Z : State) (own mnm : String) (bytes : ByteArray) (ml : Nat) (ret : Option FieldType) : Prop :=
  match κ with
  | (p, _, _, R', s, m, _, _, meth, c) => p.tables.exec = Jvm.exec ∧ Z.Warmed39 s.vm ∧ c.code = bytes ∧ c.maxLocals = ml ∧ s.vm.findClass own = some m.cls ∧ meth.sig.returnType = ret ∧ meth.locks = false ∧ meth.name = mnm ∧ R' = R
def W (κ : KT) (n0 : Nat) (Q : Option Value → Heap → Prop) (h : Heap) (cs sl pc : Nat) (L : List Slot) (st : List Value) : Prop :=
  match κ with
  | (p, l, e, R, s, m, args, below, meth, c) =>
    ∀ (T : State) (locs : List Loc), Stand p l e R s m args below meth c T locs cs sl → T.heap = h → Fr n0 locs → cs ≤ R.cells → sl ≤ R.slots →
      ∃ s₂ o, Steps p.tables e below (T.setTop (mkF m pc L.toArray st)) s₂ ∧ s₂.status = .running ∧ Ended s₂ below o ∧ ∃ v L', o = .returned v ∧ (Q v s₂.heap ∧ Fr n0 L') ∧ FrameEnd s o s₂ L' R.cells R.slots
/-- a callee's contract -/
def Con (Z : State) (y : MethodName) (bytes : ByteArray) (ml : Nat) (ret : Option FieldType) (rm : Room) (as' : List Value) (h0 : Heap) (n0 : Nat) (Q : Option Value → Heap → Prop) : Prop :=
  ∀ (l : Launch) (ws : List Jvm.Cond), MetFree l y (head1 (Jvm.Cond.code y bytes ml ret :: ws) rm) (fun a U => a = as'.toArray ∧ Z.Warmed39 U.vm ∧ U.heap = h0) (fun _ _ _ _ _ => True) (fun _ U o U' => ∃ v L, o = .returned v ∧ (Q v U'.heap ∧ Fr n0 L) ∧ FrameEnd U o U' L rm.cells rm.slots)
/-- an instruction: what stands at pc, its length, the pc behind -/
def Ins1 (b : ByteArray) (pc : Nat) (i : Instr) (len nx : Nat) : Prop := decode b pc = .ok (i, len) ∧ pc + len = nx
/-- a jump: what stands at pc, the pc behind, the pc to which it leads -/
def Jmp1 (b : ByteArray) (pc : Nat) (i : Instr) (o : Int) (nx tg : Nat) : Prop := decode b pc = .ok (i, 3) ∧ pc + 3 = nx ∧ 0 ≤ (pc : Int) + o ∧ ((pc : Int) + o).toNat = tg
def cmpP : ClassFile.Cond → Int32 → Int32 → Prop
  | .eq, x, y => x.toInt = y.toInt
  | .ne, x, y => ¬ x.toInt = y.toInt
  | .lt, x, y => x.toInt < y.toInt
  | .ge, x, y => y.toInt ≤ x.toInt
  | .gt, x, y => y.toInt < x.toInt
  | .le, x, y => x.toInt ≤ y.toInt
def cmp0 : ClassFile.Cond → Int32 → Prop
  | .eq, x => x.toInt = 0
  | .ne, x => ¬ x.toInt = 0
  | .lt, x => x.toInt < 0
  | .ge, x => 0 ≤ x.toInt
  | .gt, x => 0 < x.toInt
  | .le, x => x.toInt ≤ 0
def cmpL : ClassFile.Cond → Int64 → Int64 → Prop
  | .eq, x, y => x.toInt = y.toInt
  | .ne, x, y => ¬ x.toInt = y.toInt
  | .lt, x, y => x.toInt < y.toInt
  | .ge, x, y => y.toInt ≤ x.toInt
  | .gt, x, y => y.toInt < x.toInt
  | .le, x, y => x.toInt ≤ y.toInt
theorem cmpP_iff (cd : ClassFile.Cond) (x y : Int32) : if_icmp.holds cd x y = true ↔ cmpP cd x y := by
  cases cd <;> simp [if_icmp.holds, cmpP, Int32.lt_iff_toInt_lt, Int32.le_iff_toInt_le, Int32.toInt_inj]
theorem cmpP_no {cd : ClassFile.Cond} {x y : Int32} (h : ¬ cmpP cd x y) : if_icmp.holds cd x y = false := by
  cases q : if_icmp.holds cd x y with
  | false => rfl
  | true => exact absurd ((cmpP_iff _ _ _).mp q) h
theorem cmp0_iff (cd : ClassFile.Cond) (x : Int32) : cmpP cd x 0 ↔ cmp0 cd x := by
  cases cd <;> simp [cmpP, cmp0]
theorem cmpL_iff (cd : ClassFile.Cond) (x y : Int64) : cmp0 cd (if x > y then 1 else if x = y then 0 else -1) ↔ cmpL cd x y := by
  have hc := c_lcmp x y
  show cmp0 cd (lcmpW x y) ↔ _
  cases cd <;> simp only [cmp0, cmpL] <;> omega
section WKit
variable {κ : KT} {R : Room} {Z : State} {a0 : Array Value} {own mnm : String} {bytes : ByteArray} {ml : Nat} {ret : Option FieldType} {n0 : Nat} {Q : Option Value → Heap → Prop} {h : Heap} {cs sl pc nx tg : Nat} {L : List Slot} {st rest : List Value}
theorem W.pure {pc' : Nat} {L' : List Slot} {st' : List Value} (C : Good κ R Z own mnm bytes ml ret) (k : W κ n0 Q h cs sl pc' L' st')
    (hs : ∀ {p : Program} {e : Env} {below : List Frame} {T target : State} {m : MethodId} {c : Code}, At T m c below → p.tables.exec = Jvm.exec → c.code = bytes → Steps p.tables e below (T.setTop (mkF m pc' L'.toArray st')) target → Steps p.tables e below (T.setTop (mkF m pc L.toArray st)) target) : W κ n0 Q h cs sl pc L st := by
  obtain ⟨p, l, e, R', s, m, args, below, meth, c⟩ := κ
  obtain ⟨hx, -, hby, -⟩ := C
  intro T locs X eT N h1 h2
  obtain ⟨s₂, o, a, r⟩ := k T locs X eT N h1 h2
  exact ⟨s₂, o, hs X.here hx hby a, r⟩
/-- more room taken than made -/
theorem W.more {cs' sl' : Nat} (h1 : cs ≤ cs') (h2 : sl ≤ sl') (C : Good κ R Z own mnm bytes ml ret) (g1 : cs' ≤ R.cells) (g2 : sl' ≤ R.slots) (k : W κ n0 Q h cs' sl' pc L st) : W κ n0 Q h cs sl pc L st := by
  obtain ⟨p, l, e, R', s, m, args, below, meth, c⟩ := κ
  obtain ⟨-, -, -, -, -, -, -, -, rfl⟩ := C
  intro T locs X eT N _ _
  exact k T locs (X.more h1 h2) eT N g1 g2
theorem W.post {Q' : Option Value → Heap → Prop} (hq : ∀ v h, Q v h → Q' v h) (k : W κ n0 Q h cs sl pc L st) : W κ n0 Q' h cs sl pc L st := by
  obtain ⟨p, l, e, R', s, m, args, below, meth, c⟩ := κ
  intro T locs X eT N h1 h2
  obtain ⟨s₂, o, a, b, c, v, L', d, ⟨f, f'⟩, g⟩ := k T locs X eT N h1 h2
  exact ⟨s₂, o, a, b, c, v, L', d, ⟨hq _ _ f, f'⟩, g⟩

theorem W.iadd {x y z : Int32} (C : Good κ R Z own mnm bytes ml ret) (hd : Ins1 bytes pc .iadd 1 nx) (hz : x + y = z) (k : W κ n0 Q h cs sl nx L (.int z :: rest)) : W κ n0 Q h cs sl pc L (.int y :: .int x :: rest) := by
  obtain ⟨hd, rfl⟩ := hd
  subst hz
  exact W.pure C k fun hA hx hby hr => XS.iadd hA hx rfl (hb hby hd) rfl hr
theorem W.isub {x y z : Int32} (C : Good κ R Z own mnm bytes ml ret) (hd : Ins1 bytes pc .isub 1 nx) (hz : x - y = z) (k : W κ n0 Q h cs sl nx L (.int z :: rest)) : W κ n0 Q h cs sl pc L (.int y :: .int x :: rest) := by
  obtain ⟨hd, rfl⟩ := hd
  subst hz
  exact W.pure C k fun hA hx hby hr => XS.isub hA hx rfl (hb hby hd) rfl hr
theorem W.imul {x y z : Int32} (C : Good κ R Z own mnm bytes ml ret) (hd : Ins1 bytes pc .imul 1 nx) (hz : x * y = z) (k : W κ n0 Q h cs sl nx L (.int z :: rest)) : W κ n0 Q h cs sl pc L (.int y :: .int x :: rest) := by
  obtain ⟨hd, rfl⟩ := hd
  subst hz
  exact W.pure C k fun hA hx hby hr => XS.imul hA hx rfl (hb hby hd) rfl hr
theorem W.iand {x y z : Int32} (C : Good κ R Z own mnm bytes ml ret) (hd : Ins1 bytes pc .iand 1 nx) (hz : x &&& y = z) (k : W κ n0 Q h cs sl nx L (.int z :: rest)) : W κ n0 Q h cs sl pc L (.int y :: .int x :: rest) := by
  obtain ⟨hd, rfl⟩ := hd
  subst hz
  exact W.pure C k fun hA hx hby hr => XS.iand hA hx rfl (hb hby hd) rfl hr
theorem W.ior {x y z : Int32} (C : Good κ R Z own mnm bytes ml ret) (hd : Ins1 bytes pc .ior 1 nx) (hz : x ||| y = z) (k : W κ n0 Q h cs sl nx L (.int z :: rest)) : W κ n0 Q h cs sl pc L (.int y :: .int x :: rest) := by
  obtain ⟨hd, rfl⟩ := hd
  subst hz
  exact W.pure C k fun hA hx hby hr => XS.ior hA hx rfl (hb hby hd) rfl hr
theorem W.ixor {x y z : Int32} (C : Good κ R Z own mnm bytes ml ret) (hd : Ins1 bytes pc .ixor 1 nx) (hz : x ^^^ y = z) (k : W κ n0 Q h cs sl nx L (.int z :: rest)) : W κ n0 Q h cs sl pc L (.int y :: .int x :: rest) := by
  obtain ⟨hd, rfl⟩ := hd
  subst hz
  exact W.pure C k fun hA hx hby hr => XS.ixor hA hx rfl (hb hby hd) rfl hr
theorem W.ladd {x y z : Int64} (C : Good κ R Z own mnm bytes ml ret) (hd : Ins1 bytes pc .ladd 1 nx) (hz : x + y = z) (k : W κ n0 Q h cs sl nx L (.long z :: rest)) : W κ n0 Q h cs sl pc L (.long y :: .long x :: rest) := by
  obtain ⟨hd, rfl⟩ := hd
  subst hz
  exact W.pure C k fun hA hx hby hr => XS.ladd hA hx rfl (hb hby hd) rfl hr
theorem W.lsub {x y z : Int64} (C : Good κ R Z own mnm bytes ml ret) (hd : Ins1 bytes pc .lsub 1 nx) (hz : x - y = z) (k : W κ n0 Q h cs sl nx L (.long z :: rest)) : W κ n0 Q h cs sl pc L (.long y :: .long x :: rest) := by
  obtain ⟨hd, rfl⟩ := hd
  subst hz
  exact W.pure C k fun hA hx hby hr => XS.lsub hA hx rfl (hb hby hd) rfl hr
theorem W.lmul {x y z : Int64} (C : Good κ R Z own mnm bytes ml ret) (hd : Ins1 bytes pc .lmul 1 nx) (hz : x * y = z) (k : W κ n0 Q h cs sl nx L (.long z :: rest)) : W κ n0 Q h cs sl pc L (.long y :: .long x :: rest) := by
  obtain ⟨hd, rfl⟩ := hd
  subst hz
  exact W.pure C k fun hA hx hby hr => XS.lmul hA hx rfl (hb hby hd) rfl hr
theorem W.land {x y z : Int64} (C : Good κ R Z own mnm bytes ml ret) (hd : Ins1 bytes pc .land 1 nx) (hz : x &&& y = z) (k : W κ n0 Q h cs sl nx L (.long z :: rest)) : W κ n0 Q h cs sl pc L (.long y :: .long x :: rest) := by
  obtain ⟨hd, rfl⟩ := hd
  subst hz
  exact W.pure C k fun hA hx hby hr => XS.land hA hx rfl (hb hby hd) rfl hr
theorem W.lor {x y z : Int64} (C : Good κ R Z own mnm bytes ml ret) (hd : Ins1 bytes pc .lor 1 nx) (hz : x ||| y = z) (k : W κ n0 Q h cs sl nx L (.long z :: rest)) : W κ n0 Q h cs sl pc L (.long y :: .long x :: rest) := by
  obtain ⟨hd, rfl⟩ := hd
  subst hz
  exact W.pure C k fun hA hx hby hr => XS.lor hA hx rfl (hb hby hd) rfl hr
theorem W.lxor {x y z : Int64} (C : Good κ R Z own mnm bytes ml ret) (hd : Ins1 bytes pc .lxor 1 nx) (hz : x ^^^ y = z) (k : W κ n0 Q h cs sl nx L (.long z :: rest)) : W κ n0 Q h cs sl pc L (.long y :: .long x :: rest) := by
  obtain ⟨hd, rfl⟩ := hd
  subst hz
  exact W.pure C k fun hA hx hby hr => XS.lxor hA hx rfl (hb hby hd) rfl hr
theorem W.idiv {x y z : Int32} (C : Good κ R Z own mnm bytes ml ret) (hd : Ins1 bytes pc .idiv 1 nx) (hy : y ≠ 0) (hz : x / y = z) (k : W κ n0 Q h cs sl nx L (.int z :: rest)) : W κ n0 Q h cs sl pc L (.int y :: .int x :: rest) := by
  obtain ⟨hd, rfl⟩ := hd
  subst hz
  exact W.pure C k fun hA hx hby hr => XS.idiv hA hx rfl (hb hby hd) rfl hy hr
theorem W.irem {x y z : Int32} (C : Good κ R Z own mnm bytes ml ret) (hd : Ins1 bytes pc .irem 1 nx) (hy : y ≠ 0) (hz : x % y = z) (k : W κ n0 Q h cs sl nx L (.int z :: rest)) : W κ n0 Q h cs sl pc L (.int y :: .int x :: rest) := by
  obtain ⟨hd, rfl⟩ := hd
  subst hz
  exact W.pure C k fun hA hx hby hr => XS.irem hA hx rfl (hb hby hd) rfl hy (by rw [irem_eq_mod]; exact hr)
theorem W.ldiv {x y z : Int64} (C : Good κ R Z own mnm bytes ml ret) (hd : Ins1 bytes pc .ldiv 1 nx) (hy : y ≠ 0) (hz : x / y = z) (k : W κ n0 Q h cs sl nx L (.long z :: rest)) : W κ n0 Q h cs sl pc L (.long y :: .long x :: rest) := by
  obtain ⟨hd, rfl⟩ := hd
  subst hz
  exact W.pure C k fun hA hx hby hr => XS.ldiv hA hx rfl (hb hby hd) rfl hy hr
theorem W.lrem {x y z : Int64} (C : Good κ R Z own mnm bytes ml ret) (hd : Ins1 bytes pc .lrem 1 nx) (hy : y ≠ 0) (hz : x - (x / y) * y = z) (k : W κ n0 Q h cs sl nx L (.long z :: rest)) : W κ n0 Q h cs sl pc L (.long y :: .long x :: rest) := by
  obtain ⟨hd, rfl⟩ := hd
  subst hz
  exact W.pure C k fun hA hx hby hr => XS.lrem hA hx rfl (hb hby hd) rfl hy hr
theorem W.ishl {x y z : Int32} (C : Good κ R Z own mnm bytes ml ret) (hd : Ins1 bytes pc .ishl 1 nx) (hz : x <<< (y &&& 31) = z) (k : W κ n0 Q h cs sl nx L (.int z :: rest)) : W κ n0 Q h cs sl pc L (.int y :: .int x :: rest) := by
  obtain ⟨hd, rfl⟩ := hd
  subst hz
  exact W.pure C k fun hA hx hby hr => XS.ishl hA hx rfl (hb hby hd) rfl hr
theorem W.ishr {x y z : Int32} (C : Good κ R Z own mnm bytes ml ret) (hd : Ins1 bytes pc .ishr 1 nx) (hz : x >>> (y &&& 31) = z) (k : W κ n0 Q h cs sl nx L (.int z :: rest)) : W κ n0 Q h cs sl pc L (.int y :: .int x :: rest) := by
  obtain ⟨hd, rfl⟩ := hd
  subst hz
  exact W.pure C k fun hA hx hby hr => XS.ishr hA hx rfl (hb hby hd) rfl hr
theorem W.iushr {x y z : Int32} (C : Good κ R Z own mnm bytes ml ret) (hd : Ins1 bytes pc .iushr 1 nx) (hz : (x.toUInt32 >>> (y &&& 31).toUInt32).toInt32 = z) (k : W κ n0 Q h cs sl nx L (.int z :: rest)) : W κ n0 Q h cs sl pc L (.int y :: .int x :: rest) := by
  obtain ⟨hd, rfl⟩ := hd
  subst hz
  exact W.pure C k fun hA hx hby hr => XS.iushr hA hx rfl (hb hby hd) rfl hr
theorem W.lshl {x z : Int64} {y : Int32} (C : Good κ R Z own mnm bytes ml ret) (hd : Ins1 bytes pc .lshl 1 nx) (hz : x <<< (y &&& 0x3f).toInt64 = z) (k : W κ n0 Q h cs sl nx L (.long z :: rest)) : W κ n0 Q h cs sl pc L (.int y :: .long x :: rest) := by
  obtain ⟨hd, rfl⟩ := hd
  subst hz
  exact W.pure C k fun hA hx hby hr => XS.lshl hA hx rfl (hb hby hd) rfl hr
theorem W.lshr {x z : Int64} {y : Int32} (C : Good κ R Z own mnm bytes ml ret) (hd : Ins1 bytes pc .lshr 1 nx) (hz : x >>> (y &&& 0x3f).toInt64 = z) (k : W κ n0 Q h cs sl nx L (.long z :: rest)) : W κ n0 Q h cs sl pc L (.int y :: .long x :: rest) := by
  obtain ⟨hd, rfl⟩ := hd
  subst hz
  exact W.pure C k fun hA hx hby hr => XS.lshr hA hx rfl (hb hby hd) rfl hr
theorem W.lushr {x z : Int64} {y : Int32} (C : Good κ R Z own mnm bytes ml ret) (hd : Ins1 bytes pc .lushr 1 nx) (hz : (x.toUInt64 >>> (y &&& 0x3f).toInt64.toUInt64).toInt64 = z) (k : W κ n0 Q h cs sl nx L (.long z :: rest)) : W κ n0 Q h cs sl pc L (.int y :: .long x :: rest) := by
  obtain ⟨hd, rfl⟩ := hd
  subst hz
  exact W.pure C k fun hA hx hby hr => XS.lushr hA hx rfl (hb hby hd) rfl hr
theorem W.ineg {x : Int32} {z : Int32} (C : Good κ R Z own mnm bytes ml ret) (hd : Ins1 bytes pc .ineg 1 nx) (hz : -x = z) (k : W κ n0 Q h cs sl nx L (.int z :: rest)) : W κ n0 Q h cs sl pc L (.int x :: rest) := by
  obtain ⟨hd, rfl⟩ := hd
  subst hz
  exact W.pure C k fun hA hx hby hr => XS.ineg hA hx rfl (hb hby hd) rfl hr
theorem W.lneg {x : Int64} {z : Int64} (C : Good κ R Z own mnm bytes ml ret) (hd : Ins1 bytes pc .lneg 1 nx) (hz : -x = z) (k : W κ n0 Q h cs sl nx L (.long z :: rest)) : W κ n0 Q h cs sl pc L (.long x :: rest) := by
  obtain ⟨hd, rfl⟩ := hd
  subst hz
  exact W.pure C k fun hA hx hby hr => XS.lneg hA hx rfl (hb hby hd) rfl hr
theorem W.i2l {x : Int32} {z : Int64} (C : Good κ R Z own mnm bytes ml ret) (hd : Ins1 bytes pc .i2l 1 nx) (hz : x.toInt64 = z) (k : W κ n0 Q h cs sl nx L (.long z :: rest)) : W κ n0 Q h cs sl pc L (.int x :: rest) := by
  obtain ⟨hd, rfl⟩ := hd
  subst hz
  exact W.pure C k fun hA hx hby hr => XS.i2l hA hx rfl (hb hby hd) rfl hr
theorem W.l2i {x : Int64} {z : Int32} (C : Good κ R Z own mnm bytes ml ret) (hd : Ins1 bytes pc .l2i 1 nx) (hz : x.toInt32 = z) (k : W κ n0 Q h cs sl nx L (.int z :: rest)) : W κ n0 Q h cs sl pc L (.long x :: rest) := by
  obtain ⟨hd, rfl⟩ := hd
  subst hz
  exact W.pure C k fun hA hx hby hr => XS.l2i hA hx rfl (hb hby hd) rfl hr
theorem W.i2b {x : Int32} {z : Int32} (C : Good κ R Z own mnm bytes ml ret) (hd : Ins1 bytes pc .i2b 1 nx) (hz : x.toInt8.toInt32 = z) (k : W κ n0 Q h cs sl nx L (.int z :: rest)) : W κ n0 Q h cs sl pc L (.int x :: rest) := by
  obtain ⟨hd, rfl⟩ := hd
  subst hz
  exact W.pure C k fun hA hx hby hr => XS.i2b hA hx rfl (hb hby hd) rfl hr
theorem W.i2s {x : Int32} {z : Int32} (C : Good κ R Z own mnm bytes ml ret) (hd : Ins1 bytes pc .i2s 1 nx) (hz : x.toInt16.toInt32 = z) (k : W κ n0 Q h cs sl nx L (.int z :: rest)) : W κ n0 Q h cs sl pc L (.int x :: rest) := by
  obtain ⟨hd, rfl⟩ := hd
  subst hz
  exact W.pure C k fun hA hx hby hr => XS.i2s hA hx rfl (hb hby hd) rfl hr
theorem W.i2c {x : Int32} {z : Int32} (C : Good κ R Z own mnm bytes ml ret) (hd : Ins1 bytes pc .i2c 1 nx) (hz : x.toUInt32.toUInt16.toUInt32.toInt32 = z) (k : W κ n0 Q h cs sl nx L (.int z :: rest)) : W κ n0 Q h cs sl pc L (.int x :: rest) := by
  obtain ⟨hd, rfl⟩ := hd
  subst hz
  exact W.pure C k fun hA hx hby hr => XS.i2c hA hx rfl (hb hby hd) rfl hr
theorem W.iconst {i : Int} {z : Int32} (C : Good κ R Z own mnm bytes ml ret) (hd : Ins1 bytes pc (.iconst i) 1 nx) (hz : Int32.ofInt i = z) (k : W κ n0 Q h cs sl nx L (.int z :: st)) : W κ n0 Q h cs sl pc L st := by
  obtain ⟨hd, rfl⟩ := hd
  subst hz
  exact W.pure C k fun hA hx hby hr => XS.iconst hA hx rfl (hb hby hd) hr
theorem W.bipush {i : Int} {z : Int32} (C : Good κ R Z own mnm bytes ml ret) (hd : Ins1 bytes pc (.bipush i) 2 nx) (hz : (Int8.ofInt i).toInt32 = z) (k : W κ n0 Q h cs sl nx L (.int z :: st)) : W κ n0 Q h cs sl pc L st := by
  obtain ⟨hd, rfl⟩ := hd
  subst hz
  exact W.pure C k fun hA hx hby hr => XS.bipush hA hx rfl (hb hby hd) hr
theorem W.sipush {i : Int} {z : Int32} (C : Good κ R Z own mnm bytes ml ret) (hd : Ins1 bytes pc (.sipush i) 3 nx) (hz : (Int16.ofInt i).toInt32 = z) (k : W κ n0 Q h cs sl nx L (.int z :: st)) : W κ n0 Q h cs sl pc L st := by
  obtain ⟨hd, rfl⟩ := hd
  subst hz
  exact W.pure C k fun hA hx hby hr => XS.sipush hA hx rfl (hb hby hd) hr
theorem W.lconst {i : Fin 2} {z : Int64} (C : Good κ R Z own mnm bytes ml ret) (hd : Ins1 bytes pc (.lconst i) 1 nx) (hz : Int64.ofNat i = z) (k : W κ n0 Q h cs sl nx L (.long z :: st)) : W κ n0 Q h cs sl pc L st := by
  obtain ⟨hd, rfl⟩ := hd
  subst hz
  exact W.pure C k fun hA hx hby hr => XS.lconst hA hx rfl (hb hby hd) hr
theorem W.aconst_null (C : Good κ R Z own mnm bytes ml ret) (hd : Ins1 bytes pc .aconst_null 1 nx) (k : W κ n0 Q h cs sl nx L (.null :: st)) : W κ n0 Q h cs sl pc L st := by
  obtain ⟨hd, rfl⟩ := hd
  exact W.pure C k fun hA hx hby hr => XS.aconstNull hA hx rfl (hb hby hd) hr
theorem W.iload {i : Nat} {v : Int32} (C : Good κ R Z own mnm bytes ml ret) (hd : Ins1 bytes pc (.iload i) 2 nx) (hl : L[i]? = some (.val (.int v))) (k : W κ n0 Q h cs sl nx L ((.int v) :: st)) : W κ n0 Q h cs sl pc L st := by
  obtain ⟨hd, rfl⟩ := hd
  exact W.pure C k fun hA hx hby hr => XS.iload hA hx rfl (hb hby hd) (by simpa using hl) hr
theorem W.iloadN {i : Fin 4} {v : Int32} (C : Good κ R Z own mnm bytes ml ret) (hd : Ins1 bytes pc (.iload_n i) 1 nx) (hl : L[i.val]? = some (.val (.int v))) (k : W κ n0 Q h cs sl nx L ((.int v) :: st)) : W κ n0 Q h cs sl pc L st := by
  obtain ⟨hd, rfl⟩ := hd
  exact W.pure C k fun hA hx hby hr => XS.iloadN hA hx rfl (hb hby hd) (by simpa using hl) hr
theorem W.lload {i : Nat} {v : Int64} (C : Good κ R Z own mnm bytes ml ret) (hd : Ins1 bytes pc (.lload i) 2 nx) (hl : L[i]? = some (.val (.long v))) (k : W κ n0 Q h cs sl nx L ((.long v) :: st)) : W κ n0 Q h cs sl pc L st := by
  obtain ⟨hd, rfl⟩ := hd
  exact W.pure C k fun hA hx hby hr => XS.lload hA hx rfl (hb hby hd) (by simpa using hl) hr
theorem W.lloadN {i : Fin 4} {v : Int64} (C : Good κ R Z own mnm bytes ml ret) (hd : Ins1 bytes pc (.lload_n i) 1 nx) (hl : L[i.val]? = some (.val (.long v))) (k : W κ n0 Q h cs sl nx L ((.long v) :: st)) : W κ n0 Q h cs sl pc L st := by
  obtain ⟨hd, rfl⟩ := hd
  exact W.pure C k fun hA hx hby hr => XS.lloadN hA hx rfl (hb hby hd) (by simpa using hl) hr
theorem W.aload {i : Nat} {v : Value} (C : Good κ R Z own mnm bytes ml ret) (hd : Ins1 bytes pc (.aload i) 2 nx) (hl : L[i]? = some (.val (v))) (hv : v.isRef = true) (k : W κ n0 Q h cs sl nx L ((v) :: st)) : W κ n0 Q h cs sl pc L st := by
  obtain ⟨hd, rfl⟩ := hd
  exact W.pure C k fun hA hx hby hr => XS.aload hA hx rfl (hb hby hd) (by simpa using hl) hv hr
theorem W.aloadN {i : Fin 4} {v : Value} (C : Good κ R Z own mnm bytes ml ret) (hd : Ins1 bytes pc (.aload_n i) 1 nx) (hl : L[i.val]? = some (.val (v))) (hv : v.isRef = true) (k : W κ n0 Q h cs sl nx L ((v) :: st)) : W κ n0 Q h cs sl pc L st := by
  obtain ⟨hd, rfl⟩ := hd
  exact W.pure C k fun hA hx hby hr => XS.aloadN hA hx rfl (hb hby hd) (by simpa using hl) hv hr
theorem W.istore {i : Nat} {L' : List Slot} {v : Int32} (C : Good κ R Z own mnm bytes ml ret) (hd : Ins1 bytes pc (.istore i) 2 nx) (hl : storeLocals L.toArray i (.int v) = some L'.toArray) (k : W κ n0 Q h cs sl nx L' rest) : W κ n0 Q h cs sl pc L ((.int v) :: rest) := by
  obtain ⟨hd, rfl⟩ := hd
  exact W.pure C k fun hA hx hby hr => XS.istore hA hx rfl (hb hby hd) rfl hl hr
theorem W.istoreN {i : Fin 4} {L' : List Slot} {v : Int32} (C : Good κ R Z own mnm bytes ml ret) (hd : Ins1 bytes pc (.istore_n i) 1 nx) (hl : storeLocals L.toArray i.val (.int v) = some L'.toArray) (k : W κ n0 Q h cs sl nx L' rest) : W κ n0 Q h cs sl pc L ((.int v) :: rest) := by
  obtain ⟨hd, rfl⟩ := hd
  exact W.pure C k fun hA hx hby hr => XS.istoreN hA hx rfl (hb hby hd) rfl hl hr
theorem W.lstore {i : Nat} {L' : List Slot} {v : Int64} (C : Good κ R Z own mnm bytes ml ret) (hd : Ins1 bytes pc (.lstore i) 2 nx) (hl : storeLocals L.toArray i (.long v) = some L'.toArray) (k : W κ n0 Q h cs sl nx L' rest) : W κ n0 Q h cs sl pc L ((.long v) :: rest) := by
  obtain ⟨hd, rfl⟩ := hd
  exact W.pure C k fun hA hx hby hr => XS.lstore hA hx rfl (hb hby hd) rfl hl hr
theorem W.lstoreN {i : Fin 4} {L' : List Slot} {v : Int64} (C : Good κ R Z own mnm bytes ml ret) (hd : Ins1 bytes pc (.lstore_n i) 1 nx) (hl : storeLocals L.toArray i.val (.long v) = some L'.toArray) (k : W κ n0 Q h cs sl nx L' rest) : W κ n0 Q h cs sl pc L ((.long v) :: rest) := by
  obtain ⟨hd, rfl⟩ := hd
  exact W.pure C k fun hA hx hby hr => XS.lstoreN hA hx rfl (hb hby hd) rfl hl hr
theorem W.astore {i : Nat} {L' : List Slot} {v : Value} (C : Good κ R Z own mnm bytes ml ret) (hd : Ins1 bytes pc (.astore i) 2 nx) (hl : storeLocals L.toArray i (v) = some L'.toArray) (hv : v.isRef = true) (k : W κ n0 Q h cs sl nx L' rest) : W κ n0 Q h cs sl pc L ((v) :: rest) := by
  obtain ⟨hd, rfl⟩ := hd
  exact W.pure C k fun hA hx hby hr => XS.astore hA hx rfl (hb hby hd) rfl hv hl hr
theorem W.astoreN {i : Fin 4} {L' : List Slot} {v : Value} (C : Good κ R Z own mnm bytes ml ret) (hd : Ins1 bytes pc (.astore_n i) 1 nx) (hl : storeLocals L.toArray i.val (v) = some L'.toArray) (hv : v.isRef = true) (k : W κ n0 Q h cs sl nx L' rest) : W κ n0 Q h cs sl pc L ((v) :: rest) := by
  obtain ⟨hd, rfl⟩ := hd
  exact W.pure C k fun hA hx hby hr => XS.astoreN hA hx rfl (hb hby hd) rfl hv hl hr
theorem W.iinc {i : Nat} {d : Int} {v z : Int32} {L' : List Slot} (C : Good κ R Z own mnm bytes ml ret) (hd : Ins1 bytes pc (.iinc i d) 3 nx) (hl : L[i]? = some (.val (.int v))) (hz : v + Int32.ofInt d = z) (hl' : storeLocals L.toArray i (.int z) = some L'.toArray) (k : W κ n0 Q h cs sl nx L' st) : W κ n0 Q h cs sl pc L st := by
  obtain ⟨hd, rfl⟩ := hd
  subst hz
  exact W.pure C k fun hA hx hby hr => XS.iinc hA hx rfl (hb hby hd) (by simpa using hl) hl' hr
theorem W.dup {x : Value} (C : Good κ R Z own mnm bytes ml ret) (hd : Ins1 bytes pc .dup 1 nx) (hc : x.category = 1) (k : W κ n0 Q h cs sl nx L (x :: x :: rest)) : W κ n0 Q h cs sl pc L (x :: rest) := by
  obtain ⟨hd, rfl⟩ := hd
  exact W.pure C k fun hA hx hby hr => XS.dup hA hx rfl (hb hby hd) rfl hc hr
theorem W.pop {x : Value} (C : Good κ R Z own mnm bytes ml ret) (hd : Ins1 bytes pc .pop 1 nx) (hc : x.category = 1) (k : W κ n0 Q h cs sl nx L rest) : W κ n0 Q h cs sl pc L (x :: rest) := by
  obtain ⟨hd, rfl⟩ := hd
  exact W.pure C k fun hA hx hby hr => XS.pop hA hx rfl (hb hby hd) rfl hc hr
theorem W.dup_x1 {x y : Value} (C : Good κ R Z own mnm bytes ml ret) (hd : Ins1 bytes pc .dup_x1 1 nx) (hc : x.category = 1) (hc' : y.category = 1) (k : W κ n0 Q h cs sl nx L (x :: y :: x :: rest)) : W κ n0 Q h cs sl pc L (x :: y :: rest) := by
  obtain ⟨hd, rfl⟩ := hd
  exact W.pure C k fun hA hx hby hr => XS.dupX1 hA hx rfl (hb hby hd) rfl hc hc' hr
theorem W.dup2 {x y : Value} (C : Good κ R Z own mnm bytes ml ret) (hd : Ins1 bytes pc .dup2 1 nx) (hc : x.category = 1) (hc' : y.category = 1) (k : W κ n0 Q h cs sl nx L (x :: y :: x :: y :: rest)) : W κ n0 Q h cs sl pc L (x :: y :: rest) := by
  obtain ⟨hd, rfl⟩ := hd
  exact W.pure C k fun hA hx hby hr => XT.dup2 hA hx rfl (hb hby hd) rfl hc hc' hr
theorem W.dup2L {x : Int64} (C : Good κ R Z own mnm bytes ml ret) (hd : Ins1 bytes pc .dup2 1 nx) (k : W κ n0 Q h cs sl nx L (.long x :: .long x :: rest)) : W κ n0 Q h cs sl pc L (.long x :: rest) := by
  obtain ⟨hd, rfl⟩ := hd
  exact W.pure C k fun hA hx hby hr => XT.dup2L hA hx rfl (hb hby hd) rfl hr
theorem W.dup_x2 {x y z : Value} (C : Good κ R Z own mnm bytes ml ret) (hd : Ins1 bytes pc .dup_x2 1 nx) (hc : x.category = 1) (hc' : y.category = 1) (hc2 : z.category = 1) (k : W κ n0 Q h cs sl nx L (x :: y :: z :: x :: rest)) : W κ n0 Q h cs sl pc L (x :: y :: z :: rest) := by
  obtain ⟨hd, rfl⟩ := hd
  refine W.pure C k fun {p e below T target m c} hA hx hby hr => ?_
  have hd' := hb hby hd
  jvm_step hA [hA.top, hx, hd', hc, hc', hc2]
  exact hr
theorem W.goto {o : Int} (C : Good κ R Z own mnm bytes ml ret) (hd : Jmp1 bytes pc (.goto o) o nx tg) (k : W κ n0 Q h cs sl tg L st) : W κ n0 Q h cs sl pc L st := by
  obtain ⟨hd, rfl, h1, h2⟩ := hd
  exact W.pure C k fun hA hx hby hr => XS.goto hA hx rfl rfl (hb hby hd) h1 h2 hr
theorem W.icmpY {o : Int} {cd : ClassFile.Cond} {x y : Int32} (C : Good κ R Z own mnm bytes ml ret) (hd : Jmp1 bytes pc (.if_icmp cd o) o nx tg) (hc : cmpP cd x y) (k : W κ n0 Q h cs sl tg L rest) : W κ n0 Q h cs sl pc L (.int y :: .int x :: rest) := by
  obtain ⟨hd, rfl, h1, h2⟩ := hd
  exact W.pure C k fun hA hx hby hr => XS.icmpYes hA hx rfl rfl (hb hby hd) rfl ((cmpP_iff _ _ _).mpr hc) h1 h2 hr
theorem W.icmpN {o : Int} {cd : ClassFile.Cond} {x y : Int32} (C : Good κ R Z own mnm bytes ml ret) (hd : Jmp1 bytes pc (.if_icmp cd o) o nx tg) (hc : ¬ cmpP cd x y) (k : W κ n0 Q h cs sl nx L rest) : W κ n0 Q h cs sl pc L (.int y :: .int x :: rest) := by
  obtain ⟨hd, rfl, h1, h2⟩ := hd
  exact W.pure C k fun hA hx hby hr => XS.icmpNo hA hx rfl (hb hby hd) rfl (cmpP_no hc) hr
theorem W.icmp {o : Int} {cd : ClassFile.Cond} {x y : Int32} (C : Good κ R Z own mnm bytes ml ret) (hd : Jmp1 bytes pc (.if_icmp cd o) o nx tg) (ky : cmpP cd x y → W κ n0 Q h cs sl tg L rest) (kn : ¬ cmpP cd x y → W κ n0 Q h cs sl nx L rest) : W κ n0 Q h cs sl pc L (.int y :: .int x :: rest) := by
  by_cases hc : cmpP cd x y
  · exact W.icmpY C hd hc (ky hc)
  · exact W.icmpN C hd hc (kn hc)
theorem W.ifY {o : Int} {cd : ClassFile.Cond} {x : Int32} (C : Good κ R Z own mnm bytes ml ret) (hd : Jmp1 bytes pc (.ifCond cd o) o nx tg) (hc : cmp0 cd x) (k : W κ n0 Q h cs sl tg L rest) : W κ n0 Q h cs sl pc L (.int x :: rest) := by
  obtain ⟨hd, rfl, h1, h2⟩ := hd
  exact W.pure C k fun hA hx hby hr => XS.ifYes hA hx rfl rfl (hb hby hd) rfl ((if0 _ _).trans ((cmpP_iff _ _ _).mpr ((cmp0_iff _ _).mpr hc))) h1 h2 hr
theorem W.ifN {o : Int} {cd : ClassFile.Cond} {x : Int32} (C : Good κ R Z own mnm bytes ml ret) (hd : Jmp1 bytes pc (.ifCond cd o) o nx tg) (hc : ¬ cmp0 cd x) (k : W κ n0 Q h cs sl nx L rest) : W κ n0 Q h cs sl pc L (.int x :: rest) := by
  obtain ⟨hd, rfl, h1, h2⟩ := hd
  exact W.pure C k fun hA hx hby hr => XS.ifNo hA hx rfl (hb hby hd) rfl ((if0 _ _).trans (cmpP_no fun q => hc ((cmp0_iff _ _).mp q))) hr
theorem W.ifc {o : Int} {cd : ClassFile.Cond} {x : Int32} (C : Good κ R Z own mnm bytes ml ret) (hd : Jmp1 bytes pc (.ifCond cd o) o nx tg) (ky : cmp0 cd x → W κ n0 Q h cs sl tg L rest) (kn : ¬ cmp0 cd x → W κ n0 Q h cs sl nx L rest) : W κ n0 Q h cs sl pc L (.int x :: rest) := by
  by_cases hc : cmp0 cd x
  · exact W.ifY C hd hc (ky hc)
  · exact W.ifN C hd hc (kn hc)
theorem W.lcmp {x y : Int64} (C : Good κ R Z own mnm bytes ml ret) (hd : Ins1 bytes pc .lcmp 1 nx) (k : W κ n0 Q h cs sl nx L (.int (if x > y then 1 else if x = y then 0 else -1) :: rest)) : W κ n0 Q h cs sl pc L (.long y :: .long x :: rest) := by
  obtain ⟨hd, rfl⟩ := hd
  exact W.pure C k fun hA hx hby hr => XS.lcmp hA hx rfl (hb hby hd) rfl hr
theorem W.lcY {pc1 : Nat} {o : Int} {cd : ClassFile.Cond} {x y : Int64} (C : Good κ R Z own mnm bytes ml ret) (hd1 : Ins1 bytes pc .lcmp 1 pc1) (hd : Jmp1 bytes pc1 (.ifCond cd o) o nx tg) (hc : cmpL cd x y) (k : W κ n0 Q h cs sl tg L rest) : W κ n0 Q h cs sl pc L (.long y :: .long x :: rest) :=
  W.lcmp C hd1 (W.ifY C hd ((cmpL_iff _ _ _).mpr hc) k)
theorem W.lcN {pc1 : Nat} {o : Int} {cd : ClassFile.Cond} {x y : Int64} (C : Good κ R Z own mnm bytes ml ret) (hd1 : Ins1 bytes pc .lcmp 1 pc1) (hd : Jmp1 bytes pc1 (.ifCond cd o) o nx tg) (hc : ¬ cmpL cd x y) (k : W κ n0 Q h cs sl nx L rest) : W κ n0 Q h cs sl pc L (.long y :: .long x :: rest) :=
  W.lcmp C hd1 (W.ifN C hd (fun q => hc ((cmpL_iff _ _ _).mp q)) k)
theorem W.lc {pc1 : Nat} {o : Int} {cd : ClassFile.Cond} {x y : Int64} (C : Good κ R Z own mnm bytes ml ret) (hd1 : Ins1 bytes pc .lcmp 1 pc1) (hd : Jmp1 bytes pc1 (.ifCond cd o) o nx tg) (ky : cmpL cd x y → W κ n0 Q h cs sl tg L rest) (kn : ¬ cmpL cd x y → W κ n0 Q h cs sl nx L rest) : W κ n0 Q h cs sl pc L (.long y :: .long x :: rest) := by
  by_cases hc : cmpL cd x y
  · exact W.lcY C hd1 hd hc (ky hc)
  · exact W.lcN C hd1 hd hc (kn hc)
theorem W.ifnullY {o : Int} (C : Good κ R Z own mnm bytes ml ret) (hd : Jmp1 bytes pc (.ifnull o) o nx tg) (k : W κ n0 Q h cs sl tg L rest) : W κ n0 Q h cs sl pc L (.null :: rest) := by
  obtain ⟨hd, rfl, h1, h2⟩ := hd
  exact W.pure C k fun hA hx hby hr => XS.ifnullYes hA hx rfl rfl (hb hby hd) rfl h1 h2 hr
theorem W.ifnullN {o : Int} {b : Addr} (C : Good κ R Z own mnm bytes ml ret) (hd : Jmp1 bytes pc (.ifnull o) o nx tg) (k : W κ n0 Q h cs sl nx L rest) : W κ n0 Q h cs sl pc L (.ref b :: rest) := by
  obtain ⟨hd, rfl, h1, h2⟩ := hd
  exact W.pure C k fun hA hx hby hr => XS.ifnullNo hA hx rfl (hb hby hd) rfl hr
theorem W.ifnonnullY {o : Int} {b : Addr} (C : Good κ R Z own mnm bytes ml ret) (hd : Jmp1 bytes pc (.ifnonnull o) o nx tg) (k : W κ n0 Q h cs sl tg L rest) : W κ n0 Q h cs sl pc L (.ref b :: rest) := by
  obtain ⟨hd, rfl, h1, h2⟩ := hd
  exact W.pure C k fun hA hx hby hr => XS.ifnonnullYes hA hx rfl rfl (hb hby hd) rfl h1 h2 hr
theorem W.ifnonnullN {o : Int} (C : Good κ R Z own mnm bytes ml ret) (hd : Jmp1 bytes pc (.ifnonnull o) o nx tg) (k : W κ n0 Q h cs sl nx L rest) : W κ n0 Q h cs sl pc L (.null :: rest) := by
  obtain ⟨hd, rfl, h1, h2⟩ := hd
  exact W.pure C k fun hA hx hby hr => XS.ifnonnullNo hA hx rfl (hb hby hd) rfl hr
/-! ### steps that read the tables -/
theorem W.ldc {i : Nat} {v : Int32} (C : Good κ R Z own mnm bytes ml ret) (hd : Ins1 bytes pc (.ldc i) 2 nx) (w : (Jvm.Cond.constant own i v).before a0 Z = true) (k : W κ n0 Q h cs sl nx L (.int v :: st)) : W κ n0 Q h cs sl pc L st := by
  obtain ⟨hd, rfl⟩ := hd
  obtain ⟨p, l, e, R', s, m, args, below, meth, c⟩ := κ
  obtain ⟨hx, hZ, hby, hml, hown, hret, hlk, hnm, rfl⟩ := C
  intro T locs X eT N h1 h2
  obtain ⟨s₂, o, a, r⟩ := k T locs X eT N h1 h2
  exact ⟨s₂, o, X.ldcInt hx hown (mvT hZ w) (g := mkF m pc L.toArray st) rfl (hb hby hd) _ a, r⟩
theorem W.ldcw {i : Nat} {v : Int32} (C : Good κ R Z own mnm bytes ml ret) (hd : Ins1 bytes pc (.ldc_w i) 3 nx) (w : (Jvm.Cond.constant own i v).before a0 Z = true) (k : W κ n0 Q h cs sl nx L (.int v :: st)) : W κ n0 Q h cs sl pc L st := by
  obtain ⟨hd, rfl⟩ := hd
  obtain ⟨p, l, e, R', s, m, args, below, meth, c⟩ := κ
  obtain ⟨hx, hZ, hby, hml, hown, hret, hlk, hnm, rfl⟩ := C
  intro T locs X eT N h1 h2
  obtain ⟨s₂, o, a, r⟩ := k T locs X eT N h1 h2
  exact ⟨s₂, o, X.ldcwInt hx hown (mvT hZ w) (g := mkF m pc L.toArray st) rfl (hb hby hd) _ a, r⟩
theorem W.ldc2 {i : Nat} {v : Int64} (C : Good κ R Z own mnm bytes ml ret) (hd : Ins1 bytes pc (.ldc2_w i) 3 nx) (w : (Jvm.Cond.constantLong own i v).before a0 Z = true) (k : W κ n0 Q h cs sl nx L (.long v :: st)) : W κ n0 Q h cs sl pc L st := by
  obtain ⟨hd, rfl⟩ := hd
  obtain ⟨p, l, e, R', s, m, args, below, meth, c⟩ := κ
  obtain ⟨hx, hZ, hby, hml, hown, hret, hlk, hnm, rfl⟩ := C
  intro T locs X eT N h1 h2
  obtain ⟨s₂, o, a, r⟩ := k T locs X eT N h1 h2
  exact ⟨s₂, o, X.ldc2Long hx hown (mvT hZ w) (g := mkF m pc L.toArray st) rfl (hb hby hd) _ a, r⟩
/-! ### arrays -/
/-- at a lies an array of ty whose values are vs -/
def Av (Z : State) (h : Heap) (a : Addr) (ty : FieldType) (vs : List Value) : Prop := ∃ c : Cell, Arr Z h a c ty ∧ c.slots.toList = vs ∧ vs.length < 2147483648
theorem Av.lt {a : Addr} {ty : FieldType} {vs : List Value} (A : Av Z h a ty vs) : a < h.size := by obtain ⟨c, A, -⟩ := A; exact A.lt
theorem Av.ext {h' : Heap} {a : Addr} {ty : FieldType} {vs : List Value} (A : Av Z h a ty vs) (E : Ext h h') : Av Z h' a ty vs := by obtain ⟨c, A, r⟩ := A; exact ⟨c, A.ext E, r⟩
theorem Av.keep {h' : Heap} {ws : List Addr} {a : Addr} {ty : FieldType} {vs : List Value} (A : Av Z h a ty vs) (K : Keep h h' ws) (q : a ∉ ws) : Av Z h' a ty vs := by obtain ⟨c, A, r⟩ := A; exact ⟨c, ⟨K.2.1 a c A.1 q, A.2⟩, r⟩
theorem Av.other {h' : Heap} {a b : Addr} {sl : Nat} {v : Value} {ty : FieldType} {vs : List Value} (A : Av Z h b ty vs) (W : Wr h h' a sl v) (q : b ≠ a) : Av Z h' b ty vs := by obtain ⟨c, A, r⟩ := A; exact ⟨c, A.other W q, r⟩
theorem Av.set {h' : Heap} {a : Addr} {i : Nat} {v : Value} {ty : FieldType} {vs : List Value} (A : Av Z h a ty vs) (W : Wr h h' a i v) : Av Z h' a ty (vs.set i v) := by
  obtain ⟨c, A, rfl, r⟩ := A
  exact ⟨_, A.same W, by simp [Cell.setSlot], by simpa using r⟩
theorem Av.ne_exa {a b : Addr} {C' : String} {kk : Nat} {ty : FieldType} {vs : List Value} (A : Av Z h a ty vs) (E : Exa Z h b C') (wi : (Jvm.Cond.instantiable C' kk).before a0 Z = true) : a ≠ b := by obtain ⟨c, A, -⟩ := A; exact (ne_arr E wi A).symm
theorem clampNat {j : Int32} {i : Nat} (hj : j.toInt = i) : j.toNatClampNeg = i := by
  have e : j.toNatClampNeg = j.toInt.toNat := rfl
  omega
theorem inB {c : Cell} {vs : List Value} {j : Int32} {i : Nat} (e : c.slots.toList = vs) (hj : j.toInt = i) (hi : i < vs.length) : ¬ (j < 0 ∨ c.slots.size ≤ j.toNatClampNeg) := by
  have e1 := clampNat hj
  have e2 : c.slots.size = vs.length := by rw [← e]; simp
  rw [e1, e2, Int32.lt_iff_toInt_lt, hj, Int32.toInt_zero]
  omega
theorem inV {c : Cell} {vs : List Value} {j : Int32} {i : Nat} {v : Value} (e : c.slots.toList = vs) (hj : j.toInt = i) (hv : vs[i]? = some v) : c.slots[j.toNatClampNeg]? = some v := by
  rw [clampNat hj, ← hv, ← e]; simp
theorem ltOf {vs : List Value} {i : Nat} {v : Value} (hv : vs[i]? = some v) : i < vs.length := (List.getElem?_eq_some_iff.mp hv).1

theorem W.iaload {a : Addr} {vs : List Value} {j : Int32} {i : Nat} {v : Int32} (C : Good κ R Z own mnm bytes ml ret) (hd : Ins1 bytes pc .iaload 1 nx) (A : Av Z h a .int vs) (hj : j.toInt = i) (hv : vs[i]? = some (.int v)) (k : W κ n0 Q h cs sl nx L ((.int v) :: rest)) : W κ n0 Q h cs sl pc L (.int j :: .ref a :: rest) := by
  obtain ⟨hd, rfl⟩ := hd
  obtain ⟨p, l, e, R', s, m, args, below, meth, c⟩ := κ
  obtain ⟨hx, hZ, hby, hml, hown, hret, hlk, hnm, rfl⟩ := C
  intro T locs X eT N h1 h2
  obtain ⟨s₂, o, b, r⟩ := k T locs X eT N h1 h2
  obtain ⟨cl, Ar, q1, q2⟩ := A
  exact ⟨s₂, o, X.iaload hx (j := j) (by rw [eT]; exact Ar.1) (State.isArrayOf_alike hZ.alike Ar.2.1) Ar.2.2 (inB q1 hj (ltOf hv)) (inV q1 hj hv) (g := mkF m pc L.toArray (.int j :: .ref a :: rest)) rfl rfl (hb hby hd) _ b, r⟩
theorem W.baload {a : Addr} {vs : List Value} {j : Int32} {i : Nat} {v : Int32} (C : Good κ R Z own mnm bytes ml ret) (hd : Ins1 bytes pc .baload 1 nx) (A : Av Z h a .byte vs) (hj : j.toInt = i) (hv : vs[i]? = some (.int v)) (k : W κ n0 Q h cs sl nx L ((.int v) :: rest)) : W κ n0 Q h cs sl pc L (.int j :: .ref a :: rest) := by
  obtain ⟨hd, rfl⟩ := hd
  obtain ⟨p, l, e, R', s, m, args, below, meth, c⟩ := κ
  obtain ⟨hx, hZ, hby, hml, hown, hret, hlk, hnm, rfl⟩ := C
  intro T locs X eT N h1 h2
  obtain ⟨s₂, o, b, r⟩ := k T locs X eT N h1 h2
  obtain ⟨cl, Ar, q1, q2⟩ := A
  exact ⟨s₂, o, X.baloadBytes hx (j := j) (by rw [eT]; exact Ar.1) (State.isArrayOf_alike hZ.alike Ar.2.1) Ar.2.2 (inB q1 hj (ltOf hv)) (inV q1 hj hv) (g := mkF m pc L.toArray (.int j :: .ref a :: rest)) rfl rfl (hb hby hd) _ b, r⟩
theorem W.zaload {a : Addr} {vs : List Value} {j : Int32} {i : Nat} {v : Int32} (C : Good κ R Z own mnm bytes ml ret) (hd : Ins1 bytes pc .baload 1 nx) (A : Av Z h a .boolean vs) (hj : j.toInt = i) (hv : vs[i]? = some (.int v)) (k : W κ n0 Q h cs sl nx L ((.int v) :: rest)) : W κ n0 Q h cs sl pc L (.int j :: .ref a :: rest) := by
  obtain ⟨hd, rfl⟩ := hd
  obtain ⟨p, l, e, R', s, m, args, below, meth, c⟩ := κ
  obtain ⟨hx, hZ, hby, hml, hown, hret, hlk, hnm, rfl⟩ := C
  intro T locs X eT N h1 h2
  obtain ⟨s₂, o, b, r⟩ := k T locs X eT N h1 h2
  obtain ⟨cl, Ar, q1, q2⟩ := A
  exact ⟨s₂, o, X.baloadBooleans hx (j := j) (by rw [eT]; exact Ar.1) (State.isArrayOf_alike hZ.alike Ar.2.1) Ar.2.2 (inB q1 hj (ltOf hv)) (inV q1 hj hv) (g := mkF m pc L.toArray (.int j :: .ref a :: rest)) rfl rfl (hb hby hd) _ b, r⟩
theorem W.laload {a : Addr} {vs : List Value} {j : Int32} {i : Nat} {v : Int64} (C : Good κ R Z own mnm bytes ml ret) (hd : Ins1 bytes pc .laload 1 nx) (A : Av Z h a .long vs) (hj : j.toInt = i) (hv : vs[i]? = some (.long v)) (k : W κ n0 Q h cs sl nx L ((.long v) :: rest)) : W κ n0 Q h cs sl pc L (.int j :: .ref a :: rest) := by
  obtain ⟨hd, rfl⟩ := hd
  obtain ⟨p, l, e, R', s, m, args, below, meth, c⟩ := κ
  obtain ⟨hx, hZ, hby, hml, hown, hret, hlk, hnm, rfl⟩ := C
  intro T locs X eT N h1 h2
  obtain ⟨s₂, o, b, r⟩ := k T locs X eT N h1 h2
  obtain ⟨cl, Ar, q1, q2⟩ := A
  exact ⟨s₂, o, X.laload hx (j := j) (by rw [eT]; exact Ar.1) (State.isArrayOf_alike hZ.alike Ar.2.1) Ar.2.2 (inB q1 hj (ltOf hv)) (inV q1 hj hv) (g := mkF m pc L.toArray (.int j :: .ref a :: rest)) rfl rfl (hb hby hd) _ b, r⟩
theorem W.caload {a : Addr} {vs : List Value} {j : Int32} {i : Nat} {v : Int32} (C : Good κ R Z own mnm bytes ml ret) (hd : Ins1 bytes pc .caload 1 nx) (A : Av Z h a .char vs) (hj : j.toInt = i) (hv : vs[i]? = some (.int v)) (k : W κ n0 Q h cs sl nx L ((.int v) :: rest)) : W κ n0 Q h cs sl pc L (.int j :: .ref a :: rest) := by
  obtain ⟨hd, rfl⟩ := hd
  obtain ⟨p, l, e, R', s, m, args, below, meth, c⟩ := κ
  obtain ⟨hx, hZ, hby, hml, hown, hret, hlk, hnm, rfl⟩ := C
  intro T locs X eT N h1 h2
  obtain ⟨s₂, o, b, r⟩ := k T locs X eT N h1 h2
  obtain ⟨cl, Ar, q1, q2⟩ := A
  exact ⟨s₂, o, X.caload hx (j := j) (by rw [eT]; exact Ar.1) (State.isArrayOf_alike hZ.alike Ar.2.1) Ar.2.2 (inB q1 hj (ltOf hv)) (inV q1 hj hv) (g := mkF m pc L.toArray (.int j :: .ref a :: rest)) rfl rfl (hb hby hd) _ b, r⟩
theorem W.aaload {a : Addr} {ty : FieldType} {vs : List Value} {j : Int32} {i : Nat} {v : Value} (C : Good κ R Z own mnm bytes ml ret) (hd : Ins1 bytes pc .aaload 1 nx) (A : Av Z h a ty vs) (hty : ty.isReference = true) (hj : j.toInt = i) (hv : vs[i]? = some v) (k : W κ n0 Q h cs sl nx L (v :: rest)) : W κ n0 Q h cs sl pc L (.int j :: .ref a :: rest) := by
  obtain ⟨hd, rfl⟩ := hd
  obtain ⟨p, l, e, R', s, m, args, below, meth, c⟩ := κ
  obtain ⟨hx, hZ, hby, hml, hown, hret, hlk, hnm, rfl⟩ := C
  intro T locs X eT N h1 h2
  obtain ⟨s₂, o, b, r⟩ := k T locs X eT N h1 h2
  obtain ⟨cl, Ar, q1, q2⟩ := A
  exact ⟨s₂, o, X.aaload hx (j := j) (by rw [eT]; exact Ar.1) (State.isArrayOf_alike hZ.alike Ar.2.1) hty Ar.2.2 (inB q1 hj (ltOf hv)) (inV q1 hj hv) (g := mkF m pc L.toArray (.int j :: .ref a :: rest)) rfl rfl (hb hby hd) _ b, r⟩
theorem W.arraylength {a : Addr} {ty : FieldType} {vs : List Value} {z : Int32} (C : Good κ R Z own mnm bytes ml ret) (hd : Ins1 bytes pc .arraylength 1 nx) (A : Av Z h a ty vs) (hz : z.toInt = vs.length) (k : W κ n0 Q h cs sl nx L (.int z :: rest)) : W κ n0 Q h cs sl pc L (.ref a :: rest) := by
  obtain ⟨hd, rfl⟩ := hd
  obtain ⟨p, l, e, R', s, m, args, below, meth, c⟩ := κ
  obtain ⟨hx, hZ, hby, hml, hown, hret, hlk, hnm, rfl⟩ := C
  intro T locs X eT N h1 h2
  obtain ⟨s₂, o, b, r⟩ := k T locs X eT N h1 h2
  obtain ⟨cl, Ar, q1, q2⟩ := A
  have e2 : cl.slots.size = vs.length := by rw [← q1]; simp
  have e3 : cl.slots.size.toInt32 = z := Int32.toInt_inj.mp (by rw [hz, e2]; exact Int32.toInt_ofNat_of_lt q2)
  refine ⟨s₂, o, X.arraylength hx (by rw [eT]; exact Ar.1) (State.isArrayOf_alike hZ.alike Ar.2.1) (g := mkF m pc L.toArray (.ref a :: rest)) rfl rfl (hb hby hd) _ ?_, r⟩
  rw [e3]; exact b
theorem W.iastore {a : Addr} {vs : List Value} {j : Int32} {i : Nat} {x : Int32} (C : Good κ R Z own mnm bytes ml ret) (hd : Ins1 bytes pc .iastore 1 nx) (A : Av Z h a .int vs) (hj : j.toInt = i) (hi : i < vs.length) (hn : n0 ≤ a) (k : ∀ h', Wr h h' a i (.int x) → Av Z h' a .int (vs.set i (.int x)) → W κ n0 Q h' cs sl nx L rest) : W κ n0 Q h cs sl pc L ((.int x) :: .int j :: .ref a :: rest) := by
  obtain ⟨hd, rfl⟩ := hd
  obtain ⟨p, l, e, R', s, m, args, below, meth, c⟩ := κ
  obtain ⟨hx, hZ, hby, hml, hown, hret, hlk, hnm, rfl⟩ := C
  intro T locs X eT N h1 h2
  have A' := A
  obtain ⟨cl, Ar, q1, q2⟩ := A'
  obtain ⟨T', h', X', e', W', st'⟩ := stI X hx hZ eT Ar (j := j) (inB q1 hj hi) (g := mkF m pc L.toArray ((.int x) :: .int j :: .ref a :: rest)) rfl rfl (hb hby hd)
  have N' := Fr.snoc X' N hn
  rw [clampNat hj] at W'
  obtain ⟨s₂, o, b, r⟩ := k h' W' (A.set W') T' _ X' e' N' h1 h2
  exact ⟨s₂, o, st' _ b, r⟩
theorem W.bastore {a : Addr} {vs : List Value} {j : Int32} {i : Nat} {x : Int32} (C : Good κ R Z own mnm bytes ml ret) (hd : Ins1 bytes pc .bastore 1 nx) (A : Av Z h a .byte vs) (hj : j.toInt = i) (hi : i < vs.length) (hn : n0 ≤ a) (k : ∀ h', Wr h h' a i (.int x.toInt8.toInt32) → Av Z h' a .byte (vs.set i (.int x.toInt8.toInt32)) → W κ n0 Q h' cs sl nx L rest) : W κ n0 Q h cs sl pc L ((.int x) :: .int j :: .ref a :: rest) := by
  obtain ⟨hd, rfl⟩ := hd
  obtain ⟨p, l, e, R', s, m, args, below, meth, c⟩ := κ
  obtain ⟨hx, hZ, hby, hml, hown, hret, hlk, hnm, rfl⟩ := C
  intro T locs X eT N h1 h2
  have A' := A
  obtain ⟨cl, Ar, q1, q2⟩ := A'
  obtain ⟨T', h', X', e', W', st'⟩ := stB X hx hZ eT Ar (j := j) (inB q1 hj hi) (g := mkF m pc L.toArray ((.int x) :: .int j :: .ref a :: rest)) rfl rfl (hb hby hd)
  have N' := Fr.snoc X' N hn
  rw [clampNat hj] at W'
  obtain ⟨s₂, o, b, r⟩ := k h' W' (A.set W') T' _ X' e' N' h1 h2
  exact ⟨s₂, o, st' _ b, r⟩
theorem W.zastore {a : Addr} {vs : List Value} {j : Int32} {i : Nat} {x : Int32} (C : Good κ R Z own mnm bytes ml ret) (hd : Ins1 bytes pc .bastore 1 nx) (A : Av Z h a .boolean vs) (hj : j.toInt = i) (hi : i < vs.length) (hn : n0 ≤ a) (k : ∀ h', Wr h h' a i (.int (x &&& 1)) → Av Z h' a .boolean (vs.set i (.int (x &&& 1))) → W κ n0 Q h' cs sl nx L rest) : W κ n0 Q h cs sl pc L ((.int x) :: .int j :: .ref a :: rest) := by
  obtain ⟨hd, rfl⟩ := hd
  obtain ⟨p, l, e, R', s, m, args, below, meth, c⟩ := κ
  obtain ⟨hx, hZ, hby, hml, hown, hret, hlk, hnm, rfl⟩ := C
  intro T locs X eT N h1 h2
  have A' := A
  obtain ⟨cl, Ar, q1, q2⟩ := A'
  obtain ⟨T', h', X', e', W', st'⟩ := stZ X hx hZ eT Ar (j := j) (inB q1 hj hi) (g := mkF m pc L.toArray ((.int x) :: .int j :: .ref a :: rest)) rfl rfl (hb hby hd)
  have N' := Fr.snoc X' N hn
  rw [clampNat hj] at W'
  obtain ⟨s₂, o, b, r⟩ := k h' W' (A.set W') T' _ X' e' N' h1 h2
  exact ⟨s₂, o, st' _ b, r⟩
theorem W.lastore {a : Addr} {vs : List Value} {j : Int32} {i : Nat} {x : Int64} (C : Good κ R Z own mnm bytes ml ret) (hd : Ins1 bytes pc .lastore 1 nx) (A : Av Z h a .long vs) (hj : j.toInt = i) (hi : i < vs.length) (hn : n0 ≤ a) (k : ∀ h', Wr h h' a i (.long x) → Av Z h' a .long (vs.set i (.long x)) → W κ n0 Q h' cs sl nx L rest) : W κ n0 Q h cs sl pc L ((.long x) :: .int j :: .ref a :: rest) := by
  obtain ⟨hd, rfl⟩ := hd
  obtain ⟨p, l, e, R', s, m, args, below, meth, c⟩ := κ
  obtain ⟨hx, hZ, hby, hml, hown, hret, hlk, hnm, rfl⟩ := C
  intro T locs X eT N h1 h2
  have A' := A
  obtain ⟨cl, Ar, q1, q2⟩ := A'
  obtain ⟨T', h', X', e', W', st'⟩ := stJ X hx hZ eT Ar (j := j) (inB q1 hj hi) (g := mkF m pc L.toArray ((.long x) :: .int j :: .ref a :: rest)) rfl rfl (hb hby hd)
  have N' := Fr.snoc X' N hn
  rw [clampNat hj] at W'
  obtain ⟨s₂, o, b, r⟩ := k h' W' (A.set W') T' _ X' e' N' h1 h2
  exact ⟨s₂, o, st' _ b, r⟩
theorem W.castore {a : Addr} {vs : List Value} {j : Int32} {i : Nat} {x : Int32} (C : Good κ R Z own mnm bytes ml ret) (hd : Ins1 bytes pc .castore 1 nx) (A : Av Z h a .char vs) (hj : j.toInt = i) (hi : i < vs.length) (hn : n0 ≤ a) (k : ∀ h', Wr h h' a i (.int (nar .char x)) → Av Z h' a .char (vs.set i (.int (nar .char x))) → W κ n0 Q h' cs sl nx L rest) : W κ n0 Q h cs sl pc L ((.int x) :: .int j :: .ref a :: rest) := by
  obtain ⟨hd, rfl⟩ := hd
  obtain ⟨p, l, e, R', s, m, args, below, meth, c⟩ := κ
  obtain ⟨hx, hZ, hby, hml, hown, hret, hlk, hnm, rfl⟩ := C
  intro T locs X eT N h1 h2
  have A' := A
  obtain ⟨cl, Ar, q1, q2⟩ := A'
  obtain ⟨T', h', X', e', W', st'⟩ := stC X hx hZ eT Ar (j := j) (inB q1 hj hi) (g := mkF m pc L.toArray ((.int x) :: .int j :: .ref a :: rest)) rfl rfl (hb hby hd)
  have N' := Fr.snoc X' N hn
  rw [clampNat hj] at W'
  obtain ⟨s₂, o, b, r⟩ := k h' W' (A.set W') T' _ X' e' N' h1 h2
  exact ⟨s₂, o, st' _ b, r⟩
theorem Av.of_new {h' : Heap} {a : Addr} {cA : ClassId} {ty : FieldType} {n : Int32} (A : Arr Z h' a (newA cA ty n) ty) : Av Z h' a ty (List.replicate n.toNatClampNeg (defaultValue ty)) := by
  refine ⟨_, A, by simp [newA], ?_⟩
  have e : n.toNatClampNeg = n.toInt.toNat := rfl
  have := Int32.toInt_lt n
  rw [List.length_replicate]; omega
theorem W.newarray {aty : ArrayType} {ty : FieldType} {n : Int32} {vs : List Value} (cap : Nat) (C : Good κ R Z own mnm bytes ml ret) (hd : Ins1 bytes pc (.newarray aty) 2 nx) (hty : newarray.typeOf aty = ty) (w : (Jvm.Cond.arrayClass ty).before a0 Z = true) (hn : 0 ≤ n.toInt) (hcap : n.toInt ≤ cap) (hvs : List.replicate n.toNatClampNeg (defaultValue ty) = vs) (hb8 : cap * 8 ≤ 536870912) (hc : cs + 1 ≤ R.cells) (hl : sl + cap ≤ R.slots) (k : ∀ h' a, h.size = a → Ext h h' → Av Z h' a ty vs → W κ n0 Q h' (cs + 1) (sl + cap) nx L (.ref a :: rest)) : W κ n0 Q h cs sl pc L (.int n :: rest) := by
  subst hty
  obtain ⟨hd, rfl⟩ := hd
  obtain ⟨p, l, e, R', s, m, args, below, meth, c⟩ := κ
  obtain ⟨hx, hZ, hby, hml, hown, hret, hlk, hnm, rfl⟩ := C
  intro T locs X eT N h1 h2
  have hn' : ¬ n < 0 := by rw [Int32.lt_iff_toInt_lt, Int32.toInt_zero]; omega
  have hc' : n.toNatClampNeg ≤ cap := by have e : n.toNatClampNeg = n.toInt.toNat := rfl; omega
  obtain ⟨T', h', cA, X', e', E', A', st'⟩ := newP X hx hZ w eT (g := mkF m pc L.toArray (.int n :: rest)) rfl (hb hby hd) rfl hn' (cap := cap) hc' hb8 hc hl
  obtain ⟨s₂, o, b, r⟩ := k h' _ rfl E' (hvs ▸ Av.of_new A') T' _ X' e' N hc hl
  exact ⟨s₂, o, st' _ b, r⟩
/-! ### objects -/
theorem W.new {i : Nat} {C' : String} {nf : Nat} (C : Good κ R Z own mnm bytes ml ret) (hd : Ins1 bytes pc (.new i) 3 nx) (w1 : (Jvm.Cond.classLink own i C').before a0 Z = true) (w2 : (Jvm.Cond.instantiable C' nf).before a0 Z = true) (w3 : (Jvm.Cond.initialized C').before a0 Z = true) (hc : cs + 1 ≤ R.cells) (hl : sl + nf ≤ R.slots)
    (k : ∀ h' a, h.size = a → Ext h h' → Exa Z h' a C' → (∀ {O nm d : String} {ty : FieldType}, Laid Z a0 C' O nm d → parseFieldDescriptor d = some ty → Fld Z h' a O nm d (defaultValue ty)) → W κ n0 Q h' (cs + 1) (sl + nf) nx L (.ref a :: st)) : W κ n0 Q h cs sl pc L st := by
  obtain ⟨hd, rfl⟩ := hd
  obtain ⟨p, l, e, R', s, m, args, below, meth, c⟩ := κ
  obtain ⟨hx, hZ, hby, hml, hown, hret, hlk, hnm, rfl⟩ := C
  intro T locs X eT N h1 h2
  obtain ⟨T', h', X', e', E', A', D', -, st'⟩ := newO X hx hZ hown w1 w2 w3 eT (g := mkF m pc L.toArray st) rfl (hb hby hd) hc hl
  obtain ⟨s₂, o, b, r⟩ := k h' _ rfl E' A' D' T' _ X' e' N hc hl
  exact ⟨s₂, o, st' _ b, r⟩
theorem W.getfield {i : Nat} {R0 O nm d host : String} {a : Addr} {v : Value} (C : Good κ R Z own mnm bytes ml ret) (hd : Ins1 bytes pc (.getfield i) 3 nx) (w : (Jvm.Cond.fieldLink own i R0 nm d).before a0 Z = true ∨ (Jvm.Cond.fieldLinkNest own i R0 nm d host).before a0 Z = true) (via : Via Z R0 O nm d) (F : Fld Z h a O nm d v) (k : W κ n0 Q h cs sl nx L (v :: rest)) : W κ n0 Q h cs sl pc L (.ref a :: rest) := by
  obtain ⟨hd, rfl⟩ := hd
  obtain ⟨p, l, e, R', s, m, args, below, meth, c⟩ := κ
  obtain ⟨hx, hZ, hby, hml, hown, hret, hlk, hnm, rfl⟩ := C
  intro T locs X eT N h1 h2
  obtain ⟨T', X', e', st'⟩ := getF X hx hZ hown w via eT F (g := mkF m pc L.toArray (.ref a :: rest)) rfl rfl (hb hby hd)
  obtain ⟨s₂, o, b, r⟩ := k T' _ X' e' N h1 h2
  exact ⟨s₂, o, st' _ b, r⟩
theorem W.getstatic {i : Nat} {R0 O nm d host : String} {v : Value} (C : Good κ R Z own mnm bytes ml ret) (hd : Ins1 bytes pc (.getstatic i) 3 nx) (w : (Jvm.Cond.fieldLink own i R0 nm d).before a0 Z = true ∨ (Jvm.Cond.fieldLinkNest own i R0 nm d host).before a0 Z = true) (via : Via Z R0 O nm d) (F : Sta Z h O nm d v) (k : W κ n0 Q h cs sl nx L (v :: st)) : W κ n0 Q h cs sl pc L st := by
  obtain ⟨hd, rfl⟩ := hd
  obtain ⟨p, l, e, R', s, m, args, below, meth, c⟩ := κ
  obtain ⟨hx, hZ, hby, hml, hown, hret, hlk, hnm, rfl⟩ := C
  intro T locs X eT N h1 h2
  obtain ⟨T', X', e', st'⟩ := getS2 X hx hZ hown w via eT F (g := mkF m pc L.toArray st) rfl (hb hby hd)
  obtain ⟨s₂, o, b, r⟩ := k T' _ X' e' N h1 h2
  exact ⟨s₂, o, st' _ b, r⟩
theorem W.putfield {i kk : Nat} {R0 O nm d host C' : String} {ty : FieldType} {a : Addr} {v old : Value} (C : Good κ R Z own mnm bytes ml ret) (hd : Ins1 bytes pc (.putfield i) 3 nx) (w : (Jvm.Cond.fieldLink own i R0 nm d).before a0 Z = true ∨ (Jvm.Cond.fieldLinkNest own i R0 nm d host).before a0 Z = true) (via : Via Z R0 O nm d) (F : Fld Z h a O nm d old) (E : Exa Z h a C')
    (Ly : (Jvm.Cond.lays C' O nm d).before a0 Z = true ∨ ((Jvm.Cond.laysFinal C' O nm d).before a0 Z = true ∧ own = O ∧ mnm = "<init>")) (wi : (Jvm.Cond.instantiable C' kk).before a0 Z = true) (hty : parseFieldDescriptor d = some ty) (hnw : narrow ty v = v) (hf : fits ty v = true) (hn : n0 ≤ a)
    (k : ∀ h', Wr h h' a (Jvm.RoadKit.slotOf Z O nm d) v → Fld Z h' a O nm d v → W κ n0 Q h' cs sl nx L rest) : W κ n0 Q h cs sl pc L (v :: .ref a :: rest) := by
  obtain ⟨hd, rfl⟩ := hd
  obtain ⟨p, l, e, R', s, m, args, below, meth, c⟩ := κ
  obtain ⟨hx, hZ, hby, hml, hown, hret, hlk, hnm, rfl⟩ := C
  intro T locs X eT N h1 h2
  obtain ⟨T', h', X', e', W', st'⟩ := putF X hx hZ hown w via eT F E (Ly.imp id fun q => ⟨q.1, q.2.1, hnm.trans q.2.2⟩) wi hty hnw hf (g := mkF m pc L.toArray (v :: .ref a :: rest)) rfl rfl (hb hby hd)
  have N' := Fr.snoc X' N hn
  obtain ⟨s₂, o, b, r⟩ := k h' W' (F.same W') T' _ X' e' N' h1 h2
  exact ⟨s₂, o, st' _ b, r⟩
theorem W.putfieldN {i kk : Nat} {R0 O nm d C' : String} {ty : FieldType} {a : Addr} {v v' old : Value} (C : Good κ R Z own mnm bytes ml ret) (hd : Ins1 bytes pc (.putfield i) 3 nx) (w : (Jvm.Cond.fieldLink own i R0 nm d).before a0 Z = true) (via : Via Z R0 O nm d) (F : Fld Z h a O nm d old) (E : Exa Z h a C')
    (Ly : (Jvm.Cond.lays C' O nm d).before a0 Z = true ∨ ((Jvm.Cond.laysFinal C' O nm d).before a0 Z = true ∧ own = O ∧ mnm = "<init>")) (wi : (Jvm.Cond.instantiable C' kk).before a0 Z = true) (hty : parseFieldDescriptor d = some ty) (hnw : narrow ty v = v') (hf : fits ty v' = true) (hn : n0 ≤ a)
    (k : ∀ h', Wr h h' a (Jvm.RoadKit.slotOf Z O nm d) v' → Fld Z h' a O nm d v' → W κ n0 Q h' cs sl nx L rest) : W κ n0 Q h cs sl pc L (v :: .ref a :: rest) := by
  obtain ⟨hd, rfl⟩ := hd
  obtain ⟨p, l, e, R', s, m, args, below, meth, c⟩ := κ
  obtain ⟨hx, hZ, hby, hml, hown, hret, hlk, hnm, rfl⟩ := C
  intro T locs X eT N h1 h2
  obtain ⟨T', h', X', e', W', st'⟩ := putFN X hx hZ hown w via eT F E (Ly.imp id fun q => ⟨q.1, q.2.1, hnm.trans q.2.2⟩) wi hty hnw hf (g := mkF m pc L.toArray (v :: .ref a :: rest)) rfl rfl (hb hby hd)
  have N' := Fr.snoc X' N hn
  obtain ⟨s₂, o, b, r⟩ := k h' W' (F.same W') T' _ X' e' N' h1 h2
  exact ⟨s₂, o, st' _ b, r⟩
/-! ### returns -/
theorem W.ireturn {z : Int32} (C : Good κ R Z own mnm bytes ml (some .int)) (hd : Ins1 bytes pc .ireturn 1 nx) (hq : Q (some (.int z)) h) : W κ n0 Q h cs sl pc L (.int z :: rest) := by
  obtain ⟨p, l, e, R', s, m, args, below, meth, c⟩ := κ
  obtain ⟨hx, hZ, hby, hml, hown, hret, hlk, hnm, rfl⟩ := C
  intro T locs X eT N h1 h2
  obtain ⟨fs, hr, hrun, hended, hW, hsame⟩ := X.leave (v := some (.int z)) (fun h => by rw [hret] at h; cases h) hlk
  refine ⟨_, _, retOut X hx hret rfl (Or.inl ⟨rfl, Or.inl rfl, z, rfl⟩) (hb hby hd.1) hr, hrun, hended, _, _, rfl, ⟨?_, N⟩, ⟨_, rfl⟩, hW, hsame.mono h1 h2⟩
  show Q _ T.heap
  rw [eT]; exact hq
theorem W.nreturn {t : FieldType} {z : Int32} (C : Good κ R Z own mnm bytes ml (some t)) (ht : t = .boolean ∨ t = .byte ∨ t = .char ∨ t = .short) (hd : Ins1 bytes pc .ireturn 1 nx) (hq : Q (some (.int (nar t z))) h) : W κ n0 Q h cs sl pc L (.int z :: rest) := by
  obtain ⟨p, l, e, R', s, m, args, below, meth, c⟩ := κ
  obtain ⟨hx, hZ, hby, hml, hown, hret, hlk, hnm, rfl⟩ := C
  intro T locs X eT N h1 h2
  obtain ⟨fs, hr, hrun, hended, hW, hsame⟩ := X.leave (v := some (.int (nar t z))) (fun h => by rw [hret] at h; cases h) hlk
  refine ⟨_, _, retN X hx hret ht (hb hby hd.1) hr, hrun, hended, _, _, rfl, ⟨?_, N⟩, ⟨_, rfl⟩, hW, hsame.mono h1 h2⟩
  show Q _ T.heap
  rw [eT]; exact hq
theorem W.zreturn {z : Int32} (C : Good κ R Z own mnm bytes ml (some .boolean)) (hd : Ins1 bytes pc .ireturn 1 nx) (hq : Q (some (.int (z &&& 1))) h) : W κ n0 Q h cs sl pc L (.int z :: rest) := W.nreturn C (Or.inl rfl) hd hq
theorem W.lreturn {z : Int64} (C : Good κ R Z own mnm bytes ml (some .long)) (hd : Ins1 bytes pc .lreturn 1 nx) (hq : Q (some (.long z)) h) : W κ n0 Q h cs sl pc L (.long z :: rest) := by
  obtain ⟨p, l, e, R', s, m, args, below, meth, c⟩ := κ
  obtain ⟨hx, hZ, hby, hml, hown, hret, hlk, hnm, rfl⟩ := C
  intro T locs X eT N h1 h2
  obtain ⟨fs, hr, hrun, hended, hW, hsame⟩ := X.leave (v := some (.long z)) (fun h => by rw [hret] at h; cases h) hlk
  refine ⟨_, _, retOut X hx hret rfl (Or.inr (Or.inl ⟨rfl, rfl, z, rfl⟩)) (hb hby hd.1) hr, hrun, hended, _, _, rfl, ⟨?_, N⟩, ⟨_, rfl⟩, hW, hsame.mono h1 h2⟩
  show Q _ T.heap
  rw [eT]; exact hq
theorem W.areturn {t : FieldType} {v : Value} (C : Good κ R Z own mnm bytes ml (some t)) (ht : t.isReference = true) (hv : v.isRef = true) (hd : Ins1 bytes pc .areturn 1 nx) (hq : Q (some v) h) : W κ n0 Q h cs sl pc L (v :: rest) := by
  obtain ⟨p, l, e, R', s, m, args, below, meth, c⟩ := κ
  obtain ⟨hx, hZ, hby, hml, hown, hret, hlk, hnm, rfl⟩ := C
  intro T locs X eT N h1 h2
  obtain ⟨fs, hr, hrun, hended, hW, hsame⟩ := X.leave (v := some v) (fun h => by rw [hret] at h; cases h) hlk
  have hnw : narrow t v = v := by cases t <;> first | (cases ht; done) | (cases v <;> first | rfl | (cases hv; done))
  refine ⟨_, _, retOut X hx hret hnw (Or.inr (Or.inr (Or.inr (Or.inr ⟨rfl, ht, hv⟩)))) (hb hby hd.1) hr, hrun, hended, _, _, rfl, ⟨?_, N⟩, ⟨_, rfl⟩, hW, hsame.mono h1 h2⟩
  show Q _ T.heap
  rw [eT]; exact hq
theorem W.vreturn (C : Good κ R Z own mnm bytes ml none) (hd : Ins1 bytes pc .return_ 1 nx) (hq : Q none h) : W κ n0 Q h cs sl pc L [] := by
  obtain ⟨p, l, e, R', s, m, args, below, meth, c⟩ := κ
  obtain ⟨hx, hZ, hby, hml, hown, hret, hlk, hnm, rfl⟩ := C
  intro T locs X eT N h1 h2
  obtain ⟨fs, hr, hrun, hended, hW, hsame⟩ := X.leave (v := none) (fun _ => rfl) hlk
  refine ⟨_, _, X.returnOut hx hret (hb hby hd.1) hr, hrun, hended, _, _, rfl, ⟨?_, N⟩, ⟨_, rfl⟩, hW, hsame.mono h1 h2⟩
  show Q _ T.heap
  rw [eT]; exact hq
/-! ### calls -/
theorem Con.of {y : MethodName} {cb : ByteArray} {cml : Nat} {cret : Option FieldType} {rm : Room} {as' : List Value} {h0 : Heap} {L : List Slot} (hy : plainFor y = true) (hef : ∀ m, entryFrame m as'.toArray cml = mkF m 0 L.toArray []) (k : ∀ κ (Qx : Option Value → Heap → Prop), (∀ v h', Q v h' → Qx v h') → Good κ rm Z y.cls y.name cb cml cret → W κ n0 Qx h0 0 0 0 L []) : Con Z y cb cml cret rm as' h0 n0 Q := by
  intro l ws
  refine MetFree.of_bodySF hy hisR ?_
  intro p e s m args below meth c s₁ Bd hml0 hP hK
  obtain ⟨rfl, hZ, hh⟩ := hP
  have X0 : Stand p l e rm s m as'.toArray below meth c s₁ [] 0 0 := Stand.of_body Bd
  have e0 : s₁.heap = h0 := by rw [← hh, Bd.state]; rfl
  rw [hef m]
  exact k (p, l, e, rm, s, m, as'.toArray, below, meth, c) Q (fun _ _ q => q) ⟨Bd.exec, hZ, Bd.bytes, hml0, findClass_of_methodNamed Bd.named, Bd.returns, BodyLoose.notSynchronized Bd, (name_of_methodNamed Bd.named Bd.method).1, rfl⟩ s₁ [] X0 e0 (Fr.nil n0) (Nat.zero_le _) (Nat.zero_le _)
theorem Con.post {y : MethodName} {cb : ByteArray} {cml : Nat} {cret : Option FieldType} {rm : Room} {as' : List Value} {h0 : Heap} {Q' : Option Value → Heap → Prop} (hq : ∀ v h, Q v h → Q' v h) (k : Con Z y cb cml cret rm as' h0 n0 Q) : Con Z y cb cml cret rm as' h0 n0 Q' := by
  intro l ws p e h1 h2 h3 s m args below h4 h5 h6 h7
  obtain ⟨n, o, g1, g2, g3, v, L, e1, ⟨e2, e3⟩, e4⟩ := k l ws p e h1 h2 h3 s m args below h4 h5 h6 h7
  exact ⟨n, o, g1, g2, g3, v, L, e1, ⟨hq _ _ e2, e3⟩, e4⟩
theorem W.callS {i : Nat} {y : MethodName} {cb : ByteArray} {cml wt : Nat} {cret : Option FieldType} {rm : Room} {as' : List Value} {Qc : Option Value → Heap → Prop} {ps : List FieldType} {rt : Option FieldType} (C : Good κ R Z own mnm bytes ml ret) (hd : Ins1 bytes pc (.invokestatic i) 3 nx)
    (w1 : (Jvm.Cond.methodLink own i y).before a0 Z = true) (w2 : (Jvm.Cond.static y).before a0 Z = true) (w3 : (Jvm.Cond.initialized y.cls).before a0 Z = true) (w4 : (Jvm.Cond.code y cb cml cret).before a0 Z = true) (hy : y.cls ≠ "java/lang/invoke/MethodHandle" ∧ y.cls ≠ "java/lang/invoke/VarHandle")
    (hpd : parseMethodDescriptor y.desc = some ⟨ps, rt⟩) (hlen : as'.length = ps.length) (hM : Con Z y cb cml cret rm as' h n0 Qc) (hst : st = as'.reverse ++ rest) (hL : L.length = ml) (hwt : 2 * 0 + (rest.map fun v => v.category).sum ≤ wt)
    (hfr : rm.frames + 1 ≤ R.frames) (hlo : wt + (cml + 11) + rm.locals ≤ R.locals) (hcs : cs + rm.cells ≤ R.cells) (hsl : sl + rm.slots ≤ R.slots)
    (k : ∀ v h', Qc v h' → W κ n0 Q h' (cs + rm.cells) (sl + rm.slots) nx L (v.toList ++ rest)) : W κ n0 Q h cs sl pc L st := by
  obtain ⟨hd, rfl⟩ := hd
  obtain ⟨p, l, e, R', s, m, args, below, meth, c⟩ := κ
  obtain ⟨hx, hZ, hby, hml, hown, hret, hlk, hnm, rfl⟩ := C
  intro T locs X eT N h1 h2
  obtain ⟨v, _, ⟨T2, L2, k2, n2⟩, -, X2, ⟨Lc, hQ, l2, y2, z2⟩, st2⟩ := Jvm.LawKit.callS X hx (y := y) hown (mvT hZ w1) (mvT hZ w2) (mvT hZ w3) (mvT hZ w4) hy (backOf (W := wt) (Q := fun v h L => Qc v h ∧ Fr n0 L) (hM l []) hZ w4 w3 hfr hlo) (g := mkF m pc L.toArray st) rfl (by show L.toArray.size = _; rw [hml, ← hL]; simp) (argsL := as') (rest := rest) (lenOf hpd hlen) hst hwt (hb hby hd) (fun _ _ => ⟨rfl, eT, hcs, hsl⟩)
  dsimp only [Pt.U, Pt.locs, Pt.cells, Pt.slots] at X2 l2 y2 z2 st2 hQ
  subst l2 y2 z2
  obtain ⟨s₂, o, b, r⟩ := k v T2.heap hQ.1 T2 _ X2 rfl (Fr.app N hQ.2) hcs hsl
  exact ⟨s₂, o, st2 _ b, r⟩
theorem W.callC {i : Nat} {y : MethodName} {cb : ByteArray} {cml wt : Nat} {rm : Room} {a : Addr} {as' : List Value} {Qc : Option Value → Heap → Prop} {ps : List FieldType} {rt : Option FieldType} (C : Good κ R Z own mnm bytes ml ret) (hd : Ins1 bytes pc (.invokespecial i) 3 nx) (hy1 : y.name = "<init>")
    (w1 : (Jvm.Cond.methodLink own i y).before a0 Z = true) (w2 : (Jvm.Cond.instanceMethod y).before a0 Z = true) (w3 : (Jvm.Cond.initialized y.cls).before a0 Z = true) (w4 : (Jvm.Cond.code y cb cml none).before a0 Z = true) (hy : y.cls ≠ "java/lang/invoke/MethodHandle" ∧ y.cls ≠ "java/lang/invoke/VarHandle")
    (hpd : parseMethodDescriptor y.desc = some ⟨ps, rt⟩) (hlen : as'.length = ps.length) (hM : Con Z y cb cml none rm (.ref a :: as') h n0 Qc) (hst : st = as'.reverse ++ .ref a :: rest) (hL : L.length = ml) (hwt : 2 * 0 + (rest.map fun v => v.category).sum ≤ wt)
    (hfr : rm.frames + 1 ≤ R.frames) (hlo : wt + (cml + 11) + rm.locals ≤ R.locals) (hcs : cs + rm.cells ≤ R.cells) (hsl : sl + rm.slots ≤ R.slots)
    (k : ∀ v h', Qc v h' → W κ n0 Q h' (cs + rm.cells) (sl + rm.slots) nx L (v.toList ++ rest)) : W κ n0 Q h cs sl pc L st := by
  obtain ⟨hd, rfl⟩ := hd
  obtain ⟨p, l, e, R', s, m, args, below, meth, c⟩ := κ
  obtain ⟨hx, hZ, hby, hml, hown, hret, hlk, hnm, rfl⟩ := C
  intro T locs X eT N h1 h2
  obtain ⟨v, _, ⟨T2, L2, k2, n2⟩, -, X2, ⟨Lc, hQ, l2, y2, z2⟩, st2⟩ := X.specialBack hx (y := y) hy1 hown (mvT hZ w1) (mvT hZ w2) (mvT hZ w4) hy (backOf (W := wt) (Q := fun v h L => Qc v h ∧ Fr n0 L) (hM l []) hZ w4 w3 hfr hlo) (g := mkF m pc L.toArray st) rfl (by show L.toArray.size = _; rw [hml, ← hL]; simp) (Steps.refl _) (a := a) (argsL := as') (rest := rest) (lenOf hpd hlen) hst hwt (hb hby hd) (fun _ _ => ⟨rfl, eT, hcs, hsl⟩)
  dsimp only [Pt.U, Pt.locs, Pt.cells, Pt.slots] at X2 l2 y2 z2 st2 hQ
  subst l2 y2 z2
  obtain ⟨s₂, o, b, r⟩ := k v T2.heap hQ.1 T2 _ X2 rfl (Fr.app N hQ.2) hcs hsl
  exact ⟨s₂, o, st2.trans b, r⟩
theorem W.callV {i : Nat} {C' : String} {y : MethodName} {cb : ByteArray} {cml wt : Nat} {cret : Option FieldType} {rm : Room} {a : Addr} {as' : List Value} {Qc : Option Value → Heap → Prop} {ps : List FieldType} {rt : Option FieldType} (C : Good κ R Z own mnm bytes ml ret) (hd : Ins1 bytes pc (.invokevirtual i) 3 nx)
    (w1 : (Jvm.Cond.methodLink own i y).before a0 Z = true) (w2 : (Jvm.Cond.declares y).before a0 Z = true) (w5 : (Jvm.Cond.selects C' y y).before a0 Z = true) (w6 : (Jvm.Cond.instanceMethod y).before a0 Z = true) (w3 : (Jvm.Cond.initialized y.cls).before a0 Z = true) (w4 : (Jvm.Cond.code y cb cml cret).before a0 Z = true) (hy : y.cls ≠ "java/lang/invoke/MethodHandle" ∧ y.cls ≠ "java/lang/invoke/VarHandle")
    (E : Exa Z h a C') (hpd : parseMethodDescriptor y.desc = some ⟨ps, rt⟩) (hlen : as'.length = ps.length) (hM : Con Z y cb cml cret rm (.ref a :: as') h n0 Qc) (hst : st = as'.reverse ++ .ref a :: rest) (hL : L.length = ml) (hwt : 2 * 0 + (rest.map fun v => v.category).sum ≤ wt)
    (hfr : rm.frames + 1 ≤ R.frames) (hlo : wt + (cml + 11) + rm.locals ≤ R.locals) (hcs : cs + rm.cells ≤ R.cells) (hsl : sl + rm.slots ≤ R.slots)
    (k : ∀ v h', Qc v h' → W κ n0 Q h' (cs + rm.cells) (sl + rm.slots) nx L (v.toList ++ rest)) : W κ n0 Q h cs sl pc L st := by
  obtain ⟨hd, rfl⟩ := hd
  obtain ⟨p, l, e, R', s, m, args, below, meth, c⟩ := κ
  obtain ⟨hx, hZ, hby, hml, hown, hret, hlk, hnm, rfl⟩ := C
  intro T locs X eT N h1 h2
  obtain ⟨cq, kq, qa, qb, qc⟩ := isOf hZ eT E
  obtain ⟨v, _, ⟨T2, L2, k2, n2⟩, -, X2, ⟨Lc, hQ, l2, y2, z2⟩, st2⟩ := X.virtualBack hx (y := y) (z := y) hown (mvT hZ w1) (mvT hZ w2) (notFace_of_selects (args := #[]) (mvT hZ w5)) (mvT hZ w5) (mvT hZ w6) hy (backOf (W := wt) (Q := fun v h L => Qc v h ∧ Fr n0 L) (hM l []) hZ w4 w3 hfr hlo) qa qc (g := mkF m pc L.toArray st) rfl (by show L.toArray.size = _; rw [hml, ← hL]; simp) (Steps.refl _) (argsL := as') (rest := rest) (lenOf hpd hlen) hst hwt (hb hby hd) (fun _ _ => ⟨rfl, eT, hcs, hsl⟩)
  dsimp only [Pt.U, Pt.locs, Pt.cells, Pt.slots] at X2 l2 y2 z2 st2 hQ
  subst l2 y2 z2
  obtain ⟨s₂, o, b, r⟩ := k v T2.heap hQ.1 T2 _ X2 rfl (Fr.app N hQ.2) hcs hsl
  exact ⟨s₂, o, st2.trans b, r⟩
theorem W.callP {i kk : Nat} {y : MethodName} {cb : ByteArray} {cml wt : Nat} {cret : Option FieldType} {rm : Room} {a : Addr} {as' : List Value} {Qc : Option Value → Heap → Prop} {ps : List FieldType} {rt : Option FieldType} (C : Good κ R Z own mnm bytes ml ret) (hd : Ins1 bytes pc (.invokevirtual i) 3 nx)
    (w1 : (Jvm.Cond.methodLink own i y).before a0 Z = true) (w6 : (Jvm.Cond.instanceMethod y).before a0 Z = true) (wi : (Jvm.Cond.instantiable y.cls kk).before a0 Z = true) (w7 : (Jvm.Cond.privateMethod y).before a0 Z = true) (w3 : (Jvm.Cond.initialized y.cls).before a0 Z = true) (w4 : (Jvm.Cond.code y cb cml cret).before a0 Z = true) (hy : y.cls ≠ "java/lang/invoke/MethodHandle" ∧ y.cls ≠ "java/lang/invoke/VarHandle")
    (E : Exa Z h a y.cls) (hpd : parseMethodDescriptor y.desc = some ⟨ps, rt⟩) (hlen : as'.length = ps.length) (hM : Con Z y cb cml cret rm (.ref a :: as') h n0 Qc) (hst : st = as'.reverse ++ .ref a :: rest) (hL : L.length = ml) (hwt : 2 * 0 + (rest.map fun v => v.category).sum ≤ wt)
    (hfr : rm.frames + 1 ≤ R.frames) (hlo : wt + (cml + 11) + rm.locals ≤ R.locals) (hcs : cs + rm.cells ≤ R.cells) (hsl : sl + rm.slots ≤ R.slots)
    (k : ∀ v h', Qc v h' → W κ n0 Q h' (cs + rm.cells) (sl + rm.slots) nx L (v.toList ++ rest)) : W κ n0 Q h cs sl pc L st := by
  obtain ⟨hd, rfl⟩ := hd
  obtain ⟨p, l, e, R', s, m, args, below, meth, c⟩ := κ
  obtain ⟨hx, hZ, hby, hml, hown, hret, hlk, hnm, rfl⟩ := C
  intro T locs X eT N h1 h2
  obtain ⟨cq, q1, q2⟩ := E.cell
  have hpr := Cond.privateMethod_at (mvP hZ w7 (args := args))
  have hin : (Jvm.Cond.instanceMethod y).before args s = true := mvT hZ w6
  obtain ⟨cc, kc, c1, c2, -, c4, -⟩ := Cond.instantiable_spec (mvT (args := args) hZ wi)
  have hse := selects_self_of_private c1 c2 (Bool.or_eq_false_iff.mp c4).1 hpr hin hy
  obtain ⟨v, _, ⟨T2, L2, k2, n2⟩, -, X2, ⟨Lc, hQ, l2, y2, z2⟩, st2⟩ := X.privateBack hx (y := y) hown (mvT hZ w1) hin hse hpr (mvT hZ w4) hy (backOf (W := wt) (Q := fun v h L => Qc v h ∧ Fr n0 L) (hM l []) hZ w4 w3 hfr hlo) (g := mkF m pc L.toArray st) rfl (by show L.toArray.size = _; rw [hml, ← hL]; simp) (Steps.refl _) (a := a) (by rw [eT]; exact q1) q2 (argsL := as') (rest := rest) (lenOf hpd hlen) hst hwt (hb hby hd) (fun _ _ => ⟨rfl, eT, hcs, hsl⟩)
  dsimp only [Pt.U, Pt.locs, Pt.cells, Pt.slots] at X2 l2 y2 z2 st2 hQ
  subst l2 y2 z2
  obtain ⟨s₂, o, b, r⟩ := k v T2.heap hQ.1 T2 _ X2 rfl (Fr.app N hQ.2) hcs hsl
  exact ⟨s₂, o, st2.trans b, r⟩
theorem W.initO {i : Nat} {a : Addr} {wt : Nat} (C : Good κ R Z own mnm bytes ml ret) (hd : Ins1 bytes pc (.invokespecial i) 3 nx) (w1 : (Jvm.Cond.methodLink own i Lib.objectInit).before a0 Z = true) (w2 : (Jvm.Cond.instanceMethod Lib.objectInit).before a0 Z = true) (w3 : (Jvm.Cond.code Lib.objectInit ⟨#[0xb1]⟩ 1 none).before a0 Z = true)
    (hL : L.length = ml) (hfr : 1 ≤ R.frames) (hwt : 2 * 0 + (rest.map fun v => v.category).sum ≤ wt) (hlo : wt + 12 ≤ R.locals) (k : W κ n0 Q h cs sl nx L rest) : W κ n0 Q h cs sl pc L (.ref a :: rest) := by
  obtain ⟨hd, rfl⟩ := hd
  obtain ⟨p, l, e, R', s, m, args, below, meth, c⟩ := κ
  obtain ⟨hx, hZ, hby, hml, hown, hret, hlk, hnm, rfl⟩ := C
  intro T locs X eT N h1 h2
  obtain ⟨T', X', e', st'⟩ := initO X hx hZ hown w1 w2 w3 eT (g := mkF m pc L.toArray (.ref a :: rest)) rfl (by show L.toArray.size = _; rw [hml, ← hL]; simp) rfl (hb hby hd) hfr hwt hlo
  obtain ⟨s₂, o, b, r⟩ := k T' _ X' e' N h1 h2
  exact ⟨s₂, o, st' _ b, r⟩
end WKit
/-- a value of one word stored over one word -/
theorem st1 {L : List Slot} {k : Nat} {o : Slot} {v : Value} (hold : L[k]? = some o) (ho : One o) (hv : v.category = 1) : storeLocals L.toArray k v = some (L.set k (.val v)).toArray := by
  have := XS.store1 (l := L.toArray) (i := k) (v := v) (o := o) (by simpa using hold) ho hv
  rw [this]; simp
theorem ofNat_toInt {n : Nat} (h : n < 2147483648) : (Int32.ofNat n).toInt = n := Int32.toInt_ofNat_of_lt h
theorem natOf {x : Int32} (h : 0 ≤ x.toInt) : ∃ n : Nat, x = Int32.ofNat n ∧ n < 2147483648 ∧ x.toInt = n := by
  have h2 := Int32.toInt_lt x
  refine ⟨x.toInt.toNat, Int32.toInt_inj.mp ?_, by omega, by omega⟩
  rw [ofNat_toInt (by omega)]; omega
/-! ## W-KIT, part 2: System.arraycopy from place 0 to place 0, of ints -/
section WKit2
variable {κ : KT} {R : Room} {Z : State} {a0 : Array Value} {own mnm : String} {bytes : ByteArray} {ml : Nat} {ret : Option FieldType} {n0 : Nat} {Q : Option Value → Heap → Prop} {h : Heap} {cs sl pc nx tg : Nat} {L : List Slot} {st rest : List Value}
theorem Av.arv {a : Addr} {xs : List Int32} {n : Int32} (A : Av Z h a .int (xs.map Value.int)) (hn : n.toInt = xs.length) : ∃ k, Arv Z h a k .int n (xs.map Value.int) (.int 0) := by
  obtain ⟨c, Ar, e, l⟩ := A
  have e2 : c.slots.size = xs.length := by have := congrArg List.length e; simpa using this
  have gd : ∀ i, i < xs.length → (xs.map Value.int)[i]? = some ((xs.map Value.int).getD i (.int 0)) := fun i hi => by simp [List.getD, hi]
  refine ⟨c.cls, c, Ar, rfl, ?_, ?_, fun i hi => ?_, fun i hi => ?_⟩
  · rw [clampNat hn]; exact e2
  · rw [Int32.lt_iff_toInt_lt, hn, Int32.toInt_zero]; omega
  · rw [← gd i (by omega), ← e]; simp
  · simp only [List.getD, List.getElem?_map]
    cases xs[i]? <;> rfl
theorem avOfArv {a : Addr} {kc : ClassId} {ty : FieldType} {n : Int32} {vs : List Value} {d : Value} (F : Arv Z h a kc ty n vs d) (hl : vs.length = n.toNatClampNeg) : Av Z h a ty vs := by
  obtain ⟨c, Ar, -, S, N, H, -⟩ := F
  refine ⟨c, Ar, ?_, ?_⟩
  · apply List.ext_getElem?
    intro i
    by_cases hi : i < c.slots.size
    · have h1 := H i hi
      rw [List.getD, List.getElem?_eq_getElem (by omega)] at h1
      rw [List.getElem?_eq_getElem (by omega : i < vs.length), ← Array.getElem?_toList] at *
      simpa using h1
    · rw [List.getElem?_eq_none (by simpa using Nat.not_lt.mp hi), List.getElem?_eq_none (by omega)]
  · have e : n.toNatClampNeg = n.toInt.toNat := rfl
    have := Int32.toInt_lt n
    omega
theorem W.arraycopy {i : Nat} {a b : Addr} {xs ys : List Int32} {nn : Int32} {n wt : Nat} (C : Good κ R Z own mnm bytes ml ret) (hd : Ins1 bytes pc (.invokestatic i) 3 nx)
    (w1 : (Jvm.Cond.methodLink own i Jvm.Stand.acN).before a0 Z = true) (w2 : (Jvm.Cond.native Jvm.Stand.acN).before a0 Z = true) (w3 : (Jvm.Cond.static Jvm.Stand.acN).before a0 Z = true) (w4 : (Jvm.Cond.initialized "java/lang/System").before a0 Z = true)
    (A : Av Z h a .int (xs.map Value.int)) (B : Av Z h b .int (ys.map Value.int)) (hn : nn.toInt = n) (hx : n ≤ xs.length) (hy : n ≤ ys.length) (ge : n0 ≤ b) (hL : L.length = ml) (hfr : 1 ≤ R.frames) (hwt : 2 * 0 + (rest.map fun v => v.category).sum ≤ wt) (hlo : wt + (nativeFrameWords "java/lang/System" "arraycopy" 5 + 11) ≤ R.locals)
    (k : ∀ h', Keep h h' [b] → Av Z h' b .int ((xs.take n ++ ys.drop n).map Value.int) → W κ n0 Q h' cs sl nx L rest) : W κ n0 Q h cs sl pc L (.int nn :: .int 0 :: .ref b :: .int 0 :: .ref a :: rest) := by
  obtain ⟨hd, rfl⟩ := hd
  obtain ⟨p, l, e, R', s, m, args, below, meth, c⟩ := κ
  obtain ⟨hx', hZ, hby, hml, hown, hret, hlk, hnm, rfl⟩ := C
  intro T locs X eT N h1 h2
  have lx : xs.length < 2147483648 := by obtain ⟨_, _, _, q⟩ := A; simpa using q
  have ly : ys.length < 2147483648 := by obtain ⟨_, _, _, q⟩ := B; simpa using q
  obtain ⟨ka, A'⟩ := A.arv (n := Int32.ofNat xs.length) (ofNat_toInt lx)
  obtain ⟨kb, B'⟩ := B.arv (n := Int32.ofNat ys.length) (ofNat_toInt ly)
  have cx : (Int32.ofNat xs.length).toNatClampNeg = xs.length := clampNat (ofNat_toInt lx)
  have cy : (Int32.ofNat ys.length).toNatClampNeg = ys.length := clampNat (ofNat_toInt ly)
  have cn : nn.toNatClampNeg = n := clampNat hn
  have c0 : (0 : Int32).toNatClampNeg = 0 := rfl
  have neg : ¬ nn < 0 := by rw [Int32.lt_iff_toInt_lt, hn, Int32.toInt_zero]; omega
  obtain ⟨T', h', L', X', e', N', K', B2, st'⟩ := cpA X hx' hZ hown w1 w2 w3 w4 eT A' B' (Or.inl ⟨rfl, rfl⟩) (by decide) (by decide) neg (by rw [c0, cn, cx]; omega) (by rw [c0, cn, cy]; omega) rfl (by rw [c0, cn, List.length_map]; omega) N ge (g := mkF m pc L.toArray (.int nn :: .int 0 :: .ref b :: .int 0 :: .ref a :: rest)) rfl (by show L.toArray.size = _; rw [hml, ← hL]; simp) rfl (hb hby hd) hfr hwt hlo
  have eq : (List.map Value.int ys).take (0 : Int32).toNatClampNeg ++ ((List.range nn.toNatClampNeg).map fun i => (xs.map Value.int).getD ((0 : Int32).toNatClampNeg + i) (.int 0)) ++ (List.map Value.int ys).drop ((0 : Int32).toNatClampNeg + nn.toNatClampNeg) = (xs.take n ++ ys.drop n).map Value.int := by
    rw [c0, cn, Nat.zero_add, List.take_zero, List.nil_append, List.map_append, List.map_drop]
    congr 1
    apply List.ext_getElem?
    intro j
    by_cases hj : j < n
    · simp [hj, List.getD, show j < xs.length by omega]
    · simp [hj]; omega
  rw [eq] at B2
  have B3 := avOfArv B2 (by rw [cy, List.length_map, List.length_append, List.length_take, List.length_drop]; omega)
  obtain ⟨s₂, o, q, r⟩ := k h' K' B3 T' _ X' e' N' h1 h2
  exact ⟨s₂, o, st' _ q, r⟩
end WKit2

theorem own_set {Z : State} {h : Heap} {a : Addr} {ty : FieldType} {bs : List Int32} {i : Nat} {v : Int32} (A : Av Z h a ty ((bs.map Value.int).set i (.int v))) : Av Z h a ty ((bs.set i v).map Value.int) := by rw [List.map_set]; exact A
theorem own_dbl {x : Int32} {k : Nat} (h : x.toInt = k) (hk : k ≤ 100) : ((2 : Int32) * x).toInt = ((2 * k : Nat) : Int) := by
  have e1 := c_imul (2 : Int32) x
  have e2 := rng32 ((2 : Int32) * x)
  have e3 : (2 : Int32).toInt = 2 := rfl
  rw [e3, h] at e1
  omega
theorem own_inc {x : Int32} {k : Nat} (h : x.toInt = k) (hk : k ≤ 300) : (x + (1 : Int32)).toInt = ((k + 1 : Nat) : Int) := by
  have e1 := c_iadd x (1 : Int32)
  have e2 := rng32 (x + (1 : Int32))
  have e3 : (1 : Int32).toInt = 1 := rfl
  omega
abbrev mY7 : MethodName := ⟨"java/lang/Math", "min", "(II)I"⟩
theorem m7_0 : Ins1 jdk_29_method_69_code 0 (.iload_n 0) 1 1 := ⟨by decide +kernel, rfl⟩
theorem m7_1 : Ins1 jdk_29_method_69_code 1 (.iload_n 1) 1 2 := ⟨by decide +kernel, rfl⟩
theorem m7_2 : Jmp1 jdk_29_method_69_code 2 (.if_icmp .gt 7) 7 5 9 := ⟨by decide +kernel, rfl, by decide, by decide⟩
theorem m7_5 : Ins1 jdk_29_method_69_code 5 (.iload_n 0) 1 6 := ⟨by decide +kernel, rfl⟩
theorem m7_6 : Jmp1 jdk_29_method_69_code 6 (.goto 4) 4 9 10 := ⟨by decide +kernel, rfl, by decide, by decide⟩
theorem m7_9 : Ins1 jdk_29_method_69_code 9 (.iload_n 1) 1 10 := ⟨by decide +kernel, rfl⟩
theorem m7_10 : Ins1 jdk_29_method_69_code 10 (.ireturn) 1 11 := ⟨by decide +kernel, rfl⟩
theorem pl7 : plainFor mY7 = true := Jvm.Free.JP.mathPlain rfl (by decide +kernel)
theorem pd7 : parseMethodDescriptor "(II)I" = some ⟨[.int, .int], some .int⟩ := by decide +kernel
set_option maxRecDepth 65536 in
set_option maxHeartbeats 4000000 in
theorem own_min (Z : State) (a0 : Array Value) (hw : ∀ d ∈ tables_1, d.before a0 Z = true) (x : Int32) (y : Int32)  (h : Heap) (n0 : Nat)  :
    Con Z mY7 jdk_29_method_69_code 2 (some .int) ({ frames := 0, cells := 0, slots := 0, locals := 0 } : Room) [(.int x), (.int y)] h n0 (fun v h' => h = h' ∧ ∃ z : Int32, v = some (.int z) ∧ z.toInt = min x.toInt y.toInt) := by
  refine Con.of pl7 (L := [.val (.int x), .val (.int y)]) (fun m => by first | (simp [entryFrame, mkF, argsToLocals, Value.category]; done) | rfl) ?_
  intro κ Qx hQ C
  refine W.iloadN C m7_0 rfl ?_
  refine W.iloadN C m7_1 rfl ?_
  refine W.icmp C m7_2 ?_ ?_
  · intro (h2 : y.toInt < x.toInt)
    refine W.iloadN C m7_9 rfl ?_
    refine W.ireturn C m7_10 (hQ _ _ ?_)
    exact ⟨rfl, _, rfl, by omega⟩
  · intro (h2 : ¬ (y.toInt < x.toInt))
    replace h2 : x.toInt ≤ y.toInt := by omega
    refine W.iloadN C m7_5 rfl ?_
    refine W.goto C m7_6 ?_
    refine W.ireturn C m7_10 (hQ _ _ ?_)
    exact ⟨rfl, _, rfl, by omega⟩
abbrev mY1 : MethodName := ⟨"com/example/principal/principal/engine/Row", "<init>", "()V"⟩
theorem m1_0 : Ins1 prog_18_method_1_code 0 (.aload_n 0) 1 1 := ⟨by decide +kernel, rfl⟩
theorem m1_1 : Ins1 prog_18_method_1_code 1 (.invokespecial 1) 3 4 := ⟨by decide +kernel, rfl⟩
theorem m1_4 : Ins1 prog_18_method_1_code 4 (.aload_n 0) 1 5 := ⟨by decide +kernel, rfl⟩
theorem m1_5 : Ins1 prog_18_method_1_code 5 (.iconst 4) 1 6 := ⟨by decide +kernel, rfl⟩
theorem m1_6 : Ins1 prog_18_method_1_code 6 (.newarray .int) 2 8 := ⟨by decide +kernel, rfl⟩
theorem m1_8 : Ins1 prog_18_method_1_code 8 (.putfield 7) 3 11 := ⟨by decide +kernel, rfl⟩
theorem m1_11 : Ins1 prog_18_method_1_code 11 (.return_) 1 12 := ⟨by decide +kernel, rfl⟩
theorem pl1 : plainFor mY1 = true := plainFor_of_name (show plainName "com/example/principal/principal/engine/Row" = true by first | (simp [plainName, overriddenIn]; done) | decide +kernel)
theorem pd1 : parseMethodDescriptor "()V" = some ⟨[], none⟩ := by decide +kernel
set_option maxRecDepth 65536 in
set_option maxHeartbeats 4000000 in
theorem own_init (Z : State) (a0 : Array Value) (hw : ∀ d ∈ tables_1, d.before a0 Z = true) (a : Addr)  (h : Heap) (n0 : Nat) (g0 : n0 ≤ a) (z0 : n0 ≤ h.size) (E0 : Exa Z h a "com/example/principal/principal/engine/Row") (F0 : Fld Z h a "com/example/principal/principal/engine/Row" "entries" "[I" .null) (F1 : Fld Z h a "com/example/principal/principal/engine/Row" "size" "I" (.int (0 : Int32))) :
    Con Z mY1 prog_18_method_1_code 1 none ({ frames := 1, cells := 1, slots := 4, locals := 12 } : Room) [(.ref a)] h n0 (fun v h' => v = none ∧ Keep h h' [a] ∧ Exa Z h' a "com/example/principal/principal/engine/Row" ∧ Fld Z h' a "com/example/principal/principal/engine/Row" "size" "I" (.int (0 : Int32)) ∧ ∃ e : Addr, Fld Z h' a "com/example/principal/principal/engine/Row" "entries" "[I" (.ref e) ∧ h.size ≤ e ∧ Av Z h' e .int ([(0 : Int32), 0, 0, 0].map Value.int)) := by
  refine Con.of pl1 (L := [.val (.ref a)]) (fun m => by first | (simp [entryFrame, mkF, argsToLocals, Value.category]; done) | rfl) ?_
  intro κ Qx hQ C
  have K0 := Keep.refl h [a]
  refine W.aloadN C m1_0 rfl rfl ?_
  refine W.initO (wt := 0) C m1_1 (hw _ (List.mem_of_getElem? (i := 9) rfl)) (hw _ (List.mem_of_getElem? (i := 10) rfl)) (hw _ (List.mem_of_getElem? (i := 11) rfl)) rfl (by decide) (Nat.le_of_eq rfl) (by decide) ?_
  refine W.aloadN C m1_4 rfl rfl ?_
  refine W.iconst C m1_5 (z := (4 : Int32)) rfl ?_
  refine W.newarray (a0 := a0) (vs := [(.int (0 : Int32)), (.int (0 : Int32)), (.int (0 : Int32)), (.int (0 : Int32))]) 4 C m1_6 rfl (hw _ (List.mem_of_getElem? (i := 12) rfl)) (by decide) (by decide) rfl (by decide) (by decide) (by decide) ?_
  intro h1 a2 g3 E4 A5
  have ne6 : a ≠ a2 := Nat.ne_of_lt (Nat.lt_of_lt_of_eq E0.lt g3)
  have g7 : n0 ≤ a2 := Nat.le_trans z0 (Nat.le_of_eq g3)
  have g8 := Nat.le_trans K0.1 (Nat.le_of_eq g3)
  have E9 := E0.ext E4
  have F10 := F0.ext E4
  have F11 := F1.ext E4
  have z12 : n0 ≤ h1.size := Nat.le_trans z0 E4.1
  have K13 := K0.ext E4
  show W κ n0 Qx h1 1 4 8 [.val (.ref a)] [(.ref a2), (.ref a)]
  refine W.putfield C m1_8 (host := "") (Or.inl (hw _ (List.mem_of_getElem? (i := 13) rfl))) Via.refl F10 E9 (Or.inl (hw _ (List.mem_of_getElem? (i := 14) rfl))) (hw _ (List.mem_of_getElem? (i := 4) rfl)) (ty := (.array .int)) (by decide) rfl rfl g0 ?_
  intro h14 W15 F16
  have E17 := E9.wr W15
  have F18 := F11.other W15 (Or.inr (slot_ne (a0 := a0) (Or.inl (hw _ (List.mem_of_getElem? (i := 21) rfl))) (Or.inl (hw _ (List.mem_of_getElem? (i := 14) rfl))) (by decide) (t := .int) (t' := (.array .int)) (by decide) (by decide)))
  have z19 : n0 ≤ h14.size := Nat.le_trans z12 (Nat.le_of_eq (Wr.size W15).symm)
  have A20 := A5.other W15 (Ne.symm ne6)
  have K21 := K13.wr W15 (Or.inl (List.mem_of_getElem? (i := 0) rfl))
  refine W.vreturn C m1_11 (hQ _ _ ?_)
  exact ⟨rfl, K21, E17, F18, a2, F16, g8, A20⟩
abbrev mY6 : MethodName := ⟨"java/util/Arrays", "copyOf", "([II)[I"⟩
theorem m6_0 : Ins1 jdk_65_method_123_code 0 (.iload_n 1) 1 1 := ⟨by decide +kernel, rfl⟩
theorem m6_1 : Ins1 jdk_65_method_123_code 1 (.aload_n 0) 1 2 := ⟨by decide +kernel, rfl⟩
theorem m6_2 : Ins1 jdk_65_method_123_code 2 (.arraylength) 1 3 := ⟨by decide +kernel, rfl⟩
theorem m6_3 : Jmp1 jdk_65_method_123_code 3 (.if_icmp .ne 11) 11 6 14 := ⟨by decide +kernel, rfl, by decide, by decide⟩
theorem m6_14 : Ins1 jdk_65_method_123_code 14 (.iload_n 1) 1 15 := ⟨by decide +kernel, rfl⟩
theorem m6_15 : Ins1 jdk_65_method_123_code 15 (.newarray .int) 2 17 := ⟨by decide +kernel, rfl⟩
theorem m6_17 : Ins1 jdk_65_method_123_code 17 (.astore_n 2) 1 18 := ⟨by decide +kernel, rfl⟩
theorem m6_18 : Ins1 jdk_65_method_123_code 18 (.aload_n 0) 1 19 := ⟨by decide +kernel, rfl⟩
theorem m6_19 : Ins1 jdk_65_method_123_code 19 (.iconst 0) 1 20 := ⟨by decide +kernel, rfl⟩
theorem m6_20 : Ins1 jdk_65_method_123_code 20 (.aload_n 2) 1 21 := ⟨by decide +kernel, rfl⟩
theorem m6_21 : Ins1 jdk_65_method_123_code 21 (.iconst 0) 1 22 := ⟨by decide +kernel, rfl⟩
theorem m6_22 : Ins1 jdk_65_method_123_code 22 (.aload_n 0) 1 23 := ⟨by decide +kernel, rfl⟩
theorem m6_23 : Ins1 jdk_65_method_123_code 23 (.arraylength) 1 24 := ⟨by decide +kernel, rfl⟩
theorem m6_24 : Ins1 jdk_65_method_123_code 24 (.iload_n 1) 1 25 := ⟨by decide +kernel, rfl⟩
theorem m6_25 : Ins1 jdk_65_method_123_code 25 (.invokestatic 304) 3 28 := ⟨by decide +kernel, rfl⟩
theorem m6_28 : Ins1 jdk_65_method_123_code 28 (.invokestatic 150) 3 31 := ⟨by decide +kernel, rfl⟩
theorem m6_31 : Ins1 jdk_65_method_123_code 31 (.aload_n 2) 1 32 := ⟨by decide +kernel, rfl⟩
theorem m6_32 : Ins1 jdk_65_method_123_code 32 (.areturn) 1 33 := ⟨by decide +kernel, rfl⟩
theorem pl6 : plainFor mY6 = true := plainFor_of_name (show plainName "java/util/Arrays" = true by first | (simp [plainName, overriddenIn]; done) | decide +kernel)
theorem pd6 : parseMethodDescriptor "([II)[I" = some ⟨[(.array .int), .int], some (.array .int)⟩ := by decide +kernel
set_option maxRecDepth 65536 in
set_option maxHeartbeats 4000000 in
theorem own_cp (Z : State) (a0 : Array Value) (hw : ∀ d ∈ tables_1, d.before a0 Z = true) (a : Addr) (n : Int32) (xs : List Int32) (N : Nat) (h : Heap) (n0 : Nat) (z0 : n0 ≤ h.size) (A0 : Av Z h a .int (xs.map Value.int)) (hn : n.toInt = N) (hN : N ≤ 16) (hxN : xs.length < N) :
    Con Z mY6 jdk_65_method_123_code 3 (some (.array .int)) ({ frames := 1, cells := 1, slots := 16, locals := 18 } : Room) [(.ref a), (.int n)] h n0 (fun v h' => ∃ e : Addr, v = some (.ref e) ∧ h.size ≤ e ∧ Keep h h' [] ∧ Av Z h' e .int ((xs ++ List.replicate (N - xs.length) (0 : Int32)).map Value.int)) := by
  refine Con.of pl6 (L := [.val (.ref a), .val (.int n), .unset]) (fun m => by first | (simp [entryFrame, mkF, argsToLocals, Value.category]; done) | rfl) ?_
  intro κ Qx hQ C
  have K0 := Keep.refl h []
  refine W.iloadN C m6_0 rfl ?_
  refine W.aloadN C m6_1 rfl rfl ?_
  refine W.arraylength C m6_2 A0 (z := (Int32.ofNat xs.length)) (by rw [List.length_map]; exact ofNat_toInt (by omega)) ?_
  refine W.icmpY C m6_3 (show ¬ n.toInt = ((Int32.ofNat xs.length)).toInt from (by rw [ofNat_toInt (by omega)]; omega)) ?_
  refine W.iloadN C m6_14 rfl ?_
  refine W.newarray (a0 := a0) (vs := ((List.replicate N (0 : Int32)).map Value.int)) 16 C m6_15 rfl (hw _ (List.mem_of_getElem? (i := 12) rfl)) (by omega) (by omega) (by rw [clampNat hn, List.map_replicate]; rfl) (by decide) (by decide) (by decide) ?_
  intro h1 a2 g3 E4 A5
  have ne6 : a ≠ a2 := Nat.ne_of_lt (Nat.lt_of_lt_of_eq A0.lt g3)
  have g7 : n0 ≤ a2 := Nat.le_trans z0 (Nat.le_of_eq g3)
  have g8 := Nat.le_trans K0.1 (Nat.le_of_eq g3)
  have A9 := A0.ext E4
  have z10 : n0 ≤ h1.size := Nat.le_trans z0 E4.1
  have K11 := K0.ext E4
  show W κ n0 Qx h1 1 16 17 [.val (.ref a), .val (.int n), .unset] [(.ref a2)]
  refine W.astoreN C m6_17 (L' := [.val (.ref a), .val (.int n), .val (.ref a2)]) rfl rfl ?_
  refine W.aloadN C m6_18 rfl rfl ?_
  refine W.iconst C m6_19 (z := (0 : Int32)) rfl ?_
  refine W.aloadN C m6_20 rfl rfl ?_
  refine W.iconst C m6_21 (z := (0 : Int32)) rfl ?_
  refine W.aloadN C m6_22 rfl rfl ?_
  refine W.arraylength C m6_23 A9 (z := (Int32.ofNat xs.length)) (by rw [List.length_map]; exact ofNat_toInt (by omega)) ?_
  refine W.iloadN C m6_24 rfl ?_
  refine W.callS (y := mY7) (wt := 4) C m6_25 (hw _ (List.mem_of_getElem? (i := 36) rfl)) (hw _ (List.mem_of_getElem? (i := 37) rfl)) (hw _ (List.mem_of_getElem? (i := 38) rfl)) (hw _ (List.mem_of_getElem? (i := 39) rfl)) (by decide) pd7 rfl (own_min Z a0 hw (Int32.ofNat xs.length) n h1 n0) (as' := [(.int (Int32.ofNat xs.length)), (.int n)]) (rest := [(.int (0 : Int32)), (.ref a2), (.int (0 : Int32)), (.ref a)]) rfl rfl (Nat.le_of_eq rfl) (by decide) (by decide) (by decide) (by decide) ?_
  intro r15 h13 q14
  obtain ⟨rfl, z12, rfl, hz12⟩ := q14
  show W κ n0 Qx h1 1 16 28 [.val (.ref a), .val (.int n), .val (.ref a2)] [(.int z12), (.int (0 : Int32)), (.ref a2), (.int (0 : Int32)), (.ref a)]
  have hmin : z12.toInt = (xs.length : Nat) := by rw [hz12, ofNat_toInt (by omega), hn]; omega
  refine W.arraycopy (wt := 0) C m6_28 (hw _ (List.mem_of_getElem? (i := 40) rfl)) (hw _ (List.mem_of_getElem? (i := 43) rfl)) (hw _ (List.mem_of_getElem? (i := 41) rfl)) (hw _ (List.mem_of_getElem? (i := 42) rfl)) A9 A5 hmin (Nat.le_refl _) (by rw [List.length_replicate]; omega) g7 rfl (by decide) (Nat.le_of_eq rfl) (by decide) ?_
  intro h16 K17 A18
  have K19 := Keep.trans K11 K17 (allS (Or.inr g8) all0)
  have A20 := A9.keep K17 (ninS ne6 nin0)
  have z21 : n0 ≤ h16.size := Nat.le_trans z10 K17.1
  refine W.aloadN C m6_31 rfl rfl ?_
  refine W.areturn C rfl rfl m6_32 (hQ _ _ ?_)
  rw [List.take_length, List.drop_replicate] at A18
  exact ⟨a2, rfl, g8, K19, A18⟩
abbrev mY5 : MethodName := ⟨"com/example/principal/principal/engine/Row", "add", "(II)V"⟩
theorem m5_0 : Ins1 prog_18_method_3_code 0 (.iconst 2) 1 1 := ⟨by decide +kernel, rfl⟩
theorem m5_1 : Ins1 prog_18_method_3_code 1 (.aload_n 0) 1 2 := ⟨by decide +kernel, rfl⟩
theorem m5_2 : Ins1 prog_18_method_3_code 2 (.getfield 13) 3 5 := ⟨by decide +kernel, rfl⟩
theorem m5_5 : Ins1 prog_18_method_3_code 5 (.imul) 1 6 := ⟨by decide +kernel, rfl⟩
theorem m5_6 : Ins1 prog_18_method_3_code 6 (.aload_n 0) 1 7 := ⟨by decide +kernel, rfl⟩
theorem m5_7 : Ins1 prog_18_method_3_code 7 (.getfield 7) 3 10 := ⟨by decide +kernel, rfl⟩
theorem m5_10 : Ins1 prog_18_method_3_code 10 (.arraylength) 1 11 := ⟨by decide +kernel, rfl⟩
theorem m5_11 : Jmp1 prog_18_method_3_code 11 (.if_icmp .ne 21) 21 14 32 := ⟨by decide +kernel, rfl, by decide, by decide⟩
theorem m5_32 : Ins1 prog_18_method_3_code 32 (.aload_n 0) 1 33 := ⟨by decide +kernel, rfl⟩
theorem m5_33 : Ins1 prog_18_method_3_code 33 (.getfield 7) 3 36 := ⟨by decide +kernel, rfl⟩
theorem m5_36 : Ins1 prog_18_method_3_code 36 (.iconst 2) 1 37 := ⟨by decide +kernel, rfl⟩
theorem m5_37 : Ins1 prog_18_method_3_code 37 (.aload_n 0) 1 38 := ⟨by decide +kernel, rfl⟩
theorem m5_38 : Ins1 prog_18_method_3_code 38 (.getfield 13) 3 41 := ⟨by decide +kernel, rfl⟩
theorem m5_41 : Ins1 prog_18_method_3_code 41 (.imul) 1 42 := ⟨by decide +kernel, rfl⟩
theorem m5_42 : Ins1 prog_18_method_3_code 42 (.iload_n 1) 1 43 := ⟨by decide +kernel, rfl⟩
theorem m5_43 : Ins1 prog_18_method_3_code 43 (.iastore) 1 44 := ⟨by decide +kernel, rfl⟩
theorem m5_44 : Ins1 prog_18_method_3_code 44 (.aload_n 0) 1 45 := ⟨by decide +kernel, rfl⟩
theorem m5_45 : Ins1 prog_18_method_3_code 45 (.getfield 7) 3 48 := ⟨by decide +kernel, rfl⟩
theorem m5_48 : Ins1 prog_18_method_3_code 48 (.iconst 2) 1 49 := ⟨by decide +kernel, rfl⟩
theorem m5_49 : Ins1 prog_18_method_3_code 49 (.aload_n 0) 1 50 := ⟨by decide +kernel, rfl⟩
theorem m5_50 : Ins1 prog_18_method_3_code 50 (.getfield 13) 3 53 := ⟨by decide +kernel, rfl⟩
theorem m5_53 : Ins1 prog_18_method_3_code 53 (.imul) 1 54 := ⟨by decide +kernel, rfl⟩
theorem m5_54 : Ins1 prog_18_method_3_code 54 (.iconst 1) 1 55 := ⟨by decide +kernel, rfl⟩
theorem m5_55 : Ins1 prog_18_method_3_code 55 (.iadd) 1 56 := ⟨by decide +kernel, rfl⟩
theorem m5_56 : Ins1 prog_18_method_3_code 56 (.iload_n 2) 1 57 := ⟨by decide +kernel, rfl⟩
theorem m5_57 : Ins1 prog_18_method_3_code 57 (.iastore) 1 58 := ⟨by decide +kernel, rfl⟩
theorem m5_58 : Ins1 prog_18_method_3_code 58 (.aload_n 0) 1 59 := ⟨by decide +kernel, rfl⟩
theorem m5_59 : Ins1 prog_18_method_3_code 59 (.dup) 1 60 := ⟨by decide +kernel, rfl⟩
theorem m5_60 : Ins1 prog_18_method_3_code 60 (.getfield 13) 3 63 := ⟨by decide +kernel, rfl⟩
theorem m5_63 : Ins1 prog_18_method_3_code 63 (.iconst 1) 1 64 := ⟨by decide +kernel, rfl⟩
theorem m5_64 : Ins1 prog_18_method_3_code 64 (.iadd) 1 65 := ⟨by decide +kernel, rfl⟩
theorem m5_65 : Ins1 prog_18_method_3_code 65 (.putfield 13) 3 68 := ⟨by decide +kernel, rfl⟩
theorem m5_68 : Ins1 prog_18_method_3_code 68 (.return_) 1 69 := ⟨by decide +kernel, rfl⟩
theorem pl5 : plainFor mY5 = true := plainFor_of_name (show plainName "com/example/principal/principal/engine/Row" = true by first | (simp [plainName, overriddenIn]; done) | decide +kernel)
theorem pd5 : parseMethodDescriptor "(II)V" = some ⟨[.int, .int], none⟩ := by decide +kernel
set_option maxRecDepth 65536 in
set_option maxHeartbeats 4000000 in
theorem own_ad (Z : State) (a0 : Array Value) (hw : ∀ d ∈ tables_1, d.before a0 Z = true) (a : Addr) (v1 : Int32) (s1 : Int32) (e : Addr) (kk kk2 : Int32) (k : Nat) (ys : List Int32) (h : Heap) (n0 : Nat) (z0 : n0 ≤ h.size) (g0 : n0 ≤ a) (E0 : Exa Z h a "com/example/principal/principal/engine/Row") (F0 : Fld Z h a "com/example/principal/principal/engine/Row" "entries" "[I" (.ref e)) (F1 : Fld Z h a "com/example/principal/principal/engine/Row" "size" "I" (.int kk)) (A0 : Av Z h e .int (ys.map Value.int)) (hk : kk.toInt = k) (hk2 : kk + (1 : Int32) = kk2) (hae : a ≠ e) (g1 : n0 ≤ e) (hl : 2 * k + 1 < ys.length) (hl2 : ys.length ≤ 16) :
    Con Z mY5 prog_18_method_3_code 3 none ({ frames := 0, cells := 0, slots := 0, locals := 0 } : Room) [(.ref a), (.int v1), (.int s1)] h n0 (fun v h' => v = none ∧ Keep h h' [a, e] ∧ Exa Z h' a "com/example/principal/principal/engine/Row" ∧ Fld Z h' a "com/example/principal/principal/engine/Row" "entries" "[I" (.ref e) ∧ Fld Z h' a "com/example/principal/principal/engine/Row" "size" "I" (.int kk2) ∧ Av Z h' e .int (((ys.set (2 * k) v1).set (2 * k + 1) s1).map Value.int)) := by
  refine Con.of pl5 (L := [.val (.ref a), .val (.int v1), .val (.int s1)]) (fun m => by first | (simp [entryFrame, mkF, argsToLocals, Value.category]; done) | rfl) ?_
  intro κ Qx hQ C
  have K0 := Keep.refl h [a, e]
  refine W.iconst C m5_0 (z := (2 : Int32)) rfl ?_
  refine W.aloadN C m5_1 rfl rfl ?_
  refine W.getfield C m5_2 (host := "") (Or.inl (hw _ (List.mem_of_getElem? (i := 20) rfl))) Via.refl F1 ?_
  refine W.imul C m5_5 rfl ?_
  refine W.aloadN C m5_6 rfl rfl ?_
  refine W.getfield C m5_7 (host := "") (Or.inl (hw _ (List.mem_of_getElem? (i := 13) rfl))) Via.refl F0 ?_
  refine W.arraylength C m5_10 A0 (z := (Int32.ofNat ys.length)) (by rw [List.length_map]; exact ofNat_toInt (by omega)) ?_
  refine W.icmpY C m5_11 (show ¬ (((2 : Int32) * kk)).toInt = ((Int32.ofNat ys.length)).toInt from (by rw [own_dbl hk (by omega), ofNat_toInt (by omega)]; omega)) ?_
  refine W.aloadN C m5_32 rfl rfl ?_
  refine W.getfield C m5_33 (host := "") (Or.inl (hw _ (List.mem_of_getElem? (i := 13) rfl))) Via.refl F0 ?_
  refine W.iconst C m5_36 (z := (2 : Int32)) rfl ?_
  refine W.aloadN C m5_37 rfl rfl ?_
  refine W.getfield C m5_38 (host := "") (Or.inl (hw _ (List.mem_of_getElem? (i := 20) rfl))) Via.refl F1 ?_
  refine W.imul C m5_41 rfl ?_
  refine W.iloadN C m5_42 rfl ?_
  refine W.iastore C m5_43 A0 (i := (2 * k)) (own_dbl hk (by omega)) (by simp only [List.length_map, List.length_set, List.length_append, List.length_replicate]; omega) g1 ?_
  intro h1 W2 A3
  have E4 := E0.wr W2
  have F5 := F0.other W2 (Or.inl hae)
  have F6 := F1.other W2 (Or.inl hae)
  have z7 : n0 ≤ h1.size := Nat.le_trans z0 (Nat.le_of_eq (Wr.size W2).symm)
  have K8 := K0.wr W2 (Or.inl (List.mem_of_getElem? (i := 1) rfl))
  have A9 := own_set A3
  refine W.aloadN C m5_44 rfl rfl ?_
  refine W.getfield C m5_45 (host := "") (Or.inl (hw _ (List.mem_of_getElem? (i := 13) rfl))) Via.refl F5 ?_
  refine W.iconst C m5_48 (z := (2 : Int32)) rfl ?_
  refine W.aloadN C m5_49 rfl rfl ?_
  refine W.getfield C m5_50 (host := "") (Or.inl (hw _ (List.mem_of_getElem? (i := 20) rfl))) Via.refl F6 ?_
  refine W.imul C m5_53 rfl ?_
  refine W.iconst C m5_54 (z := (1 : Int32)) rfl ?_
  refine W.iadd C m5_55 rfl ?_
  refine W.iloadN C m5_56 rfl ?_
  refine W.iastore C m5_57 A9 (i := (2 * k + 1)) (own_inc (own_dbl hk (by omega)) (by omega)) (by simp only [List.length_map, List.length_set, List.length_append, List.length_replicate]; omega) g1 ?_
  intro h10 W11 A12
  have E13 := E4.wr W11
  have F14 := F5.other W11 (Or.inl hae)
  have F15 := F6.other W11 (Or.inl hae)
  have z16 : n0 ≤ h10.size := Nat.le_trans z7 (Nat.le_of_eq (Wr.size W11).symm)
  have K17 := K8.wr W11 (Or.inl (List.mem_of_getElem? (i := 1) rfl))
  have A18 := own_set A12
  refine W.aloadN C m5_58 rfl rfl ?_
  refine W.dup C m5_59 rfl ?_
  refine W.getfield C m5_60 (host := "") (Or.inl (hw _ (List.mem_of_getElem? (i := 20) rfl))) Via.refl F15 ?_
  refine W.iconst C m5_63 (z := (1 : Int32)) rfl ?_
  refine W.iadd C m5_64 hk2 ?_
  refine W.putfield C m5_65 (host := "") (Or.inl (hw _ (List.mem_of_getElem? (i := 20) rfl))) Via.refl F15 E13 (Or.inl (hw _ (List.mem_of_getElem? (i := 21) rfl))) (hw _ (List.mem_of_getElem? (i := 4) rfl)) (ty := .int) (by decide) rfl rfl g0 ?_
  intro h19 W20 F21
  have E22 := E13.wr W20
  have F23 := F14.other W20 (Or.inr (slot_ne (a0 := a0) (Or.inl (hw _ (List.mem_of_getElem? (i := 14) rfl))) (Or.inl (hw _ (List.mem_of_getElem? (i := 21) rfl))) (by decide) (t := (.array .int)) (t' := .int) (by decide) (by decide)))
  have A24 := A18.other W20 (Ne.symm hae)
  have z25 : n0 ≤ h19.size := Nat.le_trans z16 (Nat.le_of_eq (Wr.size W20).symm)
  have K26 := K17.wr W20 (Or.inl (List.mem_of_getElem? (i := 0) rfl))
  refine W.vreturn C m5_68 (hQ _ _ ?_)
  exact ⟨rfl, K26, E22, F23, F21, A24⟩
theorem m5_14 : Ins1 prog_18_method_3_code 14 (.aload_n 0) 1 15 := ⟨by decide +kernel, rfl⟩
theorem m5_15 : Ins1 prog_18_method_3_code 15 (.aload_n 0) 1 16 := ⟨by decide +kernel, rfl⟩
theorem m5_16 : Ins1 prog_18_method_3_code 16 (.getfield 7) 3 19 := ⟨by decide +kernel, rfl⟩
theorem m5_19 : Ins1 prog_18_method_3_code 19 (.iconst 2) 1 20 := ⟨by decide +kernel, rfl⟩
theorem m5_20 : Ins1 prog_18_method_3_code 20 (.aload_n 0) 1 21 := ⟨by decide +kernel, rfl⟩
theorem m5_21 : Ins1 prog_18_method_3_code 21 (.getfield 7) 3 24 := ⟨by decide +kernel, rfl⟩
theorem m5_24 : Ins1 prog_18_method_3_code 24 (.arraylength) 1 25 := ⟨by decide +kernel, rfl⟩
theorem m5_25 : Ins1 prog_18_method_3_code 25 (.imul) 1 26 := ⟨by decide +kernel, rfl⟩
theorem m5_26 : Ins1 prog_18_method_3_code 26 (.invokestatic 18) 3 29 := ⟨by decide +kernel, rfl⟩
theorem m5_29 : Ins1 prog_18_method_3_code 29 (.putfield 7) 3 32 := ⟨by decide +kernel, rfl⟩
set_option maxRecDepth 65536 in
set_option maxHeartbeats 4000000 in
theorem own_ag (Z : State) (a0 : Array Value) (hw : ∀ d ∈ tables_1, d.before a0 Z = true) (a : Addr) (v1 : Int32) (s1 : Int32) (e : Addr) (kk kk2 : Int32) (k : Nat) (ys : List Int32) (h : Heap) (n0 : Nat) (z0 : n0 ≤ h.size) (g0 : n0 ≤ a) (E0 : Exa Z h a "com/example/principal/principal/engine/Row") (F0 : Fld Z h a "com/example/principal/principal/engine/Row" "entries" "[I" (.ref e)) (F1 : Fld Z h a "com/example/principal/principal/engine/Row" "size" "I" (.int kk)) (A0 : Av Z h e .int (ys.map Value.int)) (hk : kk.toInt = k) (hk2 : kk + (1 : Int32) = kk2) (hae : a ≠ e) (hl : 2 * k = ys.length) (hl2 : ys.length ≤ 8) (hl3 : 0 < ys.length) :
    Con Z mY5 prog_18_method_3_code 3 none ({ frames := 2, cells := 1, slots := 16, locals := 33 } : Room) [(.ref a), (.int v1), (.int s1)] h n0 (fun v h' => v = none ∧ ∃ e2 : Addr, Keep h h' [a] ∧ h.size ≤ e2 ∧ Exa Z h' a "com/example/principal/principal/engine/Row" ∧ Fld Z h' a "com/example/principal/principal/engine/Row" "entries" "[I" (.ref e2) ∧ Fld Z h' a "com/example/principal/principal/engine/Row" "size" "I" (.int kk2) ∧ Av Z h' e2 .int ((((ys ++ List.replicate (2 * ys.length - ys.length) (0 : Int32)).set (2 * k) v1).set (2 * k + 1) s1).map Value.int)) := by
  refine Con.of pl5 (L := [.val (.ref a), .val (.int v1), .val (.int s1)]) (fun m => by first | (simp [entryFrame, mkF, argsToLocals, Value.category]; done) | rfl) ?_
  intro κ Qx hQ C
  have K0 := Keep.refl h [a]
  refine W.iconst C m5_0 (z := (2 : Int32)) rfl ?_
  refine W.aloadN C m5_1 rfl rfl ?_
  refine W.getfield C m5_2 (host := "") (Or.inl (hw _ (List.mem_of_getElem? (i := 20) rfl))) Via.refl F1 ?_
  refine W.imul C m5_5 rfl ?_
  refine W.aloadN C m5_6 rfl rfl ?_
  refine W.getfield C m5_7 (host := "") (Or.inl (hw _ (List.mem_of_getElem? (i := 13) rfl))) Via.refl F0 ?_
  refine W.arraylength C m5_10 A0 (z := (Int32.ofNat ys.length)) (by rw [List.length_map]; exact ofNat_toInt (by omega)) ?_
  refine W.icmpN C m5_11 (show ¬ ¬ (((2 : Int32) * kk)).toInt = ((Int32.ofNat ys.length)).toInt from (by rw [own_dbl hk (by omega), ofNat_toInt (by omega)]; omega)) ?_
  refine W.aloadN C m5_14 rfl rfl ?_
  refine W.aloadN C m5_15 rfl rfl ?_
  refine W.getfield C m5_16 (host := "") (Or.inl (hw _ (List.mem_of_getElem? (i := 13) rfl))) Via.refl F0 ?_
  refine W.iconst C m5_19 (z := (2 : Int32)) rfl ?_
  refine W.aloadN C m5_20 rfl rfl ?_
  refine W.getfield C m5_21 (host := "") (Or.inl (hw _ (List.mem_of_getElem? (i := 13) rfl))) Via.refl F0 ?_
  refine W.arraylength C m5_24 A0 (z := (Int32.ofNat ys.length)) (by rw [List.length_map]; exact ofNat_toInt (by omega)) ?_
  refine W.imul C m5_25 rfl ?_
  have hn2 : (((2 : Int32) * (Int32.ofNat ys.length))).toInt = ((2 * ys.length : Nat) : Int) := own_dbl (ofNat_toInt (by omega)) (by omega)
  refine W.callS (y := mY6) (wt := 1) C m5_26 (hw _ (List.mem_of_getElem? (i := 32) rfl)) (hw _ (List.mem_of_getElem? (i := 33) rfl)) (hw _ (List.mem_of_getElem? (i := 34) rfl)) (hw _ (List.mem_of_getElem? (i := 35) rfl)) (by decide) pd6 rfl (own_cp Z a0 hw e ((2 : Int32) * (Int32.ofNat ys.length)) ys (2 * ys.length) h n0 z0 A0 hn2 (by omega) (by omega)) (as' := [(.ref e), (.int ((2 : Int32) * (Int32.ofNat ys.length)))]) (rest := [(.ref a)]) rfl rfl (Nat.le_of_eq rfl) (by decide) (by decide) (by decide) (by decide) ?_
  intro r7 h5 q6
  obtain ⟨e2, rfl, g3, K1, A4⟩ := q6
  have K8 := Keep.trans K0 K1 all0
  have E9 := E0.keep K1
  have F10 := F0.keep K1 nin0
  have F11 := F1.keep K1 nin0
  have A12 := A0.keep K1 nin0
  have z13 : n0 ≤ h5.size := Nat.le_trans z0 K1.1
  have ne14 : a ≠ e2 := Nat.ne_of_lt (Nat.lt_of_lt_of_le E0.lt g3)
  have ne15 : e ≠ e2 := Nat.ne_of_lt (Nat.lt_of_lt_of_le A0.lt g3)
  have g16 : n0 ≤ e2 := Nat.le_trans z0 g3
  have g17 := Nat.le_trans K0.1 g3
  show W κ n0 Qx h5 1 16 29 [.val (.ref a), .val (.int v1), .val (.int s1)] [(.ref e2), (.ref a)]
  refine W.putfield C m5_29 (host := "") (Or.inl (hw _ (List.mem_of_getElem? (i := 13) rfl))) Via.refl F10 E9 (Or.inl (hw _ (List.mem_of_getElem? (i := 14) rfl))) (hw _ (List.mem_of_getElem? (i := 4) rfl)) (ty := (.array .int)) (by decide) rfl rfl g0 ?_
  intro h18 W19 F20
  have E21 := E9.wr W19
  have F22 := F11.other W19 (Or.inr (slot_ne (a0 := a0) (Or.inl (hw _ (List.mem_of_getElem? (i := 21) rfl))) (Or.inl (hw _ (List.mem_of_getElem? (i := 14) rfl))) (by decide) (t := .int) (t' := (.array .int)) (by decide) (by decide)))
  have A23 := A12.other W19 (Ne.symm hae)
  have z24 : n0 ≤ h18.size := Nat.le_trans z13 (Nat.le_of_eq (Wr.size W19).symm)
  have A25 := A4.other W19 (Ne.symm ne14)
  have K26 := K8.wr W19 (Or.inl (List.mem_of_getElem? (i := 0) rfl))
  refine W.aloadN C m5_32 rfl rfl ?_
  refine W.getfield C m5_33 (host := "") (Or.inl (hw _ (List.mem_of_getElem? (i := 13) rfl))) Via.refl F20 ?_
  refine W.iconst C m5_36 (z := (2 : Int32)) rfl ?_
  refine W.aloadN C m5_37 rfl rfl ?_
  refine W.getfield C m5_38 (host := "") (Or.inl (hw _ (List.mem_of_getElem? (i := 20) rfl))) Via.refl F22 ?_
  refine W.imul C m5_41 rfl ?_
  refine W.iloadN C m5_42 rfl ?_
  refine W.iastore C m5_43 A25 (i := (2 * k)) (own_dbl hk (by omega)) (by simp only [List.length_map, List.length_set, List.length_append, List.length_replicate]; omega) g16 ?_
  intro h27 W28 A29
  have E30 := E21.wr W28
  have F31 := F20.other W28 (Or.inl ne14)
  have F32 := F22.other W28 (Or.inl ne14)
  have A33 := A23.other W28 ne15
  have z34 : n0 ≤ h27.size := Nat.le_trans z24 (Nat.le_of_eq (Wr.size W28).symm)
  have K35 := K26.wr W28 (Or.inr g17)
  have A36 := own_set A29
  refine W.aloadN C m5_44 rfl rfl ?_
  refine W.getfield C m5_45 (host := "") (Or.inl (hw _ (List.mem_of_getElem? (i := 13) rfl))) Via.refl F31 ?_
  refine W.iconst C m5_48 (z := (2 : Int32)) rfl ?_
  refine W.aloadN C m5_49 rfl rfl ?_
  refine W.getfield C m5_50 (host := "") (Or.inl (hw _ (List.mem_of_getElem? (i := 20) rfl))) Via.refl F32 ?_
  refine W.imul C m5_53 rfl ?_
  refine W.iconst C m5_54 (z := (1 : Int32)) rfl ?_
  refine W.iadd C m5_55 rfl ?_
  refine W.iloadN C m5_56 rfl ?_
  refine W.iastore C m5_57 A36 (i := (2 * k + 1)) (own_inc (own_dbl hk (by omega)) (by omega)) (by simp only [List.length_map, List.length_set, List.length_append, List.length_replicate]; omega) g16 ?_
  intro h37 W38 A39
  have E40 := E30.wr W38
  have F41 := F31.other W38 (Or.inl ne14)
  have F42 := F32.other W38 (Or.inl ne14)
  have A43 := A33.other W38 ne15
  have z44 : n0 ≤ h37.size := Nat.le_trans z34 (Nat.le_of_eq (Wr.size W38).symm)
  have K45 := K35.wr W38 (Or.inr g17)
  have A46 := own_set A39
  refine W.aloadN C m5_58 rfl rfl ?_
  refine W.dup C m5_59 rfl ?_
  refine W.getfield C m5_60 (host := "") (Or.inl (hw _ (List.mem_of_getElem? (i := 20) rfl))) Via.refl F42 ?_
  refine W.iconst C m5_63 (z := (1 : Int32)) rfl ?_
  refine W.iadd C m5_64 hk2 ?_
  refine W.putfield C m5_65 (host := "") (Or.inl (hw _ (List.mem_of_getElem? (i := 20) rfl))) Via.refl F42 E40 (Or.inl (hw _ (List.mem_of_getElem? (i := 21) rfl))) (hw _ (List.mem_of_getElem? (i := 4) rfl)) (ty := .int) (by decide) rfl rfl g0 ?_
  intro h47 W48 F49
  have E50 := E40.wr W48
  have F51 := F41.other W48 (Or.inr (slot_ne (a0 := a0) (Or.inl (hw _ (List.mem_of_getElem? (i := 14) rfl))) (Or.inl (hw _ (List.mem_of_getElem? (i := 21) rfl))) (by decide) (t := (.array .int)) (t' := .int) (by decide) (by decide)))
  have A52 := A43.other W48 (Ne.symm hae)
  have z53 : n0 ≤ h47.size := Nat.le_trans z44 (Nat.le_of_eq (Wr.size W48).symm)
  have A54 := A46.other W48 (Ne.symm ne14)
  have K55 := K45.wr W48 (Or.inl (List.mem_of_getElem? (i := 0) rfl))
  refine W.vreturn C m5_68 (hQ _ _ ?_)
  exact ⟨rfl, e2, K55, g17, E50, F51, F49, A54⟩
abbrev mY4 : MethodName := ⟨"com/example/principal/principal/engine/Row", "size", "()I"⟩
theorem m4_0 : Ins1 prog_18_method_4_code 0 (.aload_n 0) 1 1 := ⟨by decide +kernel, rfl⟩
theorem m4_1 : Ins1 prog_18_method_4_code 1 (.getfield 13) 3 4 := ⟨by decide +kernel, rfl⟩
theorem m4_4 : Ins1 prog_18_method_4_code 4 (.ireturn) 1 5 := ⟨by decide +kernel, rfl⟩
theorem pl4 : plainFor mY4 = true := plainFor_of_name (show plainName "com/example/principal/principal/engine/Row" = true by first | (simp [plainName, overriddenIn]; done) | decide +kernel)
theorem pd4 : parseMethodDescriptor "()I" = some ⟨[], some .int⟩ := by decide +kernel
set_option maxRecDepth 65536 in
set_option maxHeartbeats 4000000 in
theorem own_size (Z : State) (a0 : Array Value) (hw : ∀ d ∈ tables_1, d.before a0 Z = true) (a : Addr) (f : Int32) (h : Heap) (n0 : Nat) (F0 : Fld Z h a "com/example/principal/principal/engine/Row" "size" "I" (.int f)) :
    Con Z mY4 prog_18_method_4_code 1 (some .int) ({ frames := 0, cells := 0, slots := 0, locals := 0 } : Room) [(.ref a)] h n0 (fun v h' => h = h' ∧ v = some (.int f)) := by
  refine Con.of pl4 (L := [.val (.ref a)]) (fun m => by first | (simp [entryFrame, mkF, argsToLocals, Value.category]; done) | rfl) ?_
  intro κ Qx hQ C
  refine W.aloadN C m4_0 rfl rfl ?_
  refine W.getfield C m4_1 (host := "") (Or.inl (hw _ (List.mem_of_getElem? (i := 20) rfl))) Via.refl F0 ?_
  refine W.ireturn C m4_4 (hQ _ _ ?_)
  exact ⟨rfl, rfl⟩
abbrev mY3 : MethodName := ⟨"com/example/principal/principal/engine/Row", "indexOfStamp", "(I)I"⟩
theorem m3_0 : Ins1 prog_18_method_7_code 0 (.iconst 0) 1 1 := ⟨by decide +kernel, rfl⟩
theorem m3_1 : Ins1 prog_18_method_7_code 1 (.istore_n 2) 1 2 := ⟨by decide +kernel, rfl⟩
theorem m3_2 : Ins1 prog_18_method_7_code 2 (.aload_n 0) 1 3 := ⟨by decide +kernel, rfl⟩
theorem m3_3 : Ins1 prog_18_method_7_code 3 (.getfield 13) 3 6 := ⟨by decide +kernel, rfl⟩
theorem m3_6 : Ins1 prog_18_method_7_code 6 (.istore_n 3) 1 7 := ⟨by decide +kernel, rfl⟩
theorem m3_7 : Ins1 prog_18_method_7_code 7 (.iload_n 2) 1 8 := ⟨by decide +kernel, rfl⟩
theorem m3_8 : Ins1 prog_18_method_7_code 8 (.iload_n 3) 1 9 := ⟨by decide +kernel, rfl⟩
theorem m3_9 : Jmp1 prog_18_method_7_code 9 (.if_icmp .ge 39) 39 12 48 := ⟨by decide +kernel, rfl, by decide, by decide⟩
theorem m3_48 : Ins1 prog_18_method_7_code 48 (.iload_n 2) 1 49 := ⟨by decide +kernel, rfl⟩
theorem m3_49 : Ins1 prog_18_method_7_code 49 (.ireturn) 1 50 := ⟨by decide +kernel, rfl⟩
theorem pl3 : plainFor mY3 = true := plainFor_of_name (show plainName "com/example/principal/principal/engine/Row" = true by first | (simp [plainName, overriddenIn]; done) | decide +kernel)
theorem pd3 : parseMethodDescriptor "(I)I" = some ⟨[.int], some .int⟩ := by decide +kernel
set_option maxRecDepth 65536 in
set_option maxHeartbeats 4000000 in
theorem own_ix0 (Z : State) (a0 : Array Value) (hw : ∀ d ∈ tables_1, d.before a0 Z = true) (a : Addr) (q : Int32) (e : Addr)  (zs : List Int32) (h : Heap) (n0 : Nat)  (F0 : Fld Z h a "com/example/principal/principal/engine/Row" "entries" "[I" (.ref e)) (F1 : Fld Z h a "com/example/principal/principal/engine/Row" "size" "I" (.int (0 : Int32))) (A0 : Av Z h e .int (zs.map Value.int)) :
    Con Z mY3 prog_18_method_7_code 5 (some .int) ({ frames := 0, cells := 0, slots := 0, locals := 0 } : Room) [(.ref a), (.int q)] h n0 (fun v h' => h = h' ∧ ∃ r : Int32, v = some (.int r) ∧ 0 ≤ r.toInt ∧ r.toInt ≤ 0) := by
  refine Con.of pl3 (L := [.val (.ref a), .val (.int q), .unset, .unset, .unset]) (fun m => by first | (simp [entryFrame, mkF, argsToLocals, Value.category]; done) | rfl) ?_
  intro κ Qx hQ C
  refine W.iconst C m3_0 (z := (0 : Int32)) rfl ?_
  refine W.istoreN C m3_1 (L' := [.val (.ref a), .val (.int q), .val (.int (0 : Int32)), .unset, .unset]) rfl ?_
  refine W.aloadN C m3_2 rfl rfl ?_
  refine W.getfield C m3_3 (host := "") (Or.inl (hw _ (List.mem_of_getElem? (i := 20) rfl))) Via.refl F1 ?_
  refine W.istoreN C m3_6 (L' := [.val (.ref a), .val (.int q), .val (.int (0 : Int32)), .val (.int (0 : Int32)), .unset]) rfl ?_
  refine W.iloadN C m3_7 rfl ?_
  refine W.iloadN C m3_8 rfl ?_
  refine W.icmpY C m3_9 (show (0 : Int) ≤ (0 : Int) from (by decide)) ?_
  refine W.iloadN C m3_48 rfl ?_
  refine W.ireturn C m3_49 (hQ _ _ ?_)
  have e0 : (0 : Int32).toInt = 0 := rfl
  exact ⟨rfl, (0 : Int32), rfl, by omega⟩
theorem m3_12 : Ins1 prog_18_method_7_code 12 (.iload_n 2) 1 13 := ⟨by decide +kernel, rfl⟩
theorem m3_13 : Ins1 prog_18_method_7_code 13 (.iload_n 3) 1 14 := ⟨by decide +kernel, rfl⟩
theorem m3_14 : Ins1 prog_18_method_7_code 14 (.iadd) 1 15 := ⟨by decide +kernel, rfl⟩
theorem m3_15 : Ins1 prog_18_method_7_code 15 (.iconst 1) 1 16 := ⟨by decide +kernel, rfl⟩
theorem m3_16 : Ins1 prog_18_method_7_code 16 (.iushr) 1 17 := ⟨by decide +kernel, rfl⟩
theorem m3_17 : Ins1 prog_18_method_7_code 17 (.istore 4) 2 19 := ⟨by decide +kernel, rfl⟩
theorem m3_19 : Ins1 prog_18_method_7_code 19 (.aload_n 0) 1 20 := ⟨by decide +kernel, rfl⟩
theorem m3_20 : Ins1 prog_18_method_7_code 20 (.getfield 7) 3 23 := ⟨by decide +kernel, rfl⟩
theorem m3_23 : Ins1 prog_18_method_7_code 23 (.iconst 2) 1 24 := ⟨by decide +kernel, rfl⟩
theorem m3_24 : Ins1 prog_18_method_7_code 24 (.iload 4) 2 26 := ⟨by decide +kernel, rfl⟩
theorem m3_26 : Ins1 prog_18_method_7_code 26 (.imul) 1 27 := ⟨by decide +kernel, rfl⟩
theorem m3_27 : Ins1 prog_18_method_7_code 27 (.iconst 1) 1 28 := ⟨by decide +kernel, rfl⟩
theorem m3_28 : Ins1 prog_18_method_7_code 28 (.iadd) 1 29 := ⟨by decide +kernel, rfl⟩
theorem m3_29 : Ins1 prog_18_method_7_code 29 (.iaload) 1 30 := ⟨by decide +kernel, rfl⟩
theorem m3_30 : Ins1 prog_18_method_7_code 30 (.iload_n 1) 1 31 := ⟨by decide +kernel, rfl⟩
theorem m3_31 : Jmp1 prog_18_method_7_code 31 (.if_icmp .ge 11) 11 34 42 := ⟨by decide +kernel, rfl, by decide, by decide⟩
theorem m3_34 : Ins1 prog_18_method_7_code 34 (.iload 4) 2 36 := ⟨by decide +kernel, rfl⟩
theorem m3_36 : Ins1 prog_18_method_7_code 36 (.iconst 1) 1 37 := ⟨by decide +kernel, rfl⟩
theorem m3_37 : Ins1 prog_18_method_7_code 37 (.iadd) 1 38 := ⟨by decide +kernel, rfl⟩
theorem m3_38 : Ins1 prog_18_method_7_code 38 (.istore_n 2) 1 39 := ⟨by decide +kernel, rfl⟩
theorem m3_39 : Jmp1 prog_18_method_7_code 39 (.goto 6) 6 42 45 := ⟨by decide +kernel, rfl, by decide, by decide⟩
theorem m3_42 : Ins1 prog_18_method_7_code 42 (.iload 4) 2 44 := ⟨by decide +kernel, rfl⟩
theorem m3_44 : Ins1 prog_18_method_7_code 44 (.istore_n 3) 1 45 := ⟨by decide +kernel, rfl⟩
theorem m3_45 : Jmp1 prog_18_method_7_code 45 (.goto (-38)) (-38) 48 7 := ⟨by decide +kernel, rfl, by decide, by decide⟩
set_option maxRecDepth 65536 in
set_option maxHeartbeats 4000000 in
theorem own_ix1 (Z : State) (a0 : Array Value) (hw : ∀ d ∈ tables_1, d.before a0 Z = true) (a : Addr) (q : Int32) (e : Addr) (y0 y1 : Int32) (zs : List Int32) (h : Heap) (n0 : Nat)  (F0 : Fld Z h a "com/example/principal/principal/engine/Row" "entries" "[I" (.ref e)) (F1 : Fld Z h a "com/example/principal/principal/engine/Row" "size" "I" (.int (1 : Int32))) (A0 : Av Z h e .int (([y0, y1] ++ zs).map Value.int)) :
    Con Z mY3 prog_18_method_7_code 5 (some .int) ({ frames := 0, cells := 0, slots := 0, locals := 0 } : Room) [(.ref a), (.int q)] h n0 (fun v h' => h = h' ∧ ∃ r : Int32, v = some (.int r) ∧ 0 ≤ r.toInt ∧ r.toInt ≤ 1 ∧ (y1.toInt < q.toInt ↔ 0 < r.toInt)) := by
  refine Con.of pl3 (L := [.val (.ref a), .val (.int q), .unset, .unset, .unset]) (fun m => by first | (simp [entryFrame, mkF, argsToLocals, Value.category]; done) | rfl) ?_
  intro κ Qx hQ C
  refine W.iconst C m3_0 (z := (0 : Int32)) rfl ?_
  refine W.istoreN C m3_1 (L' := [.val (.ref a), .val (.int q), .val (.int (0 : Int32)), .unset, .unset]) rfl ?_
  refine W.aloadN C m3_2 rfl rfl ?_
  refine W.getfield C m3_3 (host := "") (Or.inl (hw _ (List.mem_of_getElem? (i := 20) rfl))) Via.refl F1 ?_
  refine W.istoreN C m3_6 (L' := [.val (.ref a), .val (.int q), .val (.int (0 : Int32)), .val (.int (1 : Int32)), .unset]) rfl ?_
  refine W.iloadN C m3_7 rfl ?_
  refine W.iloadN C m3_8 rfl ?_
  refine W.icmpN C m3_9 (show ¬ ((1 : Int) ≤ (0 : Int)) from (by decide)) ?_
  refine W.iloadN C m3_12 rfl ?_
  refine W.iloadN C m3_13 rfl ?_
  refine W.iadd C m3_14 (z := (1 : Int32)) rfl ?_
  refine W.iconst C m3_15 (z := (1 : Int32)) rfl ?_
  refine W.iushr C m3_16 (z := (0 : Int32)) rfl ?_
  refine W.istore C m3_17 (L' := [.val (.ref a), .val (.int q), .val (.int (0 : Int32)), .val (.int (1 : Int32)), .val (.int (0 : Int32))]) rfl ?_
  refine W.aloadN C m3_19 rfl rfl ?_
  refine W.getfield C m3_20 (host := "") (Or.inl (hw _ (List.mem_of_getElem? (i := 13) rfl))) Via.refl F0 ?_
  refine W.iconst C m3_23 (z := (2 : Int32)) rfl ?_
  refine W.iload C m3_24 rfl ?_
  refine W.imul C m3_26 (z := (0 : Int32)) rfl ?_
  refine W.iconst C m3_27 (z := (1 : Int32)) rfl ?_
  refine W.iadd C m3_28 (z := (1 : Int32)) rfl ?_
  refine W.iaload C m3_29 A0 (i := 1) rfl rfl ?_
  refine W.iloadN C m3_30 rfl ?_
  refine W.icmp C m3_31 ?_ ?_
  · intro (h31 : q.toInt ≤ y1.toInt)
    refine W.iload C m3_42 rfl ?_
    refine W.istoreN C m3_44 (L' := [.val (.ref a), .val (.int q), .val (.int (0 : Int32)), .val (.int (0 : Int32)), .val (.int (0 : Int32))]) rfl ?_
    refine W.goto C m3_45 ?_
    refine W.iloadN C m3_7 rfl ?_
    refine W.iloadN C m3_8 rfl ?_
    refine W.icmpY C m3_9 (show (0 : Int) ≤ (0 : Int) from (by decide)) ?_
    refine W.iloadN C m3_48 rfl ?_
    refine W.ireturn C m3_49 (hQ _ _ ?_)
    have e0 : (0 : Int32).toInt = 0 := rfl
    exact ⟨rfl, (0 : Int32), rfl, by omega⟩
  · intro (h31 : ¬ (q.toInt ≤ y1.toInt))
    replace h31 : y1.toInt < q.toInt := by omega
    refine W.iload C m3_34 rfl ?_
    refine W.iconst C m3_36 (z := (1 : Int32)) rfl ?_
    refine W.iadd C m3_37 (z := (1 : Int32)) rfl ?_
    refine W.istoreN C m3_38 (L' := [.val (.ref a), .val (.int q), .val (.int (1 : Int32)), .val (.int (1 : Int32)), .val (.int (0 : Int32))]) rfl ?_
    refine W.goto C m3_39 ?_
    refine W.goto C m3_45 ?_
    refine W.iloadN C m3_7 rfl ?_
    refine W.iloadN C m3_8 rfl ?_
    refine W.icmpY C m3_9 (show (1 : Int) ≤ (1 : Int) from (by decide)) ?_
    refine W.iloadN C m3_48 rfl ?_
    refine W.ireturn C m3_49 (hQ _ _ ?_)
    have e0 : (1 : Int32).toInt = 1 := rfl
    exact ⟨rfl, (1 : Int32), rfl, by omega⟩
set_option maxRecDepth 65536 in
set_option maxHeartbeats 4000000 in
theorem own_ix2 (Z : State) (a0 : Array Value) (hw : ∀ d ∈ tables_1, d.before a0 Z = true) (a : Addr) (q : Int32) (e : Addr) (y0 y1 y2 y3 : Int32) (zs : List Int32) (h : Heap) (n0 : Nat) (hs0 : y1.toInt < y3.toInt) (F0 : Fld Z h a "com/example/principal/principal/engine/Row" "entries" "[I" (.ref e)) (F1 : Fld Z h a "com/example/principal/principal/engine/Row" "size" "I" (.int (2 : Int32))) (A0 : Av Z h e .int (([y0, y1, y2, y3] ++ zs).map Value.int)) :
    Con Z mY3 prog_18_method_7_code 5 (some .int) ({ frames := 0, cells := 0, slots := 0, locals := 0 } : Room) [(.ref a), (.int q)] h n0 (fun v h' => h = h' ∧ ∃ r : Int32, v = some (.int r) ∧ 0 ≤ r.toInt ∧ r.toInt ≤ 2 ∧ (y1.toInt < q.toInt ↔ 0 < r.toInt) ∧ (y3.toInt < q.toInt ↔ 1 < r.toInt)) := by
  refine Con.of pl3 (L := [.val (.ref a), .val (.int q), .unset, .unset, .unset]) (fun m => by first | (simp [entryFrame, mkF, argsToLocals, Value.category]; done) | rfl) ?_
  intro κ Qx hQ C
  refine W.iconst C m3_0 (z := (0 : Int32)) rfl ?_
  refine W.istoreN C m3_1 (L' := [.val (.ref a), .val (.int q), .val (.int (0 : Int32)), .unset, .unset]) rfl ?_
  refine W.aloadN C m3_2 rfl rfl ?_
  refine W.getfield C m3_3 (host := "") (Or.inl (hw _ (List.mem_of_getElem? (i := 20) rfl))) Via.refl F1 ?_
  refine W.istoreN C m3_6 (L' := [.val (.ref a), .val (.int q), .val (.int (0 : Int32)), .val (.int (2 : Int32)), .unset]) rfl ?_
  refine W.iloadN C m3_7 rfl ?_
  refine W.iloadN C m3_8 rfl ?_
  refine W.icmpN C m3_9 (show ¬ ((2 : Int) ≤ (0 : Int)) from (by decide)) ?_
  refine W.iloadN C m3_12 rfl ?_
  refine W.iloadN C m3_13 rfl ?_
  refine W.iadd C m3_14 (z := (2 : Int32)) rfl ?_
  refine W.iconst C m3_15 (z := (1 : Int32)) rfl ?_
  refine W.iushr C m3_16 (z := (1 : Int32)) rfl ?_
  refine W.istore C m3_17 (L' := [.val (.ref a), .val (.int q), .val (.int (0 : Int32)), .val (.int (2 : Int32)), .val (.int (1 : Int32))]) rfl ?_
  refine W.aloadN C m3_19 rfl rfl ?_
  refine W.getfield C m3_20 (host := "") (Or.inl (hw _ (List.mem_of_getElem? (i := 13) rfl))) Via.refl F0 ?_
  refine W.iconst C m3_23 (z := (2 : Int32)) rfl ?_
  refine W.iload C m3_24 rfl ?_
  refine W.imul C m3_26 (z := (2 : Int32)) rfl ?_
  refine W.iconst C m3_27 (z := (1 : Int32)) rfl ?_
  refine W.iadd C m3_28 (z := (3 : Int32)) rfl ?_
  refine W.iaload C m3_29 A0 (i := 3) rfl rfl ?_
  refine W.iloadN C m3_30 rfl ?_
  refine W.icmp C m3_31 ?_ ?_
  · intro (h31 : q.toInt ≤ y3.toInt)
    refine W.iload C m3_42 rfl ?_
    refine W.istoreN C m3_44 (L' := [.val (.ref a), .val (.int q), .val (.int (0 : Int32)), .val (.int (1 : Int32)), .val (.int (1 : Int32))]) rfl ?_
    refine W.goto C m3_45 ?_
    refine W.iloadN C m3_7 rfl ?_
    refine W.iloadN C m3_8 rfl ?_
    refine W.icmpN C m3_9 (show ¬ ((1 : Int) ≤ (0 : Int)) from (by decide)) ?_
    refine W.iloadN C m3_12 rfl ?_
    refine W.iloadN C m3_13 rfl ?_
    refine W.iadd C m3_14 (z := (1 : Int32)) rfl ?_
    refine W.iconst C m3_15 (z := (1 : Int32)) rfl ?_
    refine W.iushr C m3_16 (z := (0 : Int32)) rfl ?_
    refine W.istore C m3_17 (L' := [.val (.ref a), .val (.int q), .val (.int (0 : Int32)), .val (.int (1 : Int32)), .val (.int (0 : Int32))]) rfl ?_
    refine W.aloadN C m3_19 rfl rfl ?_
    refine W.getfield C m3_20 (host := "") (Or.inl (hw _ (List.mem_of_getElem? (i := 13) rfl))) Via.refl F0 ?_
    refine W.iconst C m3_23 (z := (2 : Int32)) rfl ?_
    refine W.iload C m3_24 rfl ?_
    refine W.imul C m3_26 (z := (0 : Int32)) rfl ?_
    refine W.iconst C m3_27 (z := (1 : Int32)) rfl ?_
    refine W.iadd C m3_28 (z := (1 : Int32)) rfl ?_
    refine W.iaload C m3_29 A0 (i := 1) rfl rfl ?_
    refine W.iloadN C m3_30 rfl ?_
    refine W.icmp C m3_31 ?_ ?_
    · intro (h31 : q.toInt ≤ y1.toInt)
      refine W.iload C m3_42 rfl ?_
      refine W.istoreN C m3_44 (L' := [.val (.ref a), .val (.int q), .val (.int (0 : Int32)), .val (.int (0 : Int32)), .val (.int (0 : Int32))]) rfl ?_
      refine W.goto C m3_45 ?_
      refine W.iloadN C m3_7 rfl ?_
      refine W.iloadN C m3_8 rfl ?_
      refine W.icmpY C m3_9 (show (0 : Int) ≤ (0 : Int) from (by decide)) ?_
      refine W.iloadN C m3_48 rfl ?_
      refine W.ireturn C m3_49 (hQ _ _ ?_)
      have e0 : (0 : Int32).toInt = 0 := rfl
      exact ⟨rfl, (0 : Int32), rfl, by omega⟩
    · intro (h31 : ¬ (q.toInt ≤ y1.toInt))
      replace h31 : y1.toInt < q.toInt := by omega
      refine W.iload C m3_34 rfl ?_
      refine W.iconst C m3_36 (z := (1 : Int32)) rfl ?_
      refine W.iadd C m3_37 (z := (1 : Int32)) rfl ?_
      refine W.istoreN C m3_38 (L' := [.val (.ref a), .val (.int q), .val (.int (1 : Int32)), .val (.int (1 : Int32)), .val (.int (0 : Int32))]) rfl ?_
      refine W.goto C m3_39 ?_
      refine W.goto C m3_45 ?_
      refine W.iloadN C m3_7 rfl ?_
      refine W.iloadN C m3_8 rfl ?_
      refine W.icmpY C m3_9 (show (1 : Int) ≤ (1 : Int) from (by decide)) ?_
      refine W.iloadN C m3_48 rfl ?_
      refine W.ireturn C m3_49 (hQ _ _ ?_)
      have e0 : (1 : Int32).toInt = 1 := rfl
      exact ⟨rfl, (1 : Int32), rfl, by omega⟩
  · intro (h31 : ¬ (q.toInt ≤ y3.toInt))
    replace h31 : y3.toInt < q.toInt := by omega
    refine W.iload C m3_34 rfl ?_
    refine W.iconst C m3_36 (z := (1 : Int32)) rfl ?_
    refine W.iadd C m3_37 (z := (2 : Int32)) rfl ?_
    refine W.istoreN C m3_38 (L' := [.val (.ref a), .val (.int q), .val (.int (2 : Int32)), .val (.int (2 : Int32)), .val (.int (1 : Int32))]) rfl ?_
    refine W.goto C m3_39 ?_
    refine W.goto C m3_45 ?_
    refine W.iloadN C m3_7 rfl ?_
    refine W.iloadN C m3_8 rfl ?_
    refine W.icmpY C m3_9 (show (2 : Int) ≤ (2 : Int) from (by decide)) ?_
    refine W.iloadN C m3_48 rfl ?_
    refine W.ireturn C m3_49 (hQ _ _ ?_)
    have e0 : (2 : Int32).toInt = 2 := rfl
    exact ⟨rfl, (2 : Int32), rfl, by omega⟩
set_option maxRecDepth 65536 in
set_option maxHeartbeats 4000000 in
theorem own_ix3 (Z : State) (a0 : Array Value) (hw : ∀ d ∈ tables_1, d.before a0 Z = true) (a : Addr) (q : Int32) (e : Addr) (y0 y1 y2 y3 y4 y5 : Int32) (zs : List Int32) (h : Heap) (n0 : Nat) (hs0 : y1.toInt < y3.toInt) (hs1 : y3.toInt < y5.toInt) (F0 : Fld Z h a "com/example/principal/principal/engine/Row" "entries" "[I" (.ref e)) (F1 : Fld Z h a "com/example/principal/principal/engine/Row" "size" "I" (.int (3 : Int32))) (A0 : Av Z h e .int (([y0, y1, y2, y3, y4, y5] ++ zs).map Value.int)) :
    Con Z mY3 prog_18_method_7_code 5 (some .int) ({ frames := 0, cells := 0, slots := 0, locals := 0 } : Room) [(.ref a), (.int q)] h n0 (fun v h' => h = h' ∧ ∃ r : Int32, v = some (.int r) ∧ 0 ≤ r.toInt ∧ r.toInt ≤ 3 ∧ (y1.toInt < q.toInt ↔ 0 < r.toInt) ∧ (y3.toInt < q.toInt ↔ 1 < r.toInt) ∧ (y5.toInt < q.toInt ↔ 2 < r.toInt)) := by
  refine Con.of pl3 (L := [.val (.ref a), .val (.int q), .unset, .unset, .unset]) (fun m => by first | (simp [entryFrame, mkF, argsToLocals, Value.category]; done) | rfl) ?_
  intro κ Qx hQ C
  refine W.iconst C m3_0 (z := (0 : Int32)) rfl ?_
  refine W.istoreN C m3_1 (L' := [.val (.ref a), .val (.int q), .val (.int (0 : Int32)), .unset, .unset]) rfl ?_
  refine W.aloadN C m3_2 rfl rfl ?_
  refine W.getfield C m3_3 (host := "") (Or.inl (hw _ (List.mem_of_getElem? (i := 20) rfl))) Via.refl F1 ?_
  refine W.istoreN C m3_6 (L' := [.val (.ref a), .val (.int q), .val (.int (0 : Int32)), .val (.int (3 : Int32)), .unset]) rfl ?_
  refine W.iloadN C m3_7 rfl ?_
  refine W.iloadN C m3_8 rfl ?_
  refine W.icmpN C m3_9 (show ¬ ((3 : Int) ≤ (0 : Int)) from (by decide)) ?_
  refine W.iloadN C m3_12 rfl ?_
  refine W.iloadN C m3_13 rfl ?_
  refine W.iadd C m3_14 (z := (3 : Int32)) rfl ?_
  refine W.iconst C m3_15 (z := (1 : Int32)) rfl ?_
  refine W.iushr C m3_16 (z := (1 : Int32)) rfl ?_
  refine W.istore C m3_17 (L' := [.val (.ref a), .val (.int q), .val (.int (0 : Int32)), .val (.int (3 : Int32)), .val (.int (1 : Int32))]) rfl ?_
  refine W.aloadN C m3_19 rfl rfl ?_
  refine W.getfield C m3_20 (host := "") (Or.inl (hw _ (List.mem_of_getElem? (i := 13) rfl))) Via.refl F0 ?_
  refine W.iconst C m3_23 (z := (2 : Int32)) rfl ?_
  refine W.iload C m3_24 rfl ?_
  refine W.imul C m3_26 (z := (2 : Int32)) rfl ?_
  refine W.iconst C m3_27 (z := (1 : Int32)) rfl ?_
  refine W.iadd C m3_28 (z := (3 : Int32)) rfl ?_
  refine W.iaload C m3_29 A0 (i := 3) rfl rfl ?_
  refine W.iloadN C m3_30 rfl ?_
  refine W.icmp C m3_31 ?_ ?_
  · intro (h31 : q.toInt ≤ y3.toInt)
    refine W.iload C m3_42 rfl ?_
    refine W.istoreN C m3_44 (L' := [.val (.ref a), .val (.int q), .val (.int (0 : Int32)), .val (.int (1 : Int32)), .val (.int (1 : Int32))]) rfl ?_
    refine W.goto C m3_45 ?_
    refine W.iloadN C m3_7 rfl ?_
    refine W.iloadN C m3_8 rfl ?_
    refine W.icmpN C m3_9 (show ¬ ((1 : Int) ≤ (0 : Int)) from (by decide)) ?_
    refine W.iloadN C m3_12 rfl ?_
    refine W.iloadN C m3_13 rfl ?_
    refine W.iadd C m3_14 (z := (1 : Int32)) rfl ?_
    refine W.iconst C m3_15 (z := (1 : Int32)) rfl ?_
    refine W.iushr C m3_16 (z := (0 : Int32)) rfl ?_
    refine W.istore C m3_17 (L' := [.val (.ref a), .val (.int q), .val (.int (0 : Int32)), .val (.int (1 : Int32)), .val (.int (0 : Int32))]) rfl ?_
    refine W.aloadN C m3_19 rfl rfl ?_
    refine W.getfield C m3_20 (host := "") (Or.inl (hw _ (List.mem_of_getElem? (i := 13) rfl))) Via.refl F0 ?_
    refine W.iconst C m3_23 (z := (2 : Int32)) rfl ?_
    refine W.iload C m3_24 rfl ?_
    refine W.imul C m3_26 (z := (0 : Int32)) rfl ?_
    refine W.iconst C m3_27 (z := (1 : Int32)) rfl ?_
    refine W.iadd C m3_28 (z := (1 : Int32)) rfl ?_
    refine W.iaload C m3_29 A0 (i := 1) rfl rfl ?_
    refine W.iloadN C m3_30 rfl ?_
    refine W.icmp C m3_31 ?_ ?_
    · intro (h31 : q.toInt ≤ y1.toInt)
      refine W.iload C m3_42 rfl ?_
      refine W.istoreN C m3_44 (L' := [.val (.ref a), .val (.int q), .val (.int (0 : Int32)), .val (.int (0 : Int32)), .val (.int (0 : Int32))]) rfl ?_
      refine W.goto C m3_45 ?_
      refine W.iloadN C m3_7 rfl ?_
      refine W.iloadN C m3_8 rfl ?_
      refine W.icmpY C m3_9 (show (0 : Int) ≤ (0 : Int) from (by decide)) ?_
      refine W.iloadN C m3_48 rfl ?_
      refine W.ireturn C m3_49 (hQ _ _ ?_)
      have e0 : (0 : Int32).toInt = 0 := rfl
      exact ⟨rfl, (0 : Int32), rfl, by omega⟩
    · intro (h31 : ¬ (q.toInt ≤ y1.toInt))
      replace h31 : y1.toInt < q.toInt := by omega
      refine W.iload C m3_34 rfl ?_
      refine W.iconst C m3_36 (z := (1 : Int32)) rfl ?_
      refine W.iadd C m3_37 (z := (1 : Int32)) rfl ?_
      refine W.istoreN C m3_38 (L' := [.val (.ref a), .val (.int q), .val (.int (1 : Int32)), .val (.int (1 : Int32)), .val (.int (0 : Int32))]) rfl ?_
      refine W.goto C m3_39 ?_
      refine W.goto C m3_45 ?_
      refine W.iloadN C m3_7 rfl ?_
      refine W.iloadN C m3_8 rfl ?_
      refine W.icmpY C m3_9 (show (1 : Int) ≤ (1 : Int) from (by decide)) ?_
      refine W.iloadN C m3_48 rfl ?_
      refine W.ireturn C m3_49 (hQ _ _ ?_)
      have e0 : (1 : Int32).toInt = 1 := rfl
      exact ⟨rfl, (1 : Int32), rfl, by omega⟩
  · intro (h31 : ¬ (q.toInt ≤ y3.toInt))
    replace h31 : y3.toInt < q.toInt := by omega
    refine W.iload C m3_34 rfl ?_
    refine W.iconst C m3_36 (z := (1 : Int32)) rfl ?_
    refine W.iadd C m3_37 (z := (2 : Int32)) rfl ?_
    refine W.istoreN C m3_38 (L' := [.val (.ref a), .val (.int q), .val (.int (2 : Int32)), .val (.int (3 : Int32)), .val (.int (1 : Int32))]) rfl ?_
    refine W.goto C m3_39 ?_
    refine W.goto C m3_45 ?_
    refine W.iloadN C m3_7 rfl ?_
    refine W.iloadN C m3_8 rfl ?_
    refine W.icmpN C m3_9 (show ¬ ((3 : Int) ≤ (2 : Int)) from (by decide)) ?_
    refine W.iloadN C m3_12 rfl ?_
    refine W.iloadN C m3_13 rfl ?_
    refine W.iadd C m3_14 (z := (5 : Int32)) rfl ?_
    refine W.iconst C m3_15 (z := (1 : Int32)) rfl ?_
    refine W.iushr C m3_16 (z := (2 : Int32)) rfl ?_
    refine W.istore C m3_17 (L' := [.val (.ref a), .val (.int q), .val (.int (2 : Int32)), .val (.int (3 : Int32)), .val (.int (2 : Int32))]) rfl ?_
    refine W.aloadN C m3_19 rfl rfl ?_
    refine W.getfield C m3_20 (host := "") (Or.inl (hw _ (List.mem_of_getElem? (i := 13) rfl))) Via.refl F0 ?_
    refine W.iconst C m3_23 (z := (2 : Int32)) rfl ?_
    refine W.iload C m3_24 rfl ?_
    refine W.imul C m3_26 (z := (4 : Int32)) rfl ?_
    refine W.iconst C m3_27 (z := (1 : Int32)) rfl ?_
    refine W.iadd C m3_28 (z := (5 : Int32)) rfl ?_
    refine W.iaload C m3_29 A0 (i := 5) rfl rfl ?_
    refine W.iloadN C m3_30 rfl ?_
    refine W.icmp C m3_31 ?_ ?_
    · intro (h31 : q.toInt ≤ y5.toInt)
      refine W.iload C m3_42 rfl ?_
      refine W.istoreN C m3_44 (L' := [.val (.ref a), .val (.int q), .val (.int (2 : Int32)), .val (.int (2 : Int32)), .val (.int (2 : Int32))]) rfl ?_
      refine W.goto C m3_45 ?_
      refine W.iloadN C m3_7 rfl ?_
      refine W.iloadN C m3_8 rfl ?_
      refine W.icmpY C m3_9 (show (2 : Int) ≤ (2 : Int) from (by decide)) ?_
      refine W.iloadN C m3_48 rfl ?_
      refine W.ireturn C m3_49 (hQ _ _ ?_)
      have e0 : (2 : Int32).toInt = 2 := rfl
      exact ⟨rfl, (2 : Int32), rfl, by omega⟩
    · intro (h31 : ¬ (q.toInt ≤ y5.toInt))
      replace h31 : y5.toInt < q.toInt := by omega
      refine W.iload C m3_34 rfl ?_
      refine W.iconst C m3_36 (z := (1 : Int32)) rfl ?_
      refine W.iadd C m3_37 (z := (3 : Int32)) rfl ?_
      refine W.istoreN C m3_38 (L' := [.val (.ref a), .val (.int q), .val (.int (3 : Int32)), .val (.int (3 : Int32)), .val (.int (2 : Int32))]) rfl ?_
      refine W.goto C m3_39 ?_
      refine W.goto C m3_45 ?_
      refine W.iloadN C m3_7 rfl ?_
      refine W.iloadN C m3_8 rfl ?_
      refine W.icmpY C m3_9 (show (3 : Int) ≤ (3 : Int) from (by decide)) ?_
      refine W.iloadN C m3_48 rfl ?_
      refine W.ireturn C m3_49 (hQ _ _ ?_)
      have e0 : (3 : Int32).toInt = 3 := rfl
      exact ⟨rfl, (3 : Int32), rfl, by omega⟩
set_option maxRecDepth 65536 in
set_option maxHeartbeats 4000000 in
theorem own_ix4 (Z : State) (a0 : Array Value) (hw : ∀ d ∈ tables_1, d.before a0 Z = true) (a : Addr) (q : Int32) (e : Addr) (y0 y1 y2 y3 y4 y5 y6 y7 : Int32) (zs : List Int32) (h : Heap) (n0 : Nat) (hs0 : y1.toInt < y3.toInt) (hs1 : y3.toInt < y5.toInt) (hs2 : y5.toInt < y7.toInt) (F0 : Fld Z h a "com/example/principal/principal/engine/Row" "entries" "[I" (.ref e)) (F1 : Fld Z h a "com/example/principal/principal/engine/Row" "size" "I" (.int (4 : Int32))) (A0 : Av Z h e .int (([y0, y1, y2, y3, y4, y5, y6, y7] ++ zs).map Value.int)) :
    Con Z mY3 prog_18_method_7_code 5 (some .int) ({ frames := 0, cells := 0, slots := 0, locals := 0 } : Room) [(.ref a), (.int q)] h n0 (fun v h' => h = h' ∧ ∃ r : Int32, v = some (.int r) ∧ 0 ≤ r.toInt ∧ r.toInt ≤ 4 ∧ (y1.toInt < q.toInt ↔ 0 < r.toInt) ∧ (y3.toInt < q.toInt ↔ 1 < r.toInt) ∧ (y5.toInt < q.toInt ↔ 2 < r.toInt) ∧ (y7.toInt < q.toInt ↔ 3 < r.toInt)) := by
  refine Con.of pl3 (L := [.val (.ref a), .val (.int q), .unset, .unset, .unset]) (fun m => by first | (simp [entryFrame, mkF, argsToLocals, Value.category]; done) | rfl) ?_
  intro κ Qx hQ C
  refine W.iconst C m3_0 (z := (0 : Int32)) rfl ?_
  refine W.istoreN C m3_1 (L' := [.val (.ref a), .val (.int q), .val (.int (0 : Int32)), .unset, .unset]) rfl ?_
  refine W.aloadN C m3_2 rfl rfl ?_
  refine W.getfield C m3_3 (host := "") (Or.inl (hw _ (List.mem_of_getElem? (i := 20) rfl))) Via.refl F1 ?_
  refine W.istoreN C m3_6 (L' := [.val (.ref a), .val (.int q), .val (.int (0 : Int32)), .val (.int (4 : Int32)), .unset]) rfl ?_
  refine W.iloadN C m3_7 rfl ?_
  refine W.iloadN C m3_8 rfl ?_
  refine W.icmpN C m3_9 (show ¬ ((4 : Int) ≤ (0 : Int)) from (by decide)) ?_
  refine W.iloadN C m3_12 rfl ?_
  refine W.iloadN C m3_13 rfl ?_
  refine W.iadd C m3_14 (z := (4 : Int32)) rfl ?_
  refine W.iconst C m3_15 (z := (1 : Int32)) rfl ?_
  refine W.iushr C m3_16 (z := (2 : Int32)) rfl ?_
  refine W.istore C m3_17 (L' := [.val (.ref a), .val (.int q), .val (.int (0 : Int32)), .val (.int (4 : Int32)), .val (.int (2 : Int32))]) rfl ?_
  refine W.aloadN C m3_19 rfl rfl ?_
  refine W.getfield C m3_20 (host := "") (Or.inl (hw _ (List.mem_of_getElem? (i := 13) rfl))) Via.refl F0 ?_
  refine W.iconst C m3_23 (z := (2 : Int32)) rfl ?_
  refine W.iload C m3_24 rfl ?_
  refine W.imul C m3_26 (z := (4 : Int32)) rfl ?_
  refine W.iconst C m3_27 (z := (1 : Int32)) rfl ?_
  refine W.iadd C m3_28 (z := (5 : Int32)) rfl ?_
  refine W.iaload C m3_29 A0 (i := 5) rfl rfl ?_
  refine W.iloadN C m3_30 rfl ?_
  refine W.icmp C m3_31 ?_ ?_
  · intro (h31 : q.toInt ≤ y5.toInt)
    refine W.iload C m3_42 rfl ?_
    refine W.istoreN C m3_44 (L' := [.val (.ref a), .val (.int q), .val (.int (0 : Int32)), .val (.int (2 : Int32)), .val (.int (2 : Int32))]) rfl ?_
    refine W.goto C m3_45 ?_
    refine W.iloadN C m3_7 rfl ?_
    refine W.iloadN C m3_8 rfl ?_
    refine W.icmpN C m3_9 (show ¬ ((2 : Int) ≤ (0 : Int)) from (by decide)) ?_
    refine W.iloadN C m3_12 rfl ?_
    refine W.iloadN C m3_13 rfl ?_
    refine W.iadd C m3_14 (z := (2 : Int32)) rfl ?_
    refine W.iconst C m3_15 (z := (1 : Int32)) rfl ?_
    refine W.iushr C m3_16 (z := (1 : Int32)) rfl ?_
    refine W.istore C m3_17 (L' := [.val (.ref a), .val (.int q), .val (.int (0 : Int32)), .val (.int (2 : Int32)), .val (.int (1 : Int32))]) rfl ?_
    refine W.aloadN C m3_19 rfl rfl ?_
    refine W.getfield C m3_20 (host := "") (Or.inl (hw _ (List.mem_of_getElem? (i := 13) rfl))) Via.refl F0 ?_
    refine W.iconst C m3_23 (z := (2 : Int32)) rfl ?_
    refine W.iload C m3_24 rfl ?_
    refine W.imul C m3_26 (z := (2 : Int32)) rfl ?_
    refine W.iconst C m3_27 (z := (1 : Int32)) rfl ?_
    refine W.iadd C m3_28 (z := (3 : Int32)) rfl ?_
    refine W.iaload C m3_29 A0 (i := 3) rfl rfl ?_
    refine W.iloadN C m3_30 rfl ?_
    refine W.icmp C m3_31 ?_ ?_
    · intro (h31 : q.toInt ≤ y3.toInt)
      refine W.iload C m3_42 rfl ?_
      refine W.istoreN C m3_44 (L' := [.val (.ref a), .val (.int q), .val (.int (0 : Int32)), .val (.int (1 : Int32)), .val (.int (1 : Int32))]) rfl ?_
      refine W.goto C m3_45 ?_
      refine W.iloadN C m3_7 rfl ?_
      refine W.iloadN C m3_8 rfl ?_
      refine W.icmpN C m3_9 (show ¬ ((1 : Int) ≤ (0 : Int)) from (by decide)) ?_
      refine W.iloadN C m3_12 rfl ?_
      refine W.iloadN C m3_13 rfl ?_
      refine W.iadd C m3_14 (z := (1 : Int32)) rfl ?_
      refine W.iconst C m3_15 (z := (1 : Int32)) rfl ?_
      refine W.iushr C m3_16 (z := (0 : Int32)) rfl ?_
      refine W.istore C m3_17 (L' := [.val (.ref a), .val (.int q), .val (.int (0 : Int32)), .val (.int (1 : Int32)), .val (.int (0 : Int32))]) rfl ?_
      refine W.aloadN C m3_19 rfl rfl ?_
      refine W.getfield C m3_20 (host := "") (Or.inl (hw _ (List.mem_of_getElem? (i := 13) rfl))) Via.refl F0 ?_
      refine W.iconst C m3_23 (z := (2 : Int32)) rfl ?_
      refine W.iload C m3_24 rfl ?_
      refine W.imul C m3_26 (z := (0 : Int32)) rfl ?_
      refine W.iconst C m3_27 (z := (1 : Int32)) rfl ?_
      refine W.iadd C m3_28 (z := (1 : Int32)) rfl ?_
      refine W.iaload C m3_29 A0 (i := 1) rfl rfl ?_
      refine W.iloadN C m3_30 rfl ?_
      refine W.icmp C m3_31 ?_ ?_
      · intro (h31 : q.toInt ≤ y1.toInt)
        refine W.iload C m3_42 rfl ?_
        refine W.istoreN C m3_44 (L' := [.val (.ref a), .val (.int q), .val (.int (0 : Int32)), .val (.int (0 : Int32)), .val (.int (0 : Int32))]) rfl ?_
        refine W.goto C m3_45 ?_
        refine W.iloadN C m3_7 rfl ?_
        refine W.iloadN C m3_8 rfl ?_
        refine W.icmpY C m3_9 (show (0 : Int) ≤ (0 : Int) from (by decide)) ?_
        refine W.iloadN C m3_48 rfl ?_
        refine W.ireturn C m3_49 (hQ _ _ ?_)
        have e0 : (0 : Int32).toInt = 0 := rfl
        exact ⟨rfl, (0 : Int32), rfl, by omega⟩
      · intro (h31 : ¬ (q.toInt ≤ y1.toInt))
        replace h31 : y1.toInt < q.toInt := by omega
        refine W.iload C m3_34 rfl ?_
        refine W.iconst C m3_36 (z := (1 : Int32)) rfl ?_
        refine W.iadd C m3_37 (z := (1 : Int32)) rfl ?_
        refine W.istoreN C m3_38 (L' := [.val (.ref a), .val (.int q), .val (.int (1 : Int32)), .val (.int (1 : Int32)), .val (.int (0 : Int32))]) rfl ?_
        refine W.goto C m3_39 ?_
        refine W.goto C m3_45 ?_
        refine W.iloadN C m3_7 rfl ?_
        refine W.iloadN C m3_8 rfl ?_
        refine W.icmpY C m3_9 (show (1 : Int) ≤ (1 : Int) from (by decide)) ?_
        refine W.iloadN C m3_48 rfl ?_
        refine W.ireturn C m3_49 (hQ _ _ ?_)
        have e0 : (1 : Int32).toInt = 1 := rfl
        exact ⟨rfl, (1 : Int32), rfl, by omega⟩
    · intro (h31 : ¬ (q.toInt ≤ y3.toInt))
      replace h31 : y3.toInt < q.toInt := by omega
      refine W.iload C m3_34 rfl ?_
      refine W.iconst C m3_36 (z := (1 : Int32)) rfl ?_
      refine W.iadd C m3_37 (z := (2 : Int32)) rfl ?_
      refine W.istoreN C m3_38 (L' := [.val (.ref a), .val (.int q), .val (.int (2 : Int32)), .val (.int (2 : Int32)), .val (.int (1 : Int32))]) rfl ?_
      refine W.goto C m3_39 ?_
      refine W.goto C m3_45 ?_
      refine W.iloadN C m3_7 rfl ?_
      refine W.iloadN C m3_8 rfl ?_
      refine W.icmpY C m3_9 (show (2 : Int) ≤ (2 : Int) from (by decide)) ?_
      refine W.iloadN C m3_48 rfl ?_
      refine W.ireturn C m3_49 (hQ _ _ ?_)
      have e0 : (2 : Int32).toInt = 2 := rfl
      exact ⟨rfl, (2 : Int32), rfl, by omega⟩
  · intro (h31 : ¬ (q.toInt ≤ y5.toInt))
    replace h31 : y5.toInt < q.toInt := by omega
    refine W.iload C m3_34 rfl ?_
    refine W.iconst C m3_36 (z := (1 : Int32)) rfl ?_
    refine W.iadd C m3_37 (z := (3 : Int32)) rfl ?_
    refine W.istoreN C m3_38 (L' := [.val (.ref a), .val (.int q), .val (.int (3 : Int32)), .val (.int (4 : Int32)), .val (.int (2 : Int32))]) rfl ?_
    refine W.goto C m3_39 ?_
    refine W.goto C m3_45 ?_
    refine W.iloadN C m3_7 rfl ?_
    refine W.iloadN C m3_8 rfl ?_
    refine W.icmpN C m3_9 (show ¬ ((4 : Int) ≤ (3 : Int)) from (by decide)) ?_
    refine W.iloadN C m3_12 rfl ?_
    refine W.iloadN C m3_13 rfl ?_
    refine W.iadd C m3_14 (z := (7 : Int32)) rfl ?_
    refine W.iconst C m3_15 (z := (1 : Int32)) rfl ?_
    refine W.iushr C m3_16 (z := (3 : Int32)) rfl ?_
    refine W.istore C m3_17 (L' := [.val (.ref a), .val (.int q), .val (.int (3 : Int32)), .val (.int (4 : Int32)), .val (.int (3 : Int32))]) rfl ?_
    refine W.aloadN C m3_19 rfl rfl ?_
    refine W.getfield C m3_20 (host := "") (Or.inl (hw _ (List.mem_of_getElem? (i := 13) rfl))) Via.refl F0 ?_
    refine W.iconst C m3_23 (z := (2 : Int32)) rfl ?_
    refine W.iload C m3_24 rfl ?_
    refine W.imul C m3_26 (z := (6 : Int32)) rfl ?_
    refine W.iconst C m3_27 (z := (1 : Int32)) rfl ?_
    refine W.iadd C m3_28 (z := (7 : Int32)) rfl ?_
    refine W.iaload C m3_29 A0 (i := 7) rfl rfl ?_
    refine W.iloadN C m3_30 rfl ?_
    refine W.icmp C m3_31 ?_ ?_
    · intro (h31 : q.toInt ≤ y7.toInt)
      refine W.iload C m3_42 rfl ?_
      refine W.istoreN C m3_44 (L' := [.val (.ref a), .val (.int q), .val (.int (3 : Int32)), .val (.int (3 : Int32)), .val (.int (3 : Int32))]) rfl ?_
      refine W.goto C m3_45 ?_
      refine W.iloadN C m3_7 rfl ?_
      refine W.iloadN C m3_8 rfl ?_
      refine W.icmpY C m3_9 (show (3 : Int) ≤ (3 : Int) from (by decide)) ?_
      refine W.iloadN C m3_48 rfl ?_
      refine W.ireturn C m3_49 (hQ _ _ ?_)
      have e0 : (3 : Int32).toInt = 3 := rfl
      exact ⟨rfl, (3 : Int32), rfl, by omega⟩
    · intro (h31 : ¬ (q.toInt ≤ y7.toInt))
      replace h31 : y7.toInt < q.toInt := by omega
      refine W.iload C m3_34 rfl ?_
      refine W.iconst C m3_36 (z := (1 : Int32)) rfl ?_
      refine W.iadd C m3_37 (z := (4 : Int32)) rfl ?_
      refine W.istoreN C m3_38 (L' := [.val (.ref a), .val (.int q), .val (.int (4 : Int32)), .val (.int (4 : Int32)), .val (.int (3 : Int32))]) rfl ?_
      refine W.goto C m3_39 ?_
      refine W.goto C m3_45 ?_
      refine W.iloadN C m3_7 rfl ?_
      refine W.iloadN C m3_8 rfl ?_
      refine W.icmpY C m3_9 (show (4 : Int) ≤ (4 : Int) from (by decide)) ?_
      refine W.iloadN C m3_48 rfl ?_
      refine W.ireturn C m3_49 (hQ _ _ ?_)
      have e0 : (4 : Int32).toInt = 4 := rfl
      exact ⟨rfl, (4 : Int32), rfl, by omega⟩
set_option maxRecDepth 65536 in
set_option maxHeartbeats 4000000 in
theorem own_ix5 (Z : State) (a0 : Array Value) (hw : ∀ d ∈ tables_1, d.before a0 Z = true) (a : Addr) (q : Int32) (e : Addr) (y0 y1 y2 y3 y4 y5 y6 y7 y8 y9 : Int32) (zs : List Int32) (h : Heap) (n0 : Nat) (hs0 : y1.toInt < y3.toInt) (hs1 : y3.toInt < y5.toInt) (hs2 : y5.toInt < y7.toInt) (hs3 : y7.toInt < y9.toInt) (F0 : Fld Z h a "com/example/principal/principal/engine/Row" "entries" "[I" (.ref e)) (F1 : Fld Z h a "com/example/principal/principal/engine/Row" "size" "I" (.int (5 : Int32))) (A0 : Av Z h e .int (([y0, y1, y2, y3, y4, y5, y6, y7, y8, y9] ++ zs).map Value.int)) :
    Con Z mY3 prog_18_method_7_code 5 (some .int) ({ frames := 0, cells := 0, slots := 0, locals := 0 } : Room) [(.ref a), (.int q)] h n0 (fun v h' => h = h' ∧ ∃ r : Int32, v = some (.int r) ∧ 0 ≤ r.toInt ∧ r.toInt ≤ 5 ∧ (y1.toInt < q.toInt ↔ 0 < r.toInt) ∧ (y3.toInt < q.toInt ↔ 1 < r.toInt) ∧ (y5.toInt < q.toInt ↔ 2 < r.toInt) ∧ (y7.toInt < q.toInt ↔ 3 < r.toInt) ∧ (y9.toInt < q.toInt ↔ 4 < r.toInt)) := by
  refine Con.of pl3 (L := [.val (.ref a), .val (.int q), .unset, .unset, .unset]) (fun m => by first | (simp [entryFrame, mkF, argsToLocals, Value.category]; done) | rfl) ?_
  intro κ Qx hQ C
  refine W.iconst C m3_0 (z := (0 : Int32)) rfl ?_
  refine W.istoreN C m3_1 (L' := [.val (.ref a), .val (.int q), .val (.int (0 : Int32)), .unset, .unset]) rfl ?_
  refine W.aloadN C m3_2 rfl rfl ?_
  refine W.getfield C m3_3 (host := "") (Or.inl (hw _ (List.mem_of_getElem? (i := 20) rfl))) Via.refl F1 ?_
  refine W.istoreN C m3_6 (L' := [.val (.ref a), .val (.int q), .val (.int (0 : Int32)), .val (.int (5 : Int32)), .unset]) rfl ?_
  refine W.iloadN C m3_7 rfl ?_
  refine W.iloadN C m3_8 rfl ?_
  refine W.icmpN C m3_9 (show ¬ ((5 : Int) ≤ (0 : Int)) from (by decide)) ?_
  refine W.iloadN C m3_12 rfl ?_
  refine W.iloadN C m3_13 rfl ?_
  refine W.iadd C m3_14 (z := (5 : Int32)) rfl ?_
  refine W.iconst C m3_15 (z := (1 : Int32)) rfl ?_
  refine W.iushr C m3_16 (z := (2 : Int32)) rfl ?_
  refine W.istore C m3_17 (L' := [.val (.ref a), .val (.int q), .val (.int (0 : Int32)), .val (.int (5 : Int32)), .val (.int (2 : Int32))]) rfl ?_
  refine W.aloadN C m3_19 rfl rfl ?_
  refine W.getfield C m3_20 (host := "") (Or.inl (hw _ (List.mem_of_getElem? (i := 13) rfl))) Via.refl F0 ?_
  refine W.iconst C m3_23 (z := (2 : Int32)) rfl ?_
  refine W.iload C m3_24 rfl ?_
  refine W.imul C m3_26 (z := (4 : Int32)) rfl ?_
  refine W.iconst C m3_27 (z := (1 : Int32)) rfl ?_
  refine W.iadd C m3_28 (z := (5 : Int32)) rfl ?_
  refine W.iaload C m3_29 A0 (i := 5) rfl rfl ?_
  refine W.iloadN C m3_30 rfl ?_
  refine W.icmp C m3_31 ?_ ?_
  · intro (h31 : q.toInt ≤ y5.toInt)
    refine W.iload C m3_42 rfl ?_
    refine W.istoreN C m3_44 (L' := [.val (.ref a), .val (.int q), .val (.int (0 : Int32)), .val (.int (2 : Int32)), .val (.int (2 : Int32))]) rfl ?_
    refine W.goto C m3_45 ?_
    refine W.iloadN C m3_7 rfl ?_
    refine W.iloadN C m3_8 rfl ?_
    refine W.icmpN C m3_9 (show ¬ ((2 : Int) ≤ (0 : Int)) from (by decide)) ?_
    refine W.iloadN C m3_12 rfl ?_
    refine W.iloadN C m3_13 rfl ?_
    refine W.iadd C m3_14 (z := (2 : Int32)) rfl ?_
    refine W.iconst C m3_15 (z := (1 : Int32)) rfl ?_
    refine W.iushr C m3_16 (z := (1 : Int32)) rfl ?_
    refine W.istore C m3_17 (L' := [.val (.ref a), .val (.int q), .val (.int (0 : Int32)), .val (.int (2 : Int32)), .val (.int (1 : Int32))]) rfl ?_
    refine W.aloadN C m3_19 rfl rfl ?_
    refine W.getfield C m3_20 (host := "") (Or.inl (hw _ (List.mem_of_getElem? (i := 13) rfl))) Via.refl F0 ?_
    refine W.iconst C m3_23 (z := (2 : Int32)) rfl ?_
    refine W.iload C m3_24 rfl ?_
    refine W.imul C m3_26 (z := (2 : Int32)) rfl ?_
    refine W.iconst C m3_27 (z := (1 : Int32)) rfl ?_
    refine W.iadd C m3_28 (z := (3 : Int32)) rfl ?_
    refine W.iaload C m3_29 A0 (i := 3) rfl rfl ?_
    refine W.iloadN C m3_30 rfl ?_
    refine W.icmp C m3_31 ?_ ?_
    · intro (h31 : q.toInt ≤ y3.toInt)
      refine W.iload C m3_42 rfl ?_
      refine W.istoreN C m3_44 (L' := [.val (.ref a), .val (.int q), .val (.int (0 : Int32)), .val (.int (1 : Int32)), .val (.int (1 : Int32))]) rfl ?_
      refine W.goto C m3_45 ?_
      refine W.iloadN C m3_7 rfl ?_
      refine W.iloadN C m3_8 rfl ?_
      refine W.icmpN C m3_9 (show ¬ ((1 : Int) ≤ (0 : Int)) from (by decide)) ?_
      refine W.iloadN C m3_12 rfl ?_
      refine W.iloadN C m3_13 rfl ?_
      refine W.iadd C m3_14 (z := (1 : Int32)) rfl ?_
      refine W.iconst C m3_15 (z := (1 : Int32)) rfl ?_
      refine W.iushr C m3_16 (z := (0 : Int32)) rfl ?_
      refine W.istore C m3_17 (L' := [.val (.ref a), .val (.int q), .val (.int (0 : Int32)), .val (.int (1 : Int32)), .val (.int (0 : Int32))]) rfl ?_
      refine W.aloadN C m3_19 rfl rfl ?_
      refine W.getfield C m3_20 (host := "") (Or.inl (hw _ (List.mem_of_getElem? (i := 13) rfl))) Via.refl F0 ?_
      refine W.iconst C m3_23 (z := (2 : Int32)) rfl ?_
      refine W.iload C m3_24 rfl ?_
      refine W.imul C m3_26 (z := (0 : Int32)) rfl ?_
      refine W.iconst C m3_27 (z := (1 : Int32)) rfl ?_
      refine W.iadd C m3_28 (z := (1 : Int32)) rfl ?_
      refine W.iaload C m3_29 A0 (i := 1) rfl rfl ?_
      refine W.iloadN C m3_30 rfl ?_
      refine W.icmp C m3_31 ?_ ?_
      · intro (h31 : q.toInt ≤ y1.toInt)
        refine W.iload C m3_42 rfl ?_
        refine W.istoreN C m3_44 (L' := [.val (.ref a), .val (.int q), .val (.int (0 : Int32)), .val (.int (0 : Int32)), .val (.int (0 : Int32))]) rfl ?_
        refine W.goto C m3_45 ?_
        refine W.iloadN C m3_7 rfl ?_
        refine W.iloadN C m3_8 rfl ?_
        refine W.icmpY C m3_9 (show (0 : Int) ≤ (0 : Int) from (by decide)) ?_
        refine W.iloadN C m3_48 rfl ?_
        refine W.ireturn C m3_49 (hQ _ _ ?_)
        have e0 : (0 : Int32).toInt = 0 := rfl
        exact ⟨rfl, (0 : Int32), rfl, by omega⟩
      · intro (h31 : ¬ (q.toInt ≤ y1.toInt))
        replace h31 : y1.toInt < q.toInt := by omega
        refine W.iload C m3_34 rfl ?_
        refine W.iconst C m3_36 (z := (1 : Int32)) rfl ?_
        refine W.iadd C m3_37 (z := (1 : Int32)) rfl ?_
        refine W.istoreN C m3_38 (L' := [.val (.ref a), .val (.int q), .val (.int (1 : Int32)), .val (.int (1 : Int32)), .val (.int (0 : Int32))]) rfl ?_
        refine W.goto C m3_39 ?_
        refine W.goto C m3_45 ?_
        refine W.iloadN C m3_7 rfl ?_
        refine W.iloadN C m3_8 rfl ?_
        refine W.icmpY C m3_9 (show (1 : Int) ≤ (1 : Int) from (by decide)) ?_
        refine W.iloadN C m3_48 rfl ?_
        refine W.ireturn C m3_49 (hQ _ _ ?_)
        have e0 : (1 : Int32).toInt = 1 := rfl
        exact ⟨rfl, (1 : Int32), rfl, by omega⟩
    · intro (h31 : ¬ (q.toInt ≤ y3.toInt))
      replace h31 : y3.toInt < q.toInt := by omega
      refine W.iload C m3_34 rfl ?_
      refine W.iconst C m3_36 (z := (1 : Int32)) rfl ?_
      refine W.iadd C m3_37 (z := (2 : Int32)) rfl ?_
      refine W.istoreN C m3_38 (L' := [.val (.ref a), .val (.int q), .val (.int (2 : Int32)), .val (.int (2 : Int32)), .val (.int (1 : Int32))]) rfl ?_
      refine W.goto C m3_39 ?_
      refine W.goto C m3_45 ?_
      refine W.iloadN C m3_7 rfl ?_
      refine W.iloadN C m3_8 rfl ?_
      refine W.icmpY C m3_9 (show (2 : Int) ≤ (2 : Int) from (by decide)) ?_
      refine W.iloadN C m3_48 rfl ?_
      refine W.ireturn C m3_49 (hQ _ _ ?_)
      have e0 : (2 : Int32).toInt = 2 := rfl
      exact ⟨rfl, (2 : Int32), rfl, by omega⟩
  · intro (h31 : ¬ (q.toInt ≤ y5.toInt))
    replace h31 : y5.toInt < q.toInt := by omega
    refine W.iload C m3_34 rfl ?_
    refine W.iconst C m3_36 (z := (1 : Int32)) rfl ?_
    refine W.iadd C m3_37 (z := (3 : Int32)) rfl ?_
    refine W.istoreN C m3_38 (L' := [.val (.ref a), .val (.int q), .val (.int (3 : Int32)), .val (.int (5 : Int32)), .val (.int (2 : Int32))]) rfl ?_
    refine W.goto C m3_39 ?_
    refine W.goto C m3_45 ?_
    refine W.iloadN C m3_7 rfl ?_
    refine W.iloadN C m3_8 rfl ?_
    refine W.icmpN C m3_9 (show ¬ ((5 : Int) ≤ (3 : Int)) from (by decide)) ?_
    refine W.iloadN C m3_12 rfl ?_
    refine W.iloadN C m3_13 rfl ?_
    refine W.iadd C m3_14 (z := (8 : Int32)) rfl ?_
    refine W.iconst C m3_15 (z := (1 : Int32)) rfl ?_
    refine W.iushr C m3_16 (z := (4 : Int32)) rfl ?_
    refine W.istore C m3_17 (L' := [.val (.ref a), .val (.int q), .val (.int (3 : Int32)), .val (.int (5 : Int32)), .val (.int (4 : Int32))]) rfl ?_
    refine W.aloadN C m3_19 rfl rfl ?_
    refine W.getfield C m3_20 (host := "") (Or.inl (hw _ (List.mem_of_getElem? (i := 13) rfl))) Via.refl F0 ?_
    refine W.iconst C m3_23 (z := (2 : Int32)) rfl ?_
    refine W.iload C m3_24 rfl ?_
    refine W.imul C m3_26 (z := (8 : Int32)) rfl ?_
    refine W.iconst C m3_27 (z := (1 : Int32)) rfl ?_
    refine W.iadd C m3_28 (z := (9 : Int32)) rfl ?_
    refine W.iaload C m3_29 A0 (i := 9) rfl rfl ?_
    refine W.iloadN C m3_30 rfl ?_
    refine W.icmp C m3_31 ?_ ?_
    · intro (h31 : q.toInt ≤ y9.toInt)
      refine W.iload C m3_42 rfl ?_
      refine W.istoreN C m3_44 (L' := [.val (.ref a), .val (.int q), .val (.int (3 : Int32)), .val (.int (4 : Int32)), .val (.int (4 : Int32))]) rfl ?_
      refine W.goto C m3_45 ?_
      refine W.iloadN C m3_7 rfl ?_
      refine W.iloadN C m3_8 rfl ?_
      refine W.icmpN C m3_9 (show ¬ ((4 : Int) ≤ (3 : Int)) from (by decide)) ?_
      refine W.iloadN C m3_12 rfl ?_
      refine W.iloadN C m3_13 rfl ?_
      refine W.iadd C m3_14 (z := (7 : Int32)) rfl ?_
      refine W.iconst C m3_15 (z := (1 : Int32)) rfl ?_
      refine W.iushr C m3_16 (z := (3 : Int32)) rfl ?_
      refine W.istore C m3_17 (L' := [.val (.ref a), .val (.int q), .val (.int (3 : Int32)), .val (.int (4 : Int32)), .val (.int (3 : Int32))]) rfl ?_
      refine W.aloadN C m3_19 rfl rfl ?_
      refine W.getfield C m3_20 (host := "") (Or.inl (hw _ (List.mem_of_getElem? (i := 13) rfl))) Via.refl F0 ?_
      refine W.iconst C m3_23 (z := (2 : Int32)) rfl ?_
      refine W.iload C m3_24 rfl ?_
      refine W.imul C m3_26 (z := (6 : Int32)) rfl ?_
      refine W.iconst C m3_27 (z := (1 : Int32)) rfl ?_
      refine W.iadd C m3_28 (z := (7 : Int32)) rfl ?_
      refine W.iaload C m3_29 A0 (i := 7) rfl rfl ?_
      refine W.iloadN C m3_30 rfl ?_
      refine W.icmp C m3_31 ?_ ?_
      · intro (h31 : q.toInt ≤ y7.toInt)
        refine W.iload C m3_42 rfl ?_
        refine W.istoreN C m3_44 (L' := [.val (.ref a), .val (.int q), .val (.int (3 : Int32)), .val (.int (3 : Int32)), .val (.int (3 : Int32))]) rfl ?_
        refine W.goto C m3_45 ?_
        refine W.iloadN C m3_7 rfl ?_
        refine W.iloadN C m3_8 rfl ?_
        refine W.icmpY C m3_9 (show (3 : Int) ≤ (3 : Int) from (by decide)) ?_
        refine W.iloadN C m3_48 rfl ?_
        refine W.ireturn C m3_49 (hQ _ _ ?_)
        have e0 : (3 : Int32).toInt = 3 := rfl
        exact ⟨rfl, (3 : Int32), rfl, by omega⟩
      · intro (h31 : ¬ (q.toInt ≤ y7.toInt))
        replace h31 : y7.toInt < q.toInt := by omega
        refine W.iload C m3_34 rfl ?_
        refine W.iconst C m3_36 (z := (1 : Int32)) rfl ?_
        refine W.iadd C m3_37 (z := (4 : Int32)) rfl ?_
        refine W.istoreN C m3_38 (L' := [.val (.ref a), .val (.int q), .val (.int (4 : Int32)), .val (.int (4 : Int32)), .val (.int (3 : Int32))]) rfl ?_
        refine W.goto C m3_39 ?_
        refine W.goto C m3_45 ?_
        refine W.iloadN C m3_7 rfl ?_
        refine W.iloadN C m3_8 rfl ?_
        refine W.icmpY C m3_9 (show (4 : Int) ≤ (4 : Int) from (by decide)) ?_
        refine W.iloadN C m3_48 rfl ?_
        refine W.ireturn C m3_49 (hQ _ _ ?_)
        have e0 : (4 : Int32).toInt = 4 := rfl
        exact ⟨rfl, (4 : Int32), rfl, by omega⟩
    · intro (h31 : ¬ (q.toInt ≤ y9.toInt))
      replace h31 : y9.toInt < q.toInt := by omega
      refine W.iload C m3_34 rfl ?_
      refine W.iconst C m3_36 (z := (1 : Int32)) rfl ?_
      refine W.iadd C m3_37 (z := (5 : Int32)) rfl ?_
      refine W.istoreN C m3_38 (L' := [.val (.ref a), .val (.int q), .val (.int (5 : Int32)), .val (.int (5 : Int32)), .val (.int (4 : Int32))]) rfl ?_
      refine W.goto C m3_39 ?_
      refine W.goto C m3_45 ?_
      refine W.iloadN C m3_7 rfl ?_
      refine W.iloadN C m3_8 rfl ?_
      refine W.icmpY C m3_9 (show (5 : Int) ≤ (5 : Int) from (by decide)) ?_
      refine W.iloadN C m3_48 rfl ?_
      refine W.ireturn C m3_49 (hQ _ _ ?_)
      have e0 : (5 : Int32).toInt = 5 := rfl
      exact ⟨rfl, (5 : Int32), rfl, by omega⟩
theorem own_n6 {x v : Int32} (h : (x &&& (2147483647 : Int32)) % (6 : Int32) = v) : 0 ≤ v.toInt ∧ v.toInt ≤ 5 := by
  subst h
  have t1 := rng32 x
  have t2 : (2147483647 : Int32).toInt = 2147483647 := rfl
  have t3 := c_mask x (2147483647 : Int32) 31 (by decide) (by decide)
  have t4 : (6 : Int32).toInt = 6 := rfl
  have t5 := c_irem (x &&& (2147483647 : Int32)) (6 : Int32) 6 rfl
  have t6 := rng32 ((x &&& (2147483647 : Int32)) % (6 : Int32))
  omega
theorem own_g0 {g v : Int64} (h : ((g &&& (4095 : Int64)) + (1 : Int64)) = v) : 1 ≤ v.toInt ∧ v.toInt ≤ 4096 := by
  subst h
  have e1 := c_maskL (g) (4095 : Int64) 12 (by decide) (by decide)
  have e2 := c_ladd ((g) &&& (4095 : Int64)) (1 : Int64)
  have e3 := rng64 (((g) &&& (4095 : Int64)) + (1 : Int64))
  have e4 : (1 : Int64).toInt = 1 := rfl
  omega
theorem own_g12 {g v : Int64} (h : (((g.toUInt64 >>> ((12 : Int32) &&& 0x3f).toInt64.toUInt64).toInt64 &&& (4095 : Int64)) + (1 : Int64)) = v) : 1 ≤ v.toInt ∧ v.toInt ≤ 4096 := by
  subst h
  have e1 := c_maskL ((g.toUInt64 >>> ((12 : Int32) &&& 0x3f).toInt64.toUInt64).toInt64) (4095 : Int64) 12 (by decide) (by decide)
  have e2 := c_ladd (((g.toUInt64 >>> ((12 : Int32) &&& 0x3f).toInt64.toUInt64).toInt64) &&& (4095 : Int64)) (1 : Int64)
  have e3 := rng64 ((((g.toUInt64 >>> ((12 : Int32) &&& 0x3f).toInt64.toUInt64).toInt64) &&& (4095 : Int64)) + (1 : Int64))
  have e4 : (1 : Int64).toInt = 1 := rfl
  omega
theorem own_g24 {g v : Int64} (h : (((g.toUInt64 >>> ((24 : Int32) &&& 0x3f).toInt64.toUInt64).toInt64 &&& (4095 : Int64)) + (1 : Int64)) = v) : 1 ≤ v.toInt ∧ v.toInt ≤ 4096 := by
  subst h
  have e1 := c_maskL ((g.toUInt64 >>> ((24 : Int32) &&& 0x3f).toInt64.toUInt64).toInt64) (4095 : Int64) 12 (by decide) (by decide)
  have e2 := c_ladd (((g.toUInt64 >>> ((24 : Int32) &&& 0x3f).toInt64.toUInt64).toInt64) &&& (4095 : Int64)) (1 : Int64)
  have e3 := rng64 ((((g.toUInt64 >>> ((24 : Int32) &&& 0x3f).toInt64.toUInt64).toInt64) &&& (4095 : Int64)) + (1 : Int64))
  have e4 : (1 : Int64).toInt = 1 := rfl
  omega
theorem own_g36 {g v : Int64} (h : (((g.toUInt64 >>> ((36 : Int32) &&& 0x3f).toInt64.toUInt64).toInt64 &&& (4095 : Int64)) + (1 : Int64)) = v) : 1 ≤ v.toInt ∧ v.toInt ≤ 4096 := by
  subst h
  have e1 := c_maskL ((g.toUInt64 >>> ((36 : Int32) &&& 0x3f).toInt64.toUInt64).toInt64) (4095 : Int64) 12 (by decide) (by decide)
  have e2 := c_ladd (((g.toUInt64 >>> ((36 : Int32) &&& 0x3f).toInt64.toUInt64).toInt64) &&& (4095 : Int64)) (1 : Int64)
  have e3 := rng64 ((((g.toUInt64 >>> ((36 : Int32) &&& 0x3f).toInt64.toUInt64).toInt64) &&& (4095 : Int64)) + (1 : Int64))
  have e4 : (1 : Int64).toInt = 1 := rfl
  omega
theorem own_sm {x y : Int64} (hx : -4611686018427387904 ≤ x.toInt ∧ x.toInt ≤ 4611686018427387903) (hy : -4611686018427387904 ≤ y.toInt ∧ y.toInt ≤ 4611686018427387903) : (x + y).toInt = x.toInt + y.toInt := by
  have e := c_ladd x y
  have r := rng64 (x + y)
  omega
theorem own_ti {x : Int64} (h : -2147483648 ≤ x.toInt ∧ x.toInt ≤ 2147483647) : x.toInt32.toInt = x.toInt := by
  have e := c_l2i x
  have r := rng32 x.toInt32
  omega
theorem own_tot {g1 g2 g3 g4 t : Int64} (h1 : 1 ≤ g1.toInt ∧ g1.toInt ≤ 4096) (h2 : 1 ≤ g2.toInt ∧ g2.toInt ≤ 4096) (h3 : 1 ≤ g3.toInt ∧ g3.toInt ≤ 4096) (h4 : 1 ≤ g4.toInt ∧ g4.toInt ≤ 4096) (h : (((g1 + g2) + g3) + g4) = t) : t.toInt = g1.toInt + g2.toInt + g3.toInt + g4.toInt := by
  subst h
  have a1 := own_sm (x := g1) (y := g2) (by omega) (by omega)
  have a2 := own_sm (x := g1 + g2) (y := g3) (by omega) (by omega)
  have a3 := own_sm (x := g1 + g2 + g3) (y := g4) (by omega) (by omega)
  omega
theorem own_bse {b t : Int64} {p : Int32} (hb : b.toInt = p.toInt) (ht : 4 ≤ t.toInt ∧ t.toInt ≤ 16384) : ((b + t).toInt ≤ 2147483647 → -2147483648 ≤ b.toInt ∧ b.toInt + t.toInt ≤ 2147483647) ∧ (-2147483648 ≤ ((2147483647 : Int64) - t).toInt ∧ ((2147483647 : Int64) - t).toInt + t.toInt ≤ 2147483647) := by
  have r := rng32 p
  have a1 := own_sm (x := b) (y := t) (by omega) (by omega)
  have e : (2147483647 : Int64).toInt = 2147483647 := rfl
  have a2 := c_lsub (2147483647 : Int64) t
  have r2 := rng64 ((2147483647 : Int64) - t)
  rw [e] at a2
  constructor
  · intro q; omega
  · omega
theorem own_s0 {b : Int64} {s : Int32} {T : Int} (hT : 4 ≤ T) (hb : -2147483648 ≤ b.toInt ∧ b.toInt + T ≤ 2147483647) (h : b.toInt32 = s) : s.toInt = b.toInt := by
  subst h; exact own_ti (by omega)
theorem own_s1 {b g1 : Int64} {s : Int32} {T : Int} (h1 : 1 ≤ g1.toInt ∧ g1.toInt ≤ T) (hT : T ≤ 16384) (hb : -2147483648 ≤ b.toInt ∧ b.toInt + T ≤ 2147483647) (h : (b + g1).toInt32 = s) : s.toInt = b.toInt + g1.toInt := by
  have a1 := own_sm (x := b) (y := g1) (by omega) (by omega)
  subst h; rw [← a1]; exact own_ti (by omega)
theorem own_s2 {b g1 g2 : Int64} {s : Int32} {T : Int} (h1 : 1 ≤ g1.toInt) (h2 : 1 ≤ g2.toInt) (hq : g1.toInt + g2.toInt ≤ T) (hT : T ≤ 16384) (hb : -2147483648 ≤ b.toInt ∧ b.toInt + T ≤ 2147483647) (h : ((b + g1) + g2).toInt32 = s) : s.toInt = b.toInt + g1.toInt + g2.toInt := by
  have a1 := own_sm (x := b) (y := g1) (by omega) (by omega)
  have a2 := own_sm (x := b + g1) (y := g2) (by omega) (by omega)
  subst h; rw [← a1, ← a2]; exact own_ti (by omega)
theorem own_s3 {b g1 g2 g3 : Int64} {s : Int32} {T : Int} (h1 : 1 ≤ g1.toInt) (h2 : 1 ≤ g2.toInt) (h3 : 1 ≤ g3.toInt) (hq : g1.toInt + g2.toInt + g3.toInt ≤ T) (hT : T ≤ 16384) (hb : -2147483648 ≤ b.toInt ∧ b.toInt + T ≤ 2147483647) (h : (((b + g1) + g2) + g3).toInt32 = s) : s.toInt = b.toInt + g1.toInt + g2.toInt + g3.toInt := by
  have a1 := own_sm (x := b) (y := g1) (by omega) (by omega)
  have a2 := own_sm (x := b + g1) (y := g2) (by omega) (by omega)
  have a3 := own_sm (x := b + g1 + g2) (y := g3) (by omega) (by omega)
  subst h; rw [← a1, ← a2, ← a3]; exact own_ti (by omega)
theorem own_cn {s q c e i r : Int} (i' : Int) (hi' : i + 1 = i') (h : (s < q ∧ c = e + 1) ∨ (q ≤ s ∧ c = e)) (hi : s < q ↔ i < r) (he : e = min i r) : c = min i' r := by omega
theorem own_m0 {r : Int} (h : 0 ≤ r) : (0 : Int) = min 0 r := by omega
theorem own_mk {c k r : Int} (h : c = min k r) (hk : r ≤ k) : r = c := by omega
theorem own_st {e : Int32} {i : Int} (i' : Int) (hi : i + 1 = i') (hb : i ≤ 100) (h : 0 ≤ e.toInt ∧ e.toInt ≤ i) : (e + (1 : Int32)).toInt = e.toInt + 1 ∧ 0 ≤ (e + (1 : Int32)).toInt ∧ (e + (1 : Int32)).toInt ≤ i' := by
  have e1 := c_iadd e (1 : Int32)
  have e2 := rng32 (e + (1 : Int32))
  have e3 : (1 : Int32).toInt = 1 := rfl
  omega
theorem own_b {e i : Int} (i' : Int) (hi : i + 1 = i') (h : 0 ≤ e ∧ e ≤ i) : 0 ≤ e ∧ e ≤ i' := by omega
abbrev mY0 : MethodName := x
theorem m0_0 : Ins1 code 0 (.iload_n 0) 1 1 := ⟨at_0, rfl⟩
theorem m0_1 : Ins1 code 1 (.ldc 7) 2 3 := ⟨at_1, rfl⟩
theorem m0_3 : Ins1 code 3 (.iand) 1 4 := ⟨at_3, rfl⟩
theorem m0_4 : Ins1 code 4 (.bipush 6) 2 6 := ⟨at_4, rfl⟩
theorem m0_6 : Ins1 code 6 (.irem) 1 7 := ⟨at_6, rfl⟩
theorem m0_7 : Ins1 code 7 (.istore 7) 2 9 := ⟨at_7, rfl⟩
theorem m0_9 : Ins1 code 9 (.lload_n 2) 1 10 := ⟨at_9, rfl⟩
theorem m0_10 : Ins1 code 10 (.ldc2_w 8) 3 13 := ⟨at_10, rfl⟩
theorem m0_13 : Ins1 code 13 (.land) 1 14 := ⟨at_13, rfl⟩
theorem m0_14 : Ins1 code 14 (.lconst 1) 1 15 := ⟨at_14, rfl⟩
theorem m0_15 : Ins1 code 15 (.ladd) 1 16 := ⟨at_15, rfl⟩
theorem m0_16 : Ins1 code 16 (.lstore 8) 2 18 := ⟨at_16, rfl⟩
theorem m0_18 : Ins1 code 18 (.lload_n 2) 1 19 := ⟨at_18, rfl⟩
theorem m0_19 : Ins1 code 19 (.bipush 12) 2 21 := ⟨at_19, rfl⟩
theorem m0_21 : Ins1 code 21 (.lushr) 1 22 := ⟨at_21, rfl⟩
theorem m0_22 : Ins1 code 22 (.ldc2_w 8) 3 25 := ⟨at_22, rfl⟩
theorem m0_25 : Ins1 code 25 (.land) 1 26 := ⟨at_25, rfl⟩
theorem m0_26 : Ins1 code 26 (.lconst 1) 1 27 := ⟨at_26, rfl⟩
theorem m0_27 : Ins1 code 27 (.ladd) 1 28 := ⟨at_27, rfl⟩
theorem m0_28 : Ins1 code 28 (.lstore 10) 2 30 := ⟨at_28, rfl⟩
theorem m0_30 : Ins1 code 30 (.lload_n 2) 1 31 := ⟨at_30, rfl⟩
theorem m0_31 : Ins1 code 31 (.bipush 24) 2 33 := ⟨at_31, rfl⟩
theorem m0_33 : Ins1 code 33 (.lushr) 1 34 := ⟨at_33, rfl⟩
theorem m0_34 : Ins1 code 34 (.ldc2_w 8) 3 37 := ⟨at_34, rfl⟩
theorem m0_37 : Ins1 code 37 (.land) 1 38 := ⟨at_37, rfl⟩
theorem m0_38 : Ins1 code 38 (.lconst 1) 1 39 := ⟨at_38, rfl⟩
theorem m0_39 : Ins1 code 39 (.ladd) 1 40 := ⟨at_39, rfl⟩
theorem m0_40 : Ins1 code 40 (.lstore 12) 2 42 := ⟨at_40, rfl⟩
theorem m0_42 : Ins1 code 42 (.lload_n 2) 1 43 := ⟨at_42, rfl⟩
theorem m0_43 : Ins1 code 43 (.bipush 36) 2 45 := ⟨at_43, rfl⟩
theorem m0_45 : Ins1 code 45 (.lushr) 1 46 := ⟨at_45, rfl⟩
theorem m0_46 : Ins1 code 46 (.ldc2_w 8) 3 49 := ⟨at_46, rfl⟩
theorem m0_49 : Ins1 code 49 (.land) 1 50 := ⟨at_49, rfl⟩
theorem m0_50 : Ins1 code 50 (.lconst 1) 1 51 := ⟨at_50, rfl⟩
theorem m0_51 : Ins1 code 51 (.ladd) 1 52 := ⟨at_51, rfl⟩
theorem m0_52 : Ins1 code 52 (.lstore 14) 2 54 := ⟨at_52, rfl⟩
theorem m0_54 : Ins1 code 54 (.lload 8) 2 56 := ⟨at_54, rfl⟩
theorem m0_56 : Ins1 code 56 (.lload 10) 2 58 := ⟨at_56, rfl⟩
theorem m0_58 : Ins1 code 58 (.ladd) 1 59 := ⟨at_58, rfl⟩
theorem m0_59 : Ins1 code 59 (.lload 12) 2 61 := ⟨at_59, rfl⟩
theorem m0_61 : Ins1 code 61 (.ladd) 1 62 := ⟨at_61, rfl⟩
theorem m0_62 : Ins1 code 62 (.lload 14) 2 64 := ⟨at_62, rfl⟩
theorem m0_64 : Ins1 code 64 (.ladd) 1 65 := ⟨at_64, rfl⟩
theorem m0_65 : Ins1 code 65 (.lstore 16) 2 67 := ⟨at_65, rfl⟩
theorem m0_67 : Ins1 code 67 (.iload_n 1) 1 68 := ⟨at_67, rfl⟩
theorem m0_68 : Ins1 code 68 (.i2l) 1 69 := ⟨at_68, rfl⟩
theorem m0_69 : Ins1 code 69 (.lstore 18) 2 71 := ⟨at_69, rfl⟩
theorem m0_71 : Ins1 code 71 (.lload 18) 2 73 := ⟨at_71, rfl⟩
theorem m0_73 : Ins1 code 73 (.lload 16) 2 75 := ⟨at_73, rfl⟩
theorem m0_75 : Ins1 code 75 (.ladd) 1 76 := ⟨at_75, rfl⟩
theorem m0_76 : Ins1 code 76 (.ldc2_w 12) 3 79 := ⟨at_76, rfl⟩
theorem m0_79 : Ins1 code 79 (.lcmp) 1 80 := ⟨at_79, rfl⟩
theorem m0_80 : Jmp1 code 80 (.ifCond .le 11) 11 83 91 := ⟨at_80, rfl, by decide, by decide⟩
theorem m0_83 : Ins1 code 83 (.ldc2_w 12) 3 86 := ⟨at_83, rfl⟩
theorem m0_86 : Ins1 code 86 (.lload 16) 2 88 := ⟨at_86, rfl⟩
theorem m0_88 : Ins1 code 88 (.lsub) 1 89 := ⟨at_88, rfl⟩
theorem m0_89 : Ins1 code 89 (.lstore 18) 2 91 := ⟨at_89, rfl⟩
theorem m0_91 : Ins1 code 91 (.lload 18) 2 93 := ⟨at_91, rfl⟩
theorem m0_93 : Ins1 code 93 (.l2i) 1 94 := ⟨at_93, rfl⟩
theorem m0_94 : Ins1 code 94 (.istore 20) 2 96 := ⟨at_94, rfl⟩
theorem m0_96 : Ins1 code 96 (.lload 18) 2 98 := ⟨at_96, rfl⟩
theorem m0_98 : Ins1 code 98 (.lload 8) 2 100 := ⟨at_98, rfl⟩
theorem m0_100 : Ins1 code 100 (.ladd) 1 101 := ⟨at_100, rfl⟩
theorem m0_101 : Ins1 code 101 (.l2i) 1 102 := ⟨at_101, rfl⟩
theorem m0_102 : Ins1 code 102 (.istore 21) 2 104 := ⟨at_102, rfl⟩
theorem m0_104 : Ins1 code 104 (.lload 18) 2 106 := ⟨at_104, rfl⟩
theorem m0_106 : Ins1 code 106 (.lload 8) 2 108 := ⟨at_106, rfl⟩
theorem m0_108 : Ins1 code 108 (.ladd) 1 109 := ⟨at_108, rfl⟩
theorem m0_109 : Ins1 code 109 (.lload 10) 2 111 := ⟨at_109, rfl⟩
theorem m0_111 : Ins1 code 111 (.ladd) 1 112 := ⟨at_111, rfl⟩
theorem m0_112 : Ins1 code 112 (.l2i) 1 113 := ⟨at_112, rfl⟩
theorem m0_113 : Ins1 code 113 (.istore 22) 2 115 := ⟨at_113, rfl⟩
theorem m0_115 : Ins1 code 115 (.lload 18) 2 117 := ⟨at_115, rfl⟩
theorem m0_117 : Ins1 code 117 (.lload 8) 2 119 := ⟨at_117, rfl⟩
theorem m0_119 : Ins1 code 119 (.ladd) 1 120 := ⟨at_119, rfl⟩
theorem m0_120 : Ins1 code 120 (.lload 10) 2 122 := ⟨at_120, rfl⟩
theorem m0_122 : Ins1 code 122 (.ladd) 1 123 := ⟨at_122, rfl⟩
theorem m0_123 : Ins1 code 123 (.lload 12) 2 125 := ⟨at_123, rfl⟩
theorem m0_125 : Ins1 code 125 (.ladd) 1 126 := ⟨at_125, rfl⟩
theorem m0_126 : Ins1 code 126 (.l2i) 1 127 := ⟨at_126, rfl⟩
theorem m0_127 : Ins1 code 127 (.istore 23) 2 129 := ⟨at_127, rfl⟩
theorem m0_129 : Ins1 code 129 (.lload 18) 2 131 := ⟨at_129, rfl⟩
theorem m0_131 : Ins1 code 131 (.lload 16) 2 133 := ⟨at_131, rfl⟩
theorem m0_133 : Ins1 code 133 (.ladd) 1 134 := ⟨at_133, rfl⟩
theorem m0_134 : Ins1 code 134 (.l2i) 1 135 := ⟨at_134, rfl⟩
theorem m0_135 : Ins1 code 135 (.istore 24) 2 137 := ⟨at_135, rfl⟩
theorem m0_137 : Ins1 code 137 (.new 14) 3 140 := ⟨at_137, rfl⟩
theorem m0_140 : Ins1 code 140 (.dup) 1 141 := ⟨at_140, rfl⟩
theorem m0_141 : Ins1 code 141 (.invokespecial 16) 3 144 := ⟨at_141, rfl⟩
theorem m0_144 : Ins1 code 144 (.astore 25) 2 146 := ⟨at_144, rfl⟩
theorem m0_146 : Ins1 code 146 (.iload 7) 2 148 := ⟨at_146, rfl⟩
theorem pl0 : plainFor mY0 = true := plainFor_of_name (show plainName "com/example/principal/principal/engine/RowIndexOfStampPinLaw" = true by first | (simp [plainName, overriddenIn]; done) | decide +kernel)
theorem pd0 : parseMethodDescriptor "(IIJIII)Z" = some ⟨[.int, .int, .long, .int, .int, .int], some .boolean⟩ := by decide +kernel

theorem m0_148 : Jmp1 code 148 (.ifCond .le 12) 12 151 160 := ⟨at_148, rfl, by decide, by decide⟩
theorem m0_151 : Ins1 code 151 (.aload 25) 2 153 := ⟨at_151, rfl⟩
theorem m0_153 : Ins1 code 153 (.iload 6) 2 155 := ⟨at_153, rfl⟩
theorem m0_155 : Ins1 code 155 (.iload 20) 2 157 := ⟨at_155, rfl⟩
theorem m0_157 : Ins1 code 157 (.invokevirtual 17) 3 160 := ⟨at_157, rfl⟩
theorem m0_160 : Ins1 code 160 (.iload 7) 2 162 := ⟨at_160, rfl⟩
theorem m0_162 : Ins1 code 162 (.iconst 1) 1 163 := ⟨at_162, rfl⟩
theorem m0_163 : Jmp1 code 163 (.if_icmp .le 16) 16 166 179 := ⟨at_163, rfl, by decide, by decide⟩
theorem m0_166 : Ins1 code 166 (.aload 25) 2 168 := ⟨at_166, rfl⟩
theorem m0_168 : Ins1 code 168 (.iload 6) 2 170 := ⟨at_168, rfl⟩
theorem m0_170 : Ins1 code 170 (.sipush 7919) 3 173 := ⟨at_170, rfl⟩
theorem m0_173 : Ins1 code 173 (.iadd) 1 174 := ⟨at_173, rfl⟩
theorem m0_174 : Ins1 code 174 (.iload 21) 2 176 := ⟨at_174, rfl⟩
theorem m0_176 : Ins1 code 176 (.invokevirtual 17) 3 179 := ⟨at_176, rfl⟩
theorem m0_179 : Ins1 code 179 (.iload 7) 2 181 := ⟨at_179, rfl⟩
theorem m0_181 : Ins1 code 181 (.iconst 2) 1 182 := ⟨at_181, rfl⟩
theorem m0_182 : Jmp1 code 182 (.if_icmp .le 16) 16 185 198 := ⟨at_182, rfl, by decide, by decide⟩
theorem m0_185 : Ins1 code 185 (.aload 25) 2 187 := ⟨at_185, rfl⟩
theorem m0_187 : Ins1 code 187 (.iload 6) 2 189 := ⟨at_187, rfl⟩
theorem m0_189 : Ins1 code 189 (.sipush 15838) 3 192 := ⟨at_189, rfl⟩
theorem m0_192 : Ins1 code 192 (.iadd) 1 193 := ⟨at_192, rfl⟩
theorem m0_193 : Ins1 code 193 (.iload 22) 2 195 := ⟨at_193, rfl⟩
theorem m0_195 : Ins1 code 195 (.invokevirtual 17) 3 198 := ⟨at_195, rfl⟩
theorem m0_198 : Ins1 code 198 (.iload 7) 2 200 := ⟨at_198, rfl⟩
theorem m0_200 : Ins1 code 200 (.iconst 3) 1 201 := ⟨at_200, rfl⟩
theorem m0_201 : Jmp1 code 201 (.if_icmp .le 16) 16 204 217 := ⟨at_201, rfl, by decide, by decide⟩
theorem m0_204 : Ins1 code 204 (.aload 25) 2 206 := ⟨at_204, rfl⟩
theorem m0_206 : Ins1 code 206 (.iload 6) 2 208 := ⟨at_206, rfl⟩
theorem m0_208 : Ins1 code 208 (.sipush 23757) 3 211 := ⟨at_208, rfl⟩
theorem m0_211 : Ins1 code 211 (.iadd) 1 212 := ⟨at_211, rfl⟩
theorem m0_212 : Ins1 code 212 (.iload 23) 2 214 := ⟨at_212, rfl⟩
theorem m0_214 : Ins1 code 214 (.invokevirtual 17) 3 217 := ⟨at_214, rfl⟩
theorem m0_217 : Ins1 code 217 (.iload 7) 2 219 := ⟨at_217, rfl⟩
theorem m0_219 : Ins1 code 219 (.iconst 4) 1 220 := ⟨at_219, rfl⟩
theorem m0_220 : Jmp1 code 220 (.if_icmp .le 16) 16 223 236 := ⟨at_220, rfl, by decide, by decide⟩
theorem m0_223 : Ins1 code 223 (.aload 25) 2 225 := ⟨at_223, rfl⟩
theorem m0_225 : Ins1 code 225 (.iload 6) 2 227 := ⟨at_225, rfl⟩
theorem m0_227 : Ins1 code 227 (.sipush 31676) 3 230 := ⟨at_227, rfl⟩
theorem m0_230 : Ins1 code 230 (.iadd) 1 231 := ⟨at_230, rfl⟩
theorem m0_231 : Ins1 code 231 (.iload 24) 2 233 := ⟨at_231, rfl⟩
theorem m0_233 : Ins1 code 233 (.invokevirtual 17) 3 236 := ⟨at_233, rfl⟩
theorem m0_236 : Ins1 code 236 (.iload 5) 2 238 := ⟨at_236, rfl⟩
theorem m0_238 : Ins1 code 238 (.istore 26) 2 240 := ⟨at_238, rfl⟩
theorem m0_240 : Ins1 code 240 (.iload 4) 2 242 := ⟨at_240, rfl⟩
theorem m0_242 : Ins1 code 242 (.iconst 1) 1 243 := ⟨at_242, rfl⟩
theorem m0_243 : Ins1 code 243 (.iand) 1 244 := ⟨at_243, rfl⟩
theorem m0_244 : Jmp1 code 244 (.ifCond .ne 110) 110 247 354 := ⟨at_244, rfl, by decide, by decide⟩
theorem m0_247 : Ins1 code 247 (.iload 7) 2 249 := ⟨at_247, rfl⟩
theorem m0_249 : Jmp1 code 249 (.ifCond .le 105) 105 252 354 := ⟨at_249, rfl, by decide, by decide⟩
theorem m0_252 : Ins1 code 252 (.iload 4) 2 254 := ⟨at_252, rfl⟩
theorem m0_254 : Ins1 code 254 (.iconst 1) 1 255 := ⟨at_254, rfl⟩
theorem m0_255 : Ins1 code 255 (.iushr) 1 256 := ⟨at_255, rfl⟩
theorem m0_256 : Ins1 code 256 (.ldc 21) 2 258 := ⟨at_256, rfl⟩
theorem m0_258 : Ins1 code 258 (.iand) 1 259 := ⟨at_258, rfl⟩
theorem m0_259 : Ins1 code 259 (.iload 7) 2 261 := ⟨at_259, rfl⟩
theorem m0_261 : Ins1 code 261 (.irem) 1 262 := ⟨at_261, rfl⟩
theorem m0_262 : Ins1 code 262 (.istore 27) 2 264 := ⟨at_262, rfl⟩
theorem m0_264 : Ins1 code 264 (.iload 27) 2 266 := ⟨at_264, rfl⟩
theorem m0_266 : Jmp1 code 266 (.ifCond .ne 9) 9 269 275 := ⟨at_266, rfl, by decide, by decide⟩
theorem m0_269 : Ins1 code 269 (.iload 20) 2 271 := ⟨at_269, rfl⟩
theorem m0_271 : Ins1 code 271 (.i2l) 1 272 := ⟨at_271, rfl⟩
theorem m0_272 : Jmp1 code 272 (.goto 42) 42 275 314 := ⟨at_272, rfl, by decide, by decide⟩
theorem m0_275 : Ins1 code 275 (.iload 27) 2 277 := ⟨at_275, rfl⟩
theorem m0_277 : Ins1 code 277 (.iconst 1) 1 278 := ⟨at_277, rfl⟩
theorem m0_278 : Jmp1 code 278 (.if_icmp .ne 9) 9 281 287 := ⟨at_278, rfl, by decide, by decide⟩
theorem m0_281 : Ins1 code 281 (.iload 21) 2 283 := ⟨at_281, rfl⟩
theorem m0_283 : Ins1 code 283 (.i2l) 1 284 := ⟨at_283, rfl⟩
theorem m0_284 : Jmp1 code 284 (.goto 30) 30 287 314 := ⟨at_284, rfl, by decide, by decide⟩
theorem m0_287 : Ins1 code 287 (.iload 27) 2 289 := ⟨at_287, rfl⟩
theorem m0_289 : Ins1 code 289 (.iconst 2) 1 290 := ⟨at_289, rfl⟩
theorem m0_290 : Jmp1 code 290 (.if_icmp .ne 9) 9 293 299 := ⟨at_290, rfl, by decide, by decide⟩
theorem m0_293 : Ins1 code 293 (.iload 22) 2 295 := ⟨at_293, rfl⟩
theorem m0_295 : Ins1 code 295 (.i2l) 1 296 := ⟨at_295, rfl⟩
theorem m0_296 : Jmp1 code 296 (.goto 18) 18 299 314 := ⟨at_296, rfl, by decide, by decide⟩
theorem m0_299 : Ins1 code 299 (.iload 27) 2 301 := ⟨at_299, rfl⟩
theorem m0_301 : Ins1 code 301 (.iconst 3) 1 302 := ⟨at_301, rfl⟩
theorem m0_302 : Jmp1 code 302 (.if_icmp .ne 9) 9 305 311 := ⟨at_302, rfl, by decide, by decide⟩
theorem m0_305 : Ins1 code 305 (.iload 23) 2 307 := ⟨at_305, rfl⟩
theorem m0_307 : Ins1 code 307 (.i2l) 1 308 := ⟨at_307, rfl⟩
theorem m0_308 : Jmp1 code 308 (.goto 6) 6 311 314 := ⟨at_308, rfl, by decide, by decide⟩
theorem m0_311 : Ins1 code 311 (.iload 24) 2 313 := ⟨at_311, rfl⟩
theorem m0_313 : Ins1 code 313 (.i2l) 1 314 := ⟨at_313, rfl⟩
theorem m0_314 : Ins1 code 314 (.lstore 28) 2 316 := ⟨at_314, rfl⟩
theorem m0_316 : Ins1 code 316 (.lload 28) 2 318 := ⟨at_316, rfl⟩
theorem m0_318 : Ins1 code 318 (.iload 4) 2 320 := ⟨at_318, rfl⟩
theorem m0_320 : Ins1 code 320 (.bipush 17) 2 322 := ⟨at_320, rfl⟩
theorem m0_322 : Ins1 code 322 (.iushr) 1 323 := ⟨at_322, rfl⟩
theorem m0_323 : Ins1 code 323 (.iconst 3) 1 324 := ⟨at_323, rfl⟩
theorem m0_324 : Ins1 code 324 (.iand) 1 325 := ⟨at_324, rfl⟩
theorem m0_325 : Ins1 code 325 (.iconst 1) 1 326 := ⟨at_325, rfl⟩
theorem m0_326 : Ins1 code 326 (.isub) 1 327 := ⟨at_326, rfl⟩
theorem m0_327 : Ins1 code 327 (.i2l) 1 328 := ⟨at_327, rfl⟩
theorem m0_328 : Ins1 code 328 (.ladd) 1 329 := ⟨at_328, rfl⟩
theorem m0_329 : Ins1 code 329 (.lstore 30) 2 331 := ⟨at_329, rfl⟩
theorem m0_331 : Ins1 code 331 (.lload 30) 2 333 := ⟨at_331, rfl⟩
theorem m0_333 : Ins1 code 333 (.ldc2_w 22) 3 336 := ⟨at_333, rfl⟩
theorem m0_336 : Ins1 code 336 (.lcmp) 1 337 := ⟨at_336, rfl⟩
theorem m0_337 : Jmp1 code 337 (.ifCond .lt 17) 17 340 354 := ⟨at_337, rfl, by decide, by decide⟩
theorem m0_340 : Ins1 code 340 (.lload 30) 2 342 := ⟨at_340, rfl⟩
theorem m0_342 : Ins1 code 342 (.ldc2_w 12) 3 345 := ⟨at_342, rfl⟩
theorem m0_345 : Ins1 code 345 (.lcmp) 1 346 := ⟨at_345, rfl⟩
theorem m0_346 : Jmp1 code 346 (.ifCond .gt 8) 8 349 354 := ⟨at_346, rfl, by decide, by decide⟩
theorem m0_349 : Ins1 code 349 (.lload 30) 2 351 := ⟨at_349, rfl⟩
theorem m0_351 : Ins1 code 351 (.l2i) 1 352 := ⟨at_351, rfl⟩
theorem m0_352 : Ins1 code 352 (.istore 26) 2 354 := ⟨at_352, rfl⟩
theorem m0_354 : Ins1 code 354 (.iconst 0) 1 355 := ⟨at_354, rfl⟩
theorem m0_355 : Ins1 code 355 (.istore 27) 2 357 := ⟨at_355, rfl⟩
theorem m0_357 : Ins1 code 357 (.iload 7) 2 359 := ⟨at_357, rfl⟩
theorem m0_359 : Jmp1 code 359 (.ifCond .le 13) 13 362 372 := ⟨at_359, rfl, by decide, by decide⟩
theorem m0_362 : Ins1 code 362 (.iload 20) 2 364 := ⟨at_362, rfl⟩
theorem m0_364 : Ins1 code 364 (.iload 26) 2 366 := ⟨at_364, rfl⟩
theorem m0_366 : Jmp1 code 366 (.if_icmp .ge 6) 6 369 372 := ⟨at_366, rfl, by decide, by decide⟩
theorem m0_369 : Ins1 code 369 (.iinc 27 1) 3 372 := ⟨at_369, rfl⟩
theorem m0_372 : Ins1 code 372 (.iload 7) 2 374 := ⟨at_372, rfl⟩
theorem m0_374 : Ins1 code 374 (.iconst 1) 1 375 := ⟨at_374, rfl⟩
theorem m0_375 : Jmp1 code 375 (.if_icmp .le 13) 13 378 388 := ⟨at_375, rfl, by decide, by decide⟩
theorem m0_378 : Ins1 code 378 (.iload 21) 2 380 := ⟨at_378, rfl⟩
theorem m0_380 : Ins1 code 380 (.iload 26) 2 382 := ⟨at_380, rfl⟩
theorem m0_382 : Jmp1 code 382 (.if_icmp .ge 6) 6 385 388 := ⟨at_382, rfl, by decide, by decide⟩
theorem m0_385 : Ins1 code 385 (.iinc 27 1) 3 388 := ⟨at_385, rfl⟩
theorem m0_388 : Ins1 code 388 (.iload 7) 2 390 := ⟨at_388, rfl⟩
theorem m0_390 : Ins1 code 390 (.iconst 2) 1 391 := ⟨at_390, rfl⟩
theorem m0_391 : Jmp1 code 391 (.if_icmp .le 13) 13 394 404 := ⟨at_391, rfl, by decide, by decide⟩
theorem m0_394 : Ins1 code 394 (.iload 22) 2 396 := ⟨at_394, rfl⟩
theorem m0_396 : Ins1 code 396 (.iload 26) 2 398 := ⟨at_396, rfl⟩
theorem m0_398 : Jmp1 code 398 (.if_icmp .ge 6) 6 401 404 := ⟨at_398, rfl, by decide, by decide⟩
theorem m0_401 : Ins1 code 401 (.iinc 27 1) 3 404 := ⟨at_401, rfl⟩
theorem m0_404 : Ins1 code 404 (.iload 7) 2 406 := ⟨at_404, rfl⟩
theorem m0_406 : Ins1 code 406 (.iconst 3) 1 407 := ⟨at_406, rfl⟩
theorem m0_407 : Jmp1 code 407 (.if_icmp .le 13) 13 410 420 := ⟨at_407, rfl, by decide, by decide⟩
theorem m0_410 : Ins1 code 410 (.iload 23) 2 412 := ⟨at_410, rfl⟩
theorem m0_412 : Ins1 code 412 (.iload 26) 2 414 := ⟨at_412, rfl⟩
theorem m0_414 : Jmp1 code 414 (.if_icmp .ge 6) 6 417 420 := ⟨at_414, rfl, by decide, by decide⟩
theorem m0_417 : Ins1 code 417 (.iinc 27 1) 3 420 := ⟨at_417, rfl⟩
theorem m0_420 : Ins1 code 420 (.iload 7) 2 422 := ⟨at_420, rfl⟩
theorem m0_422 : Ins1 code 422 (.iconst 4) 1 423 := ⟨at_422, rfl⟩
theorem m0_423 : Jmp1 code 423 (.if_icmp .le 13) 13 426 436 := ⟨at_423, rfl, by decide, by decide⟩
theorem m0_426 : Ins1 code 426 (.iload 24) 2 428 := ⟨at_426, rfl⟩
theorem m0_428 : Ins1 code 428 (.iload 26) 2 430 := ⟨at_428, rfl⟩
theorem m0_430 : Jmp1 code 430 (.if_icmp .ge 6) 6 433 436 := ⟨at_430, rfl, by decide, by decide⟩
theorem m0_433 : Ins1 code 433 (.iinc 27 1) 3 436 := ⟨at_433, rfl⟩
theorem m0_436 : Ins1 code 436 (.aload 25) 2 438 := ⟨at_436, rfl⟩
theorem m0_438 : Ins1 code 438 (.iload 26) 2 440 := ⟨at_438, rfl⟩
theorem m0_440 : Ins1 code 440 (.invokevirtual 24) 3 443 := ⟨at_440, rfl⟩
theorem m0_443 : Ins1 code 443 (.istore 28) 2 445 := ⟨at_443, rfl⟩
theorem m0_445 : Ins1 code 445 (.iload 28) 2 447 := ⟨at_445, rfl⟩
theorem m0_447 : Ins1 code 447 (.iload 27) 2 449 := ⟨at_447, rfl⟩
theorem m0_449 : Jmp1 code 449 (.if_icmp .ne 17) 17 452 466 := ⟨at_449, rfl, by decide, by decide⟩
theorem m0_452 : Ins1 code 452 (.aload 25) 2 454 := ⟨at_452, rfl⟩
theorem m0_454 : Ins1 code 454 (.invokevirtual 28) 3 457 := ⟨at_454, rfl⟩
theorem m0_457 : Ins1 code 457 (.iload 7) 2 459 := ⟨at_457, rfl⟩
theorem m0_459 : Jmp1 code 459 (.if_icmp .ne 7) 7 462 466 := ⟨at_459, rfl, by decide, by decide⟩
theorem m0_462 : Ins1 code 462 (.iconst 1) 1 463 := ⟨at_462, rfl⟩
theorem m0_463 : Jmp1 code 463 (.goto 4) 4 466 467 := ⟨at_463, rfl, by decide, by decide⟩
theorem m0_466 : Ins1 code 466 (.iconst 0) 1 467 := ⟨at_466, rfl⟩
theorem m0_467 : Ins1 code 467 (.ireturn) 1 468 := ⟨at_467, rfl⟩
set_option maxRecDepth 65536 in
set_option maxHeartbeats 4000000 in
theorem own_tl0a (Z : State) (a0 : Array Value) (hw : ∀ d ∈ tables_1, d.before a0 Z = true) {x0 x1 x2 x3 x4 x5 x6 x8 x9 x10 x11 x12 x13 x14 x15 x16 x17 x18 x19 : Slot} (n s0 s1 s2 s3 s4 q p5 : Int32) (a e : Addr) (h : Heap) (n0 : Nat) (hnn : n.toInt = 0) (so0 : s0.toInt < s1.toInt) (so1 : s1.toInt < s2.toInt) (so2 : s2.toInt < s3.toInt) (so3 : s3.toInt < s4.toInt) (E0 : Exa Z h a "com/example/principal/principal/engine/Row") (F0 : Fld Z h a "com/example/principal/principal/engine/Row" "entries" "[I" (.ref e)) (F1 : Fld Z h a "com/example/principal/principal/engine/Row" "size" "I" (.int (0 : Int32))) (A0 : Av Z h e .int ([(0 : Int32), (0 : Int32), (0 : Int32), (0 : Int32)].map Value.int))
    (κ : KT) (Qx : Option Value → Heap → Prop) (hQ : ∀ v h', v = some (.int 1) → Qx v h') (C : Good κ room_1 Z "com/example/principal/principal/engine/RowIndexOfStampPinLaw" "law" code 32 (some .boolean)) : W κ n0 Qx h 2 6 354 [x0, x1, x2, x3, x4, x5, x6, .val (.int n), x8, x9, x10, x11, x12, x13, x14, x15, x16, x17, x18, x19, .val (.int s0), .val (.int s1), .val (.int s2), .val (.int s3), .val (.int s4), .val (.ref a), .val (.int q), .unset, .unset, .unset, .unset, .unset] [] := by
  refine W.iconst C m0_354 (z := (0 : Int32)) rfl ?_
  refine W.istore C m0_355 (L' := [x0, x1, x2, x3, x4, x5, x6, .val (.int n), x8, x9, x10, x11, x12, x13, x14, x15, x16, x17, x18, x19, .val (.int s0), .val (.int s1), .val (.int s2), .val (.int s3), .val (.int s4), .val (.ref a), .val (.int q), .val (.int (0 : Int32)), .unset, .unset, .unset, .unset]) rfl ?_
  refine W.iload C m0_357 rfl ?_
  refine W.ifY C m0_359 (show n.toInt ≤ (0 : Int) from (by rw [hnn] <;> decide)) ?_
  refine W.iload C m0_372 rfl ?_
  refine W.iconst C m0_374 (z := (1 : Int32)) rfl ?_
  refine W.icmpY C m0_375 (show n.toInt ≤ (1 : Int) from (by rw [hnn] <;> decide)) ?_
  refine W.iload C m0_388 rfl ?_
  refine W.iconst C m0_390 (z := (2 : Int32)) rfl ?_
  refine W.icmpY C m0_391 (show n.toInt ≤ (2 : Int) from (by rw [hnn] <;> decide)) ?_
  refine W.iload C m0_404 rfl ?_
  refine W.iconst C m0_406 (z := (3 : Int32)) rfl ?_
  refine W.icmpY C m0_407 (show n.toInt ≤ (3 : Int) from (by rw [hnn] <;> decide)) ?_
  refine W.iload C m0_420 rfl ?_
  refine W.iconst C m0_422 (z := (4 : Int32)) rfl ?_
  refine W.icmpY C m0_423 (show n.toInt ≤ (4 : Int) from (by rw [hnn] <;> decide)) ?_
  refine W.aload C m0_436 rfl rfl ?_
  refine W.iload C m0_438 rfl ?_
  refine W.callV (y := mY3) (wt := 0) C m0_440 (hw _ (List.mem_of_getElem? (i := 15) rfl)) (hw _ (List.mem_of_getElem? (i := 16) rfl)) (hw _ (List.mem_of_getElem? (i := 18) rfl)) (hw _ (List.mem_of_getElem? (i := 17) rfl)) (hw _ (List.mem_of_getElem? (i := 5) rfl)) (hw _ (List.mem_of_getElem? (i := 19) rfl)) (by decide) E0 pd3 rfl (own_ix0 Z a0 hw a q e  [(0 : Int32), (0 : Int32), (0 : Int32), (0 : Int32)] h n0  F0 F1 A0) (as' := [(.int q)]) (rest := []) rfl rfl (Nat.le_of_eq rfl) (by decide) (by decide) (by decide) (by decide) ?_
  intro r4 h2 q3
  obtain ⟨rfl, r1, rfl, hr1⟩ := q3
  show W κ n0 Qx h 2 6 443 [x0, x1, x2, x3, x4, x5, x6, .val (.int n), x8, x9, x10, x11, x12, x13, x14, x15, x16, x17, x18, x19, .val (.int s0), .val (.int s1), .val (.int s2), .val (.int s3), .val (.int s4), .val (.ref a), .val (.int q), .val (.int (0 : Int32)), .unset, .unset, .unset, .unset] [(.int r1)]
  refine W.istore C m0_443 (L' := [x0, x1, x2, x3, x4, x5, x6, .val (.int n), x8, x9, x10, x11, x12, x13, x14, x15, x16, x17, x18, x19, .val (.int s0), .val (.int s1), .val (.int s2), .val (.int s3), .val (.int s4), .val (.ref a), .val (.int q), .val (.int (0 : Int32)), .val (.int r1), .unset, .unset, .unset]) rfl ?_
  refine W.iload C m0_445 rfl ?_
  refine W.iload C m0_447 rfl ?_
  refine W.icmp C m0_449 ?_ ?_
  · intro (h449 : ¬ r1.toInt = (0 : Int))
    refine W.iconst C m0_466 (z := (0 : Int32)) rfl ?_
    refine W.zreturn C m0_467 (hQ _ _ ?_)
    exfalso
    exact absurd (Int.le_antisymm hr1.2 hr1.1) h449
  · intro (h449 : ¬ ¬ r1.toInt = (0 : Int))
    replace h449 := Decidable.not_not.mp h449
    refine W.aload C m0_452 rfl rfl ?_
    refine W.callV (y := mY4) (wt := 0) C m0_454 (hw _ (List.mem_of_getElem? (i := 22) rfl)) (hw _ (List.mem_of_getElem? (i := 23) rfl)) (hw _ (List.mem_of_getElem? (i := 25) rfl)) (hw _ (List.mem_of_getElem? (i := 24) rfl)) (hw _ (List.mem_of_getElem? (i := 5) rfl)) (hw _ (List.mem_of_getElem? (i := 26) rfl)) (by decide) E0 pd4 rfl (own_size Z a0 hw a (0 : Int32) h n0 F1) (as' := []) (rest := []) rfl rfl (Nat.le_of_eq rfl) (by decide) (by decide) (by decide) (by decide) ?_
    intro r7 h5 q6
    obtain ⟨rfl, rfl⟩ := q6
    show W κ n0 Qx h 2 6 457 [x0, x1, x2, x3, x4, x5, x6, .val (.int n), x8, x9, x10, x11, x12, x13, x14, x15, x16, x17, x18, x19, .val (.int s0), .val (.int s1), .val (.int s2), .val (.int s3), .val (.int s4), .val (.ref a), .val (.int q), .val (.int (0 : Int32)), .val (.int r1), .unset, .unset, .unset] [(.int (0 : Int32))]
    refine W.iload C m0_457 rfl ?_
    refine W.icmp C m0_459 ?_ ?_
    · intro (h459 : ¬ (0 : Int) = n.toInt)
      refine W.iconst C m0_466 (z := (0 : Int32)) rfl ?_
      refine W.zreturn C m0_467 (hQ _ _ ?_)
      exfalso
      exact absurd hnn.symm h459
    · intro (h459 : ¬ ¬ (0 : Int) = n.toInt)
      replace h459 := Decidable.not_not.mp h459
      refine W.iconst C m0_462 (z := (1 : Int32)) rfl ?_
      refine W.goto C m0_463 ?_
      refine W.zreturn C m0_467 (hQ _ _ ?_)
      exact rfl
set_option maxRecDepth 65536 in
set_option maxHeartbeats 4000000 in
theorem own_cs0 (Z : State) (a0 : Array Value) (hw : ∀ d ∈ tables_1, d.before a0 Z = true) {x0 x1 x2 x3 x8 x9 x10 x11 x12 x13 x14 x15 x16 x17 x18 x19 : Slot} (p3 p4 p5 n s0 s1 s2 s3 s4 : Int32) (a e : Addr) (h : Heap) (n0 : Nat) (hnn : n.toInt = 0) (so0 : s0.toInt < s1.toInt) (so1 : s1.toInt < s2.toInt) (so2 : s2.toInt < s3.toInt) (so3 : s3.toInt < s4.toInt) (z0 : n0 ≤ h.size) (g0 : n0 ≤ a) (g1 : n0 ≤ e) (hae : a ≠ e) (E0 : Exa Z h a "com/example/principal/principal/engine/Row") (F0 : Fld Z h a "com/example/principal/principal/engine/Row" "entries" "[I" (.ref e)) (F1 : Fld Z h a "com/example/principal/principal/engine/Row" "size" "I" (.int (0 : Int32))) (A0 : Av Z h e .int ([(0 : Int32), (0 : Int32), (0 : Int32), (0 : Int32)].map Value.int))
    (κ : KT) (Qx : Option Value → Heap → Prop) (hQ : ∀ v h', v = some (.int 1) → Qx v h') (C : Good κ room_1 Z "com/example/principal/principal/engine/RowIndexOfStampPinLaw" "law" code 32 (some .boolean)) : W κ n0 Qx h 2 6 146 [x0, x1, x2, x3, .val (.int p3), .val (.int p4), .val (.int p5), .val (.int n), x8, x9, x10, x11, x12, x13, x14, x15, x16, x17, x18, x19, .val (.int s0), .val (.int s1), .val (.int s2), .val (.int s3), .val (.int s4), .val (.ref a), .unset, .unset, .unset, .unset, .unset, .unset] [] := by
  refine W.iload C m0_146 rfl ?_
  refine W.ifY C m0_148 (show n.toInt ≤ (0 : Int) from (by rw [hnn] <;> decide)) ?_
  refine W.iload C m0_160 rfl ?_
  refine W.iconst C m0_162 (z := (1 : Int32)) rfl ?_
  refine W.icmpY C m0_163 (show n.toInt ≤ (1 : Int) from (by rw [hnn] <;> decide)) ?_
  refine W.iload C m0_179 rfl ?_
  refine W.iconst C m0_181 (z := (2 : Int32)) rfl ?_
  refine W.icmpY C m0_182 (show n.toInt ≤ (2 : Int) from (by rw [hnn] <;> decide)) ?_
  refine W.iload C m0_198 rfl ?_
  refine W.iconst C m0_200 (z := (3 : Int32)) rfl ?_
  refine W.icmpY C m0_201 (show n.toInt ≤ (3 : Int) from (by rw [hnn] <;> decide)) ?_
  refine W.iload C m0_217 rfl ?_
  refine W.iconst C m0_219 (z := (4 : Int32)) rfl ?_
  refine W.icmpY C m0_220 (show n.toInt ≤ (4 : Int) from (by rw [hnn] <;> decide)) ?_
  refine W.iload C m0_236 rfl ?_
  refine W.istore C m0_238 (L' := [x0, x1, x2, x3, .val (.int p3), .val (.int p4), .val (.int p5), .val (.int n), x8, x9, x10, x11, x12, x13, x14, x15, x16, x17, x18, x19, .val (.int s0), .val (.int s1), .val (.int s2), .val (.int s3), .val (.int s4), .val (.ref a), .val (.int p4), .unset, .unset, .unset, .unset, .unset]) rfl ?_
  refine W.iload C m0_240 rfl ?_
  refine W.iconst C m0_242 (z := (1 : Int32)) rfl ?_
  refine W.iand C m0_243 rfl ?_
  refine W.ifc C m0_244 ?_ ?_
  · intro (h244 : ¬ ((p3 &&& (1 : Int32))).toInt = (0 : Int))
    exact own_tl0a Z a0 hw n s0 s1 s2 s3 s4 p4 p5 a e h n0 hnn so0 so1 so2 so3 E0 F0 F1 A0 κ Qx hQ C
  · intro (h244 : ¬ ¬ ((p3 &&& (1 : Int32))).toInt = (0 : Int))
    replace h244 := Decidable.not_not.mp h244
    refine W.iload C m0_247 rfl ?_
    refine W.ifY C m0_249 (show n.toInt ≤ (0 : Int) from (by rw [hnn] <;> decide)) ?_
    exact own_tl0a Z a0 hw n s0 s1 s2 s3 s4 p4 p5 a e h n0 hnn so0 so1 so2 so3 E0 F0 F1 A0 κ Qx hQ C
set_option maxRecDepth 65536 in
set_option maxHeartbeats 4000000 in
theorem own_tl1a (Z : State) (a0 : Array Value) (hw : ∀ d ∈ tables_1, d.before a0 Z = true) {x0 x1 x2 x3 x4 x5 x6 x8 x9 x10 x11 x12 x13 x14 x15 x16 x17 x18 x19 : Slot} (n s0 s1 s2 s3 s4 q p5 : Int32) (a e : Addr) (h : Heap) (n0 : Nat) (hnn : n.toInt = 1) (so0 : s0.toInt < s1.toInt) (so1 : s1.toInt < s2.toInt) (so2 : s2.toInt < s3.toInt) (so3 : s3.toInt < s4.toInt) (E0 : Exa Z h a "com/example/principal/principal/engine/Row") (F0 : Fld Z h a "com/example/principal/principal/engine/Row" "entries" "[I" (.ref e)) (F1 : Fld Z h a "com/example/principal/principal/engine/Row" "size" "I" (.int (1 : Int32))) (A0 : Av Z h e .int ([p5, s0, (0 : Int32), (0 : Int32)].map Value.int))
    (κ : KT) (Qx : Option Value → Heap → Prop) (hQ : ∀ v h', v = some (.int 1) → Qx v h') (C : Good κ room_1 Z "com/example/principal/principal/engine/RowIndexOfStampPinLaw" "law" code 32 (some .boolean)) : W κ n0 Qx h 2 6 354 [x0, x1, x2, x3, x4, x5, x6, .val (.int n), x8, x9, x10, x11, x12, x13, x14, x15, x16, x17, x18, x19, .val (.int s0), .val (.int s1), .val (.int s2), .val (.int s3), .val (.int s4), .val (.ref a), .val (.int q), .unset, .unset, .unset, .unset, .unset] [] := by
  refine W.iconst C m0_354 (z := (0 : Int32)) rfl ?_
  refine W.istore C m0_355 (L' := [x0, x1, x2, x3, x4, x5, x6, .val (.int n), x8, x9, x10, x11, x12, x13, x14, x15, x16, x17, x18, x19, .val (.int s0), .val (.int s1), .val (.int s2), .val (.int s3), .val (.int s4), .val (.ref a), .val (.int q), .val (.int (0 : Int32)), .unset, .unset, .unset, .unset]) rfl ?_
  refine W.iload C m0_357 rfl ?_
  refine W.ifN C m0_359 (show ¬ (n.toInt ≤ (0 : Int)) from (by rw [hnn] <;> decide)) ?_
  refine W.iload C m0_362 rfl ?_
  refine W.iload C m0_364 rfl ?_
  suffices Jc0 : ∀ c0 : Int32, ((s0.toInt < q.toInt ∧ c0.toInt = (0 : Int) + 1) ∨ (q.toInt ≤ s0.toInt ∧ c0.toInt = (0 : Int))) → (0 ≤ c0.toInt ∧ c0.toInt ≤ 1) → W κ n0 Qx h 2 6 372 [x0, x1, x2, x3, x4, x5, x6, .val (.int n), x8, x9, x10, x11, x12, x13, x14, x15, x16, x17, x18, x19, .val (.int s0), .val (.int s1), .val (.int s2), .val (.int s3), .val (.int s4), .val (.ref a), .val (.int q), .val (.int c0), .unset, .unset, .unset, .unset] [] by
    refine W.icmp C m0_366 ?_ ?_
    · intro (hc : q.toInt ≤ s0.toInt)
      exact Jc0 _ (Or.inr ⟨hc, rfl⟩) ⟨by decide, by decide⟩
    · intro (hc : ¬ (q.toInt ≤ s0.toInt))
      refine W.iinc C m0_369 rfl (z := (1 : Int32)) rfl (L' := [x0, x1, x2, x3, x4, x5, x6, .val (.int n), x8, x9, x10, x11, x12, x13, x14, x15, x16, x17, x18, x19, .val (.int s0), .val (.int s1), .val (.int s2), .val (.int s3), .val (.int s4), .val (.ref a), .val (.int q), .val (.int (1 : Int32)), .unset, .unset, .unset, .unset]) rfl ?_
      exact Jc0 _ (Or.inl ⟨Int.not_le.mp hc, rfl⟩) ⟨by decide, by decide⟩
  intro c0 hc0 bc0
  refine W.iload C m0_372 rfl ?_
  refine W.iconst C m0_374 (z := (1 : Int32)) rfl ?_
  refine W.icmpY C m0_375 (show n.toInt ≤ (1 : Int) from (by rw [hnn] <;> decide)) ?_
  refine W.iload C m0_388 rfl ?_
  refine W.iconst C m0_390 (z := (2 : Int32)) rfl ?_
  refine W.icmpY C m0_391 (show n.toInt ≤ (2 : Int) from (by rw [hnn] <;> decide)) ?_
  refine W.iload C m0_404 rfl ?_
  refine W.iconst C m0_406 (z := (3 : Int32)) rfl ?_
  refine W.icmpY C m0_407 (show n.toInt ≤ (3 : Int) from (by rw [hnn] <;> decide)) ?_
  refine W.iload C m0_420 rfl ?_
  refine W.iconst C m0_422 (z := (4 : Int32)) rfl ?_
  refine W.icmpY C m0_423 (show n.toInt ≤ (4 : Int) from (by rw [hnn] <;> decide)) ?_
  refine W.aload C m0_436 rfl rfl ?_
  refine W.iload C m0_438 rfl ?_
  refine W.callV (y := mY3) (wt := 0) C m0_440 (hw _ (List.mem_of_getElem? (i := 15) rfl)) (hw _ (List.mem_of_getElem? (i := 16) rfl)) (hw _ (List.mem_of_getElem? (i := 18) rfl)) (hw _ (List.mem_of_getElem? (i := 17) rfl)) (hw _ (List.mem_of_getElem? (i := 5) rfl)) (hw _ (List.mem_of_getElem? (i := 19) rfl)) (by decide) E0 pd3 rfl (own_ix1 Z a0 hw a q e p5 s0 [(0 : Int32), (0 : Int32)] h n0  F0 F1 A0) (as' := [(.int q)]) (rest := []) rfl rfl (Nat.le_of_eq rfl) (by decide) (by decide) (by decide) (by decide) ?_
  intro r4 h2 q3
  obtain ⟨rfl, r1, rfl, hr1⟩ := q3
  show W κ n0 Qx h 2 6 443 [x0, x1, x2, x3, x4, x5, x6, .val (.int n), x8, x9, x10, x11, x12, x13, x14, x15, x16, x17, x18, x19, .val (.int s0), .val (.int s1), .val (.int s2), .val (.int s3), .val (.int s4), .val (.ref a), .val (.int q), .val (.int c0), .unset, .unset, .unset, .unset] [(.int r1)]
  refine W.istore C m0_443 (L' := [x0, x1, x2, x3, x4, x5, x6, .val (.int n), x8, x9, x10, x11, x12, x13, x14, x15, x16, x17, x18, x19, .val (.int s0), .val (.int s1), .val (.int s2), .val (.int s3), .val (.int s4), .val (.ref a), .val (.int q), .val (.int c0), .val (.int r1), .unset, .unset, .unset]) rfl ?_
  refine W.iload C m0_445 rfl ?_
  refine W.iload C m0_447 rfl ?_
  refine W.icmp C m0_449 ?_ ?_
  · intro (h449 : ¬ r1.toInt = c0.toInt)
    refine W.iconst C m0_466 (z := (0 : Int32)) rfl ?_
    refine W.zreturn C m0_467 (hQ _ _ ?_)
    exfalso
    obtain ⟨r0, rk, j0⟩ := hr1
    have m0 := own_m0 r0
    have m1 := own_cn 1 (by decide) hc0 j0 m0
    exact absurd (own_mk m1 rk) h449
  · intro (h449 : ¬ ¬ r1.toInt = c0.toInt)
    replace h449 := Decidable.not_not.mp h449
    refine W.aload C m0_452 rfl rfl ?_
    refine W.callV (y := mY4) (wt := 0) C m0_454 (hw _ (List.mem_of_getElem? (i := 22) rfl)) (hw _ (List.mem_of_getElem? (i := 23) rfl)) (hw _ (List.mem_of_getElem? (i := 25) rfl)) (hw _ (List.mem_of_getElem? (i := 24) rfl)) (hw _ (List.mem_of_getElem? (i := 5) rfl)) (hw _ (List.mem_of_getElem? (i := 26) rfl)) (by decide) E0 pd4 rfl (own_size Z a0 hw a (1 : Int32) h n0 F1) (as' := []) (rest := []) rfl rfl (Nat.le_of_eq rfl) (by decide) (by decide) (by decide) (by decide) ?_
    intro r7 h5 q6
    obtain ⟨rfl, rfl⟩ := q6
    show W κ n0 Qx h 2 6 457 [x0, x1, x2, x3, x4, x5, x6, .val (.int n), x8, x9, x10, x11, x12, x13, x14, x15, x16, x17, x18, x19, .val (.int s0), .val (.int s1), .val (.int s2), .val (.int s3), .val (.int s4), .val (.ref a), .val (.int q), .val (.int c0), .val (.int r1), .unset, .unset, .unset] [(.int (1 : Int32))]
    refine W.iload C m0_457 rfl ?_
    refine W.icmp C m0_459 ?_ ?_
    · intro (h459 : ¬ (1 : Int) = n.toInt)
      refine W.iconst C m0_466 (z := (0 : Int32)) rfl ?_
      refine W.zreturn C m0_467 (hQ _ _ ?_)
      exfalso
      exact absurd hnn.symm h459
    · intro (h459 : ¬ ¬ (1 : Int) = n.toInt)
      replace h459 := Decidable.not_not.mp h459
      refine W.iconst C m0_462 (z := (1 : Int32)) rfl ?_
      refine W.goto C m0_463 ?_
      refine W.zreturn C m0_467 (hQ _ _ ?_)
      exact rfl
set_option maxRecDepth 65536 in
set_option maxHeartbeats 4000000 in
theorem own_tl1b (Z : State) (a0 : Array Value) (hw : ∀ d ∈ tables_1, d.before a0 Z = true) {x0 x1 x2 x3 x4 x5 x6 x8 x9 x10 x11 x12 x13 x14 x15 x16 x17 x18 x19 : Slot} {j : Int32} {w28 w30 : Int64} (n s0 s1 s2 s3 s4 q p5 : Int32) (a e : Addr) (h : Heap) (n0 : Nat) (hnn : n.toInt = 1) (so0 : s0.toInt < s1.toInt) (so1 : s1.toInt < s2.toInt) (so2 : s2.toInt < s3.toInt) (so3 : s3.toInt < s4.toInt) (E0 : Exa Z h a "com/example/principal/principal/engine/Row") (F0 : Fld Z h a "com/example/principal/principal/engine/Row" "entries" "[I" (.ref e)) (F1 : Fld Z h a "com/example/principal/principal/engine/Row" "size" "I" (.int (1 : Int32))) (A0 : Av Z h e .int ([p5, s0, (0 : Int32), (0 : Int32)].map Value.int))
    (κ : KT) (Qx : Option Value → Heap → Prop) (hQ : ∀ v h', v = some (.int 1) → Qx v h') (C : Good κ room_1 Z "com/example/principal/principal/engine/RowIndexOfStampPinLaw" "law" code 32 (some .boolean)) : W κ n0 Qx h 2 6 354 [x0, x1, x2, x3, x4, x5, x6, .val (.int n), x8, x9, x10, x11, x12, x13, x14, x15, x16, x17, x18, x19, .val (.int s0), .val (.int s1), .val (.int s2), .val (.int s3), .val (.int s4), .val (.ref a), .val (.int q), .val (.int j), .val (.long w28), .second, .val (.long w30), .second] [] := by
  refine W.iconst C m0_354 (z := (0 : Int32)) rfl ?_
  refine W.istore C m0_355 (L' := [x0, x1, x2, x3, x4, x5, x6, .val (.int n), x8, x9, x10, x11, x12, x13, x14, x15, x16, x17, x18, x19, .val (.int s0), .val (.int s1), .val (.int s2), .val (.int s3), .val (.int s4), .val (.ref a), .val (.int q), .val (.int (0 : Int32)), .val (.long w28), .second, .val (.long w30), .second]) rfl ?_
  refine W.iload C m0_357 rfl ?_
  refine W.ifN C m0_359 (show ¬ (n.toInt ≤ (0 : Int)) from (by rw [hnn] <;> decide)) ?_
  refine W.iload C m0_362 rfl ?_
  refine W.iload C m0_364 rfl ?_
  suffices Jc0 : ∀ c0 : Int32, ((s0.toInt < q.toInt ∧ c0.toInt = (0 : Int) + 1) ∨ (q.toInt ≤ s0.toInt ∧ c0.toInt = (0 : Int))) → (0 ≤ c0.toInt ∧ c0.toInt ≤ 1) → W κ n0 Qx h 2 6 372 [x0, x1, x2, x3, x4, x5, x6, .val (.int n), x8, x9, x10, x11, x12, x13, x14, x15, x16, x17, x18, x19, .val (.int s0), .val (.int s1), .val (.int s2), .val (.int s3), .val (.int s4), .val (.ref a), .val (.int q), .val (.int c0), .val (.long w28), .second, .val (.long w30), .second] [] by
    refine W.icmp C m0_366 ?_ ?_
    · intro (hc : q.toInt ≤ s0.toInt)
      exact Jc0 _ (Or.inr ⟨hc, rfl⟩) ⟨by decide, by decide⟩
    · intro (hc : ¬ (q.toInt ≤ s0.toInt))
      refine W.iinc C m0_369 rfl (z := (1 : Int32)) rfl (L' := [x0, x1, x2, x3, x4, x5, x6, .val (.int n), x8, x9, x10, x11, x12, x13, x14, x15, x16, x17, x18, x19, .val (.int s0), .val (.int s1), .val (.int s2), .val (.int s3), .val (.int s4), .val (.ref a), .val (.int q), .val (.int (1 : Int32)), .val (.long w28), .second, .val (.long w30), .second]) rfl ?_
      exact Jc0 _ (Or.inl ⟨Int.not_le.mp hc, rfl⟩) ⟨by decide, by decide⟩
  intro c0 hc0 bc0
  refine W.iload C m0_372 rfl ?_
  refine W.iconst C m0_374 (z := (1 : Int32)) rfl ?_
  refine W.icmpY C m0_375 (show n.toInt ≤ (1 : Int) from (by rw [hnn] <;> decide)) ?_
  refine W.iload C m0_388 rfl ?_
  refine W.iconst C m0_390 (z := (2 : Int32)) rfl ?_
  refine W.icmpY C m0_391 (show n.toInt ≤ (2 : Int) from (by rw [hnn] <;> decide)) ?_
  refine W.iload C m0_404 rfl ?_
  refine W.iconst C m0_406 (z := (3 : Int32)) rfl ?_
  refine W.icmpY C m0_407 (show n.toInt ≤ (3 : Int) from (by rw [hnn] <;> decide)) ?_
  refine W.iload C m0_420 rfl ?_
  refine W.iconst C m0_422 (z := (4 : Int32)) rfl ?_
  refine W.icmpY C m0_423 (show n.toInt ≤ (4 : Int) from (by rw [hnn] <;> decide)) ?_
  refine W.aload C m0_436 rfl rfl ?_
  refine W.iload C m0_438 rfl ?_
  refine W.callV (y := mY3) (wt := 0) C m0_440 (hw _ (List.mem_of_getElem? (i := 15) rfl)) (hw _ (List.mem_of_getElem? (i := 16) rfl)) (hw _ (List.mem_of_getElem? (i := 18) rfl)) (hw _ (List.mem_of_getElem? (i := 17) rfl)) (hw _ (List.mem_of_getElem? (i := 5) rfl)) (hw _ (List.mem_of_getElem? (i := 19) rfl)) (by decide) E0 pd3 rfl (own_ix1 Z a0 hw a q e p5 s0 [(0 : Int32), (0 : Int32)] h n0  F0 F1 A0) (as' := [(.int q)]) (rest := []) rfl rfl (Nat.le_of_eq rfl) (by decide) (by decide) (by decide) (by decide) ?_
  intro r4 h2 q3
  obtain ⟨rfl, r1, rfl, hr1⟩ := q3
  show W κ n0 Qx h 2 6 443 [x0, x1, x2, x3, x4, x5, x6, .val (.int n), x8, x9, x10, x11, x12, x13, x14, x15, x16, x17, x18, x19, .val (.int s0), .val (.int s1), .val (.int s2), .val (.int s3), .val (.int s4), .val (.ref a), .val (.int q), .val (.int c0), .val (.long w28), .second, .val (.long w30), .second] [(.int r1)]
  refine W.istore C m0_443 (L' := [x0, x1, x2, x3, x4, x5, x6, .val (.int n), x8, x9, x10, x11, x12, x13, x14, x15, x16, x17, x18, x19, .val (.int s0), .val (.int s1), .val (.int s2), .val (.int s3), .val (.int s4), .val (.ref a), .val (.int q), .val (.int c0), .val (.int r1), .unset, .val (.long w30), .second]) rfl ?_
  refine W.iload C m0_445 rfl ?_
  refine W.iload C m0_447 rfl ?_
  refine W.icmp C m0_449 ?_ ?_
  · intro (h449 : ¬ r1.toInt = c0.toInt)
    refine W.iconst C m0_466 (z := (0 : Int32)) rfl ?_
    refine W.zreturn C m0_467 (hQ _ _ ?_)
    exfalso
    obtain ⟨r0, rk, j0⟩ := hr1
    have m0 := own_m0 r0
    have m1 := own_cn 1 (by decide) hc0 j0 m0
    exact absurd (own_mk m1 rk) h449
  · intro (h449 : ¬ ¬ r1.toInt = c0.toInt)
    replace h449 := Decidable.not_not.mp h449
    refine W.aload C m0_452 rfl rfl ?_
    refine W.callV (y := mY4) (wt := 0) C m0_454 (hw _ (List.mem_of_getElem? (i := 22) rfl)) (hw _ (List.mem_of_getElem? (i := 23) rfl)) (hw _ (List.mem_of_getElem? (i := 25) rfl)) (hw _ (List.mem_of_getElem? (i := 24) rfl)) (hw _ (List.mem_of_getElem? (i := 5) rfl)) (hw _ (List.mem_of_getElem? (i := 26) rfl)) (by decide) E0 pd4 rfl (own_size Z a0 hw a (1 : Int32) h n0 F1) (as' := []) (rest := []) rfl rfl (Nat.le_of_eq rfl) (by decide) (by decide) (by decide) (by decide) ?_
    intro r7 h5 q6
    obtain ⟨rfl, rfl⟩ := q6
    show W κ n0 Qx h 2 6 457 [x0, x1, x2, x3, x4, x5, x6, .val (.int n), x8, x9, x10, x11, x12, x13, x14, x15, x16, x17, x18, x19, .val (.int s0), .val (.int s1), .val (.int s2), .val (.int s3), .val (.int s4), .val (.ref a), .val (.int q), .val (.int c0), .val (.int r1), .unset, .val (.long w30), .second] [(.int (1 : Int32))]
    refine W.iload C m0_457 rfl ?_
    refine W.icmp C m0_459 ?_ ?_
    · intro (h459 : ¬ (1 : Int) = n.toInt)
      refine W.iconst C m0_466 (z := (0 : Int32)) rfl ?_
      refine W.zreturn C m0_467 (hQ _ _ ?_)
      exfalso
      exact absurd hnn.symm h459
    · intro (h459 : ¬ ¬ (1 : Int) = n.toInt)
      replace h459 := Decidable.not_not.mp h459
      refine W.iconst C m0_462 (z := (1 : Int32)) rfl ?_
      refine W.goto C m0_463 ?_
      refine W.zreturn C m0_467 (hQ _ _ ?_)
      exact rfl
set_option maxRecDepth 65536 in
set_option maxHeartbeats 4000000 in
theorem own_cs1 (Z : State) (a0 : Array Value) (hw : ∀ d ∈ tables_1, d.before a0 Z = true) {x0 x1 x2 x3 x8 x9 x10 x11 x12 x13 x14 x15 x16 x17 x18 x19 : Slot} (p3 p4 p5 n s0 s1 s2 s3 s4 : Int32) (a e : Addr) (h : Heap) (n0 : Nat) (hnn : n.toInt = 1) (so0 : s0.toInt < s1.toInt) (so1 : s1.toInt < s2.toInt) (so2 : s2.toInt < s3.toInt) (so3 : s3.toInt < s4.toInt) (z0 : n0 ≤ h.size) (g0 : n0 ≤ a) (g1 : n0 ≤ e) (hae : a ≠ e) (E0 : Exa Z h a "com/example/principal/principal/engine/Row") (F0 : Fld Z h a "com/example/principal/principal/engine/Row" "entries" "[I" (.ref e)) (F1 : Fld Z h a "com/example/principal/principal/engine/Row" "size" "I" (.int (0 : Int32))) (A0 : Av Z h e .int ([(0 : Int32), (0 : Int32), (0 : Int32), (0 : Int32)].map Value.int))
    (κ : KT) (Qx : Option Value → Heap → Prop) (hQ : ∀ v h', v = some (.int 1) → Qx v h') (C : Good κ room_1 Z "com/example/principal/principal/engine/RowIndexOfStampPinLaw" "law" code 32 (some .boolean)) : W κ n0 Qx h 2 6 146 [x0, x1, x2, x3, .val (.int p3), .val (.int p4), .val (.int p5), .val (.int n), x8, x9, x10, x11, x12, x13, x14, x15, x16, x17, x18, x19, .val (.int s0), .val (.int s1), .val (.int s2), .val (.int s3), .val (.int s4), .val (.ref a), .unset, .unset, .unset, .unset, .unset, .unset] [] := by
  refine W.iload C m0_146 rfl ?_
  refine W.ifN C m0_148 (show ¬ (n.toInt ≤ (0 : Int)) from (by rw [hnn] <;> decide)) ?_
  refine W.aload C m0_151 rfl rfl ?_
  refine W.iload C m0_153 rfl ?_
  refine W.iload C m0_155 rfl ?_
  refine W.callV (y := mY5) (wt := 0) C m0_157 (hw _ (List.mem_of_getElem? (i := 27) rfl)) (hw _ (List.mem_of_getElem? (i := 28) rfl)) (hw _ (List.mem_of_getElem? (i := 30) rfl)) (hw _ (List.mem_of_getElem? (i := 29) rfl)) (hw _ (List.mem_of_getElem? (i := 5) rfl)) (hw _ (List.mem_of_getElem? (i := 31) rfl)) (by decide) E0 pd5 rfl (own_ad Z a0 hw a p5 s0 e (0 : Int32) (1 : Int32) 0 [(0 : Int32), (0 : Int32), (0 : Int32), (0 : Int32)] h n0 z0 g0 E0 F0 F1 A0 rfl rfl hae g1 (Nat.le_of_ble_eq_true rfl) (Nat.le_of_ble_eq_true rfl)) (as' := [(.int p5), (.int s0)]) (rest := []) rfl rfl (Nat.le_of_eq rfl) (by decide) (by decide) (by decide) (by decide) ?_
  intro r10 h8 q9
  obtain ⟨rfl, K1, E2, F3, F4, A5⟩ := q9
  have E11 := E0.keep K1
  have z12 : n0 ≤ h8.size := Nat.le_trans z0 K1.1
  have A13 : Av Z h8 e .int ([p5, s0, (0 : Int32), (0 : Int32)].map Value.int) := A5
  show W κ n0 Qx h8 2 6 160 [x0, x1, x2, x3, .val (.int p3), .val (.int p4), .val (.int p5), .val (.int n), x8, x9, x10, x11, x12, x13, x14, x15, x16, x17, x18, x19, .val (.int s0), .val (.int s1), .val (.int s2), .val (.int s3), .val (.int s4), .val (.ref a), .unset, .unset, .unset, .unset, .unset, .unset] []
  refine W.iload C m0_160 rfl ?_
  refine W.iconst C m0_162 (z := (1 : Int32)) rfl ?_
  refine W.icmpY C m0_163 (show n.toInt ≤ (1 : Int) from (by rw [hnn] <;> decide)) ?_
  refine W.iload C m0_179 rfl ?_
  refine W.iconst C m0_181 (z := (2 : Int32)) rfl ?_
  refine W.icmpY C m0_182 (show n.toInt ≤ (2 : Int) from (by rw [hnn] <;> decide)) ?_
  refine W.iload C m0_198 rfl ?_
  refine W.iconst C m0_200 (z := (3 : Int32)) rfl ?_
  refine W.icmpY C m0_201 (show n.toInt ≤ (3 : Int) from (by rw [hnn] <;> decide)) ?_
  refine W.iload C m0_217 rfl ?_
  refine W.iconst C m0_219 (z := (4 : Int32)) rfl ?_
  refine W.icmpY C m0_220 (show n.toInt ≤ (4 : Int) from (by rw [hnn] <;> decide)) ?_
  refine W.iload C m0_236 rfl ?_
  refine W.istore C m0_238 (L' := [x0, x1, x2, x3, .val (.int p3), .val (.int p4), .val (.int p5), .val (.int n), x8, x9, x10, x11, x12, x13, x14, x15, x16, x17, x18, x19, .val (.int s0), .val (.int s1), .val (.int s2), .val (.int s3), .val (.int s4), .val (.ref a), .val (.int p4), .unset, .unset, .unset, .unset, .unset]) rfl ?_
  refine W.iload C m0_240 rfl ?_
  refine W.iconst C m0_242 (z := (1 : Int32)) rfl ?_
  refine W.iand C m0_243 rfl ?_
  refine W.ifc C m0_244 ?_ ?_
  · intro (h244 : ¬ ((p3 &&& (1 : Int32))).toInt = (0 : Int))
    exact own_tl1a Z a0 hw n s0 s1 s2 s3 s4 p4 p5 a e h8 n0 hnn so0 so1 so2 so3 E2 F3 F4 A13 κ Qx hQ C
  · intro (h244 : ¬ ¬ ((p3 &&& (1 : Int32))).toInt = (0 : Int))
    replace h244 := Decidable.not_not.mp h244
    refine W.iload C m0_247 rfl ?_
    refine W.ifN C m0_249 (show ¬ (n.toInt ≤ (0 : Int)) from (by rw [hnn] <;> decide)) ?_
    refine W.iload C m0_252 rfl ?_
    refine W.iconst C m0_254 (z := (1 : Int32)) rfl ?_
    refine W.iushr C m0_255 rfl ?_
    refine W.ldc C m0_256 (hw _ (List.mem_of_getElem? (i := 44) rfl)) ?_
    refine W.iand C m0_258 rfl ?_
    refine W.iload C m0_259 rfl ?_
    refine W.irem C m0_261 (fun e => by rw [e] at hnn; exact absurd hnn (by decide)) rfl ?_
    generalize hv14 : (((p3.toUInt32 >>> ((1 : Int32) &&& 31).toUInt32).toInt32 &&& (65535 : Int32)) % n) = v14
    refine W.istore C m0_262 (L' := [x0, x1, x2, x3, .val (.int p3), .val (.int p4), .val (.int p5), .val (.int n), x8, x9, x10, x11, x12, x13, x14, x15, x16, x17, x18, x19, .val (.int s0), .val (.int s1), .val (.int s2), .val (.int s3), .val (.int s4), .val (.ref a), .val (.int p4), .val (.int v14), .unset, .unset, .unset, .unset]) rfl ?_
    refine W.iload C m0_264 rfl ?_
    suffices J266 : ∀ (w15 : Int64), (True) → W κ n0 Qx h8 2 6 314 [x0, x1, x2, x3, .val (.int p3), .val (.int p4), .val (.int p5), .val (.int n), x8, x9, x10, x11, x12, x13, x14, x15, x16, x17, x18, x19, .val (.int s0), .val (.int s1), .val (.int s2), .val (.int s3), .val (.int s4), .val (.ref a), .val (.int p4), .val (.int v14), .unset, .unset, .unset, .unset] [(.long w15)] by
      refine W.ifc C m0_266 ?_ ?_
      · intro (h266 : ¬ v14.toInt = (0 : Int))
        refine W.iload C m0_275 rfl ?_
        refine W.iconst C m0_277 (z := (1 : Int32)) rfl ?_
        refine W.icmp C m0_278 ?_ ?_
        · intro (h278 : ¬ v14.toInt = (1 : Int))
          refine W.iload C m0_287 rfl ?_
          refine W.iconst C m0_289 (z := (2 : Int32)) rfl ?_
          refine W.icmp C m0_290 ?_ ?_
          · intro (h290 : ¬ v14.toInt = (2 : Int))
            refine W.iload C m0_299 rfl ?_
            refine W.iconst C m0_301 (z := (3 : Int32)) rfl ?_
            refine W.icmp C m0_302 ?_ ?_
            · intro (h302 : ¬ v14.toInt = (3 : Int))
              refine W.iload C m0_311 rfl ?_
              refine W.i2l C m0_313 rfl ?_
              exact J266 _ (by trivial)
            · intro (h302 : ¬ ¬ v14.toInt = (3 : Int))
              replace h302 := Decidable.not_not.mp h302
              refine W.iload C m0_305 rfl ?_
              refine W.i2l C m0_307 rfl ?_
              refine W.goto C m0_308 ?_
              exact J266 _ (by trivial)
          · intro (h290 : ¬ ¬ v14.toInt = (2 : Int))
            replace h290 := Decidable.not_not.mp h290
            refine W.iload C m0_293 rfl ?_
            refine W.i2l C m0_295 rfl ?_
            refine W.goto C m0_296 ?_
            exact J266 _ (by trivial)
        · intro (h278 : ¬ ¬ v14.toInt = (1 : Int))
          replace h278 := Decidable.not_not.mp h278
          refine W.iload C m0_281 rfl ?_
          refine W.i2l C m0_283 rfl ?_
          refine W.goto C m0_284 ?_
          exact J266 _ (by trivial)
      · intro (h266 : ¬ ¬ v14.toInt = (0 : Int))
        replace h266 := Decidable.not_not.mp h266
        refine W.iload C m0_269 rfl ?_
        refine W.i2l C m0_271 rfl ?_
        refine W.goto C m0_272 ?_
        exact J266 _ (by trivial)
    intro w15 hJ266
    refine W.lstore C m0_314 (L' := [x0, x1, x2, x3, .val (.int p3), .val (.int p4), .val (.int p5), .val (.int n), x8, x9, x10, x11, x12, x13, x14, x15, x16, x17, x18, x19, .val (.int s0), .val (.int s1), .val (.int s2), .val (.int s3), .val (.int s4), .val (.ref a), .val (.int p4), .val (.int v14), .val (.long w15), .second, .unset, .unset]) rfl ?_
    refine W.lload C m0_316 rfl ?_
    refine W.iload C m0_318 rfl ?_
    refine W.bipush C m0_320 (z := (17 : Int32)) rfl ?_
    refine W.iushr C m0_322 rfl ?_
    refine W.iconst C m0_323 (z := (3 : Int32)) rfl ?_
    refine W.iand C m0_324 rfl ?_
    refine W.iconst C m0_325 (z := (1 : Int32)) rfl ?_
    refine W.isub C m0_326 rfl ?_
    refine W.i2l C m0_327 rfl ?_
    refine W.ladd C m0_328 rfl ?_
    generalize hv16 : (w15 + (((p3.toUInt32 >>> ((17 : Int32) &&& 31).toUInt32).toInt32 &&& (3 : Int32)) - (1 : Int32)).toInt64) = v16
    refine W.lstore C m0_329 (L' := [x0, x1, x2, x3, .val (.int p3), .val (.int p4), .val (.int p5), .val (.int n), x8, x9, x10, x11, x12, x13, x14, x15, x16, x17, x18, x19, .val (.int s0), .val (.int s1), .val (.int s2), .val (.int s3), .val (.int s4), .val (.ref a), .val (.int p4), .val (.int v14), .val (.long w15), .second, .val (.long v16), .second]) rfl ?_
    refine W.lload C m0_331 rfl ?_
    refine W.ldc2 C m0_333 (hw _ (List.mem_of_getElem? (i := 45) rfl)) ?_
    suffices J336 : ∀ (w17 : Int32), (True) → W κ n0 Qx h8 2 6 354 [x0, x1, x2, x3, .val (.int p3), .val (.int p4), .val (.int p5), .val (.int n), x8, x9, x10, x11, x12, x13, x14, x15, x16, x17, x18, x19, .val (.int s0), .val (.int s1), .val (.int s2), .val (.int s3), .val (.int s4), .val (.ref a), .val (.int w17), .val (.int v14), .val (.long w15), .second, .val (.long v16), .second] [] by
      refine W.lc C m0_336 m0_337 ?_ ?_
      · intro (h336 : v16.toInt < (-2147483648 : Int))
        exact J336 _ (by trivial)
      · intro (h336 : ¬ (v16.toInt < (-2147483648 : Int)))
        replace h336 : (-2147483648 : Int) ≤ v16.toInt := by omega
        refine W.lload C m0_340 rfl ?_
        refine W.ldc2 C m0_342 (hw _ (List.mem_of_getElem? (i := 2) rfl)) ?_
        refine W.lc C m0_345 m0_346 ?_ ?_
        · intro (h345 : (2147483647 : Int) < v16.toInt)
          exact J336 _ (by trivial)
        · intro (h345 : ¬ ((2147483647 : Int) < v16.toInt))
          replace h345 : v16.toInt ≤ (2147483647 : Int) := by omega
          refine W.lload C m0_349 rfl ?_
          refine W.l2i C m0_351 rfl ?_
          refine W.istore C m0_352 (L' := [x0, x1, x2, x3, .val (.int p3), .val (.int p4), .val (.int p5), .val (.int n), x8, x9, x10, x11, x12, x13, x14, x15, x16, x17, x18, x19, .val (.int s0), .val (.int s1), .val (.int s2), .val (.int s3), .val (.int s4), .val (.ref a), .val (.int v16.toInt32), .val (.int v14), .val (.long w15), .second, .val (.long v16), .second]) rfl ?_
          exact J336 _ (by trivial)
    intro w17 hJ336
    exact own_tl1b Z a0 hw n s0 s1 s2 s3 s4 w17 p5 a e h8 n0 hnn so0 so1 so2 so3 E2 F3 F4 A13 κ Qx hQ C
set_option maxRecDepth 65536 in
set_option maxHeartbeats 4000000 in
theorem own_tl2a (Z : State) (a0 : Array Value) (hw : ∀ d ∈ tables_1, d.before a0 Z = true) {x0 x1 x2 x3 x4 x5 x6 x8 x9 x10 x11 x12 x13 x14 x15 x16 x17 x18 x19 : Slot} (n s0 s1 s2 s3 s4 q p5 : Int32) (a e : Addr) (h : Heap) (n0 : Nat) (hnn : n.toInt = 2) (so0 : s0.toInt < s1.toInt) (so1 : s1.toInt < s2.toInt) (so2 : s2.toInt < s3.toInt) (so3 : s3.toInt < s4.toInt) (E0 : Exa Z h a "com/example/principal/principal/engine/Row") (F0 : Fld Z h a "com/example/principal/principal/engine/Row" "entries" "[I" (.ref e)) (F1 : Fld Z h a "com/example/principal/principal/engine/Row" "size" "I" (.int (2 : Int32))) (A0 : Av Z h e .int ([p5, s0, (p5 + (7919 : Int32)), s1].map Value.int))
    (κ : KT) (Qx : Option Value → Heap → Prop) (hQ : ∀ v h', v = some (.int 1) → Qx v h') (C : Good κ room_1 Z "com/example/principal/principal/engine/RowIndexOfStampPinLaw" "law" code 32 (some .boolean)) : W κ n0 Qx h 2 6 354 [x0, x1, x2, x3, x4, x5, x6, .val (.int n), x8, x9, x10, x11, x12, x13, x14, x15, x16, x17, x18, x19, .val (.int s0), .val (.int s1), .val (.int s2), .val (.int s3), .val (.int s4), .val (.ref a), .val (.int q), .unset, .unset, .unset, .unset, .unset] [] := by
  refine W.iconst C m0_354 (z := (0 : Int32)) rfl ?_
  refine W.istore C m0_355 (L' := [x0, x1, x2, x3, x4, x5, x6, .val (.int n), x8, x9, x10, x11, x12, x13, x14, x15, x16, x17, x18, x19, .val (.int s0), .val (.int s1), .val (.int s2), .val (.int s3), .val (.int s4), .val (.ref a), .val (.int q), .val (.int (0 : Int32)), .unset, .unset, .unset, .unset]) rfl ?_
  refine W.iload C m0_357 rfl ?_
  refine W.ifN C m0_359 (show ¬ (n.toInt ≤ (0 : Int)) from (by rw [hnn] <;> decide)) ?_
  refine W.iload C m0_362 rfl ?_
  refine W.iload C m0_364 rfl ?_
  suffices Jc0 : ∀ c0 : Int32, ((s0.toInt < q.toInt ∧ c0.toInt = (0 : Int) + 1) ∨ (q.toInt ≤ s0.toInt ∧ c0.toInt = (0 : Int))) → (0 ≤ c0.toInt ∧ c0.toInt ≤ 1) → W κ n0 Qx h 2 6 372 [x0, x1, x2, x3, x4, x5, x6, .val (.int n), x8, x9, x10, x11, x12, x13, x14, x15, x16, x17, x18, x19, .val (.int s0), .val (.int s1), .val (.int s2), .val (.int s3), .val (.int s4), .val (.ref a), .val (.int q), .val (.int c0), .unset, .unset, .unset, .unset] [] by
    refine W.icmp C m0_366 ?_ ?_
    · intro (hc : q.toInt ≤ s0.toInt)
      exact Jc0 _ (Or.inr ⟨hc, rfl⟩) ⟨by decide, by decide⟩
    · intro (hc : ¬ (q.toInt ≤ s0.toInt))
      refine W.iinc C m0_369 rfl (z := (1 : Int32)) rfl (L' := [x0, x1, x2, x3, x4, x5, x6, .val (.int n), x8, x9, x10, x11, x12, x13, x14, x15, x16, x17, x18, x19, .val (.int s0), .val (.int s1), .val (.int s2), .val (.int s3), .val (.int s4), .val (.ref a), .val (.int q), .val (.int (1 : Int32)), .unset, .unset, .unset, .unset]) rfl ?_
      exact Jc0 _ (Or.inl ⟨Int.not_le.mp hc, rfl⟩) ⟨by decide, by decide⟩
  intro c0 hc0 bc0
  refine W.iload C m0_372 rfl ?_
  refine W.iconst C m0_374 (z := (1 : Int32)) rfl ?_
  refine W.icmpN C m0_375 (show ¬ (n.toInt ≤ (1 : Int)) from (by rw [hnn] <;> decide)) ?_
  refine W.iload C m0_378 rfl ?_
  refine W.iload C m0_380 rfl ?_
  suffices Jc1 : ∀ c1 : Int32, ((s1.toInt < q.toInt ∧ c1.toInt = c0.toInt + 1) ∨ (q.toInt ≤ s1.toInt ∧ c1.toInt = c0.toInt)) → (0 ≤ c1.toInt ∧ c1.toInt ≤ 2) → W κ n0 Qx h 2 6 388 [x0, x1, x2, x3, x4, x5, x6, .val (.int n), x8, x9, x10, x11, x12, x13, x14, x15, x16, x17, x18, x19, .val (.int s0), .val (.int s1), .val (.int s2), .val (.int s3), .val (.int s4), .val (.ref a), .val (.int q), .val (.int c1), .unset, .unset, .unset, .unset] [] by
    refine W.icmp C m0_382 ?_ ?_
    · intro (hc : q.toInt ≤ s1.toInt)
      exact Jc1 _ (Or.inr ⟨hc, rfl⟩) (own_b 2 (by decide) bc0)
    · intro (hc : ¬ (q.toInt ≤ s1.toInt))
      refine W.iinc C m0_385 rfl (z := (c0 + (1 : Int32))) rfl (L' := [x0, x1, x2, x3, x4, x5, x6, .val (.int n), x8, x9, x10, x11, x12, x13, x14, x15, x16, x17, x18, x19, .val (.int s0), .val (.int s1), .val (.int s2), .val (.int s3), .val (.int s4), .val (.ref a), .val (.int q), .val (.int (c0 + (1 : Int32))), .unset, .unset, .unset, .unset]) rfl ?_
      have e1 := own_st 2 (by decide) (by decide) bc0
      exact Jc1 _ (Or.inl ⟨Int.not_le.mp hc, e1.1⟩) e1.2
  intro c1 hc1 bc1
  refine W.iload C m0_388 rfl ?_
  refine W.iconst C m0_390 (z := (2 : Int32)) rfl ?_
  refine W.icmpY C m0_391 (show n.toInt ≤ (2 : Int) from (by rw [hnn] <;> decide)) ?_
  refine W.iload C m0_404 rfl ?_
  refine W.iconst C m0_406 (z := (3 : Int32)) rfl ?_
  refine W.icmpY C m0_407 (show n.toInt ≤ (3 : Int) from (by rw [hnn] <;> decide)) ?_
  refine W.iload C m0_420 rfl ?_
  refine W.iconst C m0_422 (z := (4 : Int32)) rfl ?_
  refine W.icmpY C m0_423 (show n.toInt ≤ (4 : Int) from (by rw [hnn] <;> decide)) ?_
  refine W.aload C m0_436 rfl rfl ?_
  refine W.iload C m0_438 rfl ?_
  refine W.callV (y := mY3) (wt := 0) C m0_440 (hw _ (List.mem_of_getElem? (i := 15) rfl)) (hw _ (List.mem_of_getElem? (i := 16) rfl)) (hw _ (List.mem_of_getElem? (i := 18) rfl)) (hw _ (List.mem_of_getElem? (i := 17) rfl)) (hw _ (List.mem_of_getElem? (i := 5) rfl)) (hw _ (List.mem_of_getElem? (i := 19) rfl)) (by decide) E0 pd3 rfl (own_ix2 Z a0 hw a q e p5 s0 (p5 + (7919 : Int32)) s1 [] h n0 so0 F0 F1 A0) (as' := [(.int q)]) (rest := []) rfl rfl (Nat.le_of_eq rfl) (by decide) (by decide) (by decide) (by decide) ?_
  intro r4 h2 q3
  obtain ⟨rfl, r1, rfl, hr1⟩ := q3
  show W κ n0 Qx h 2 6 443 [x0, x1, x2, x3, x4, x5, x6, .val (.int n), x8, x9, x10, x11, x12, x13, x14, x15, x16, x17, x18, x19, .val (.int s0), .val (.int s1), .val (.int s2), .val (.int s3), .val (.int s4), .val (.ref a), .val (.int q), .val (.int c1), .unset, .unset, .unset, .unset] [(.int r1)]
  refine W.istore C m0_443 (L' := [x0, x1, x2, x3, x4, x5, x6, .val (.int n), x8, x9, x10, x11, x12, x13, x14, x15, x16, x17, x18, x19, .val (.int s0), .val (.int s1), .val (.int s2), .val (.int s3), .val (.int s4), .val (.ref a), .val (.int q), .val (.int c1), .val (.int r1), .unset, .unset, .unset]) rfl ?_
  refine W.iload C m0_445 rfl ?_
  refine W.iload C m0_447 rfl ?_
  refine W.icmp C m0_449 ?_ ?_
  · intro (h449 : ¬ r1.toInt = c1.toInt)
    refine W.iconst C m0_466 (z := (0 : Int32)) rfl ?_
    refine W.zreturn C m0_467 (hQ _ _ ?_)
    exfalso
    obtain ⟨r0, rk, j0, j1⟩ := hr1
    have m0 := own_m0 r0
    have m1 := own_cn 1 (by decide) hc0 j0 m0
    have m2 := own_cn 2 (by decide) hc1 j1 m1
    exact absurd (own_mk m2 rk) h449
  · intro (h449 : ¬ ¬ r1.toInt = c1.toInt)
    replace h449 := Decidable.not_not.mp h449
    refine W.aload C m0_452 rfl rfl ?_
    refine W.callV (y := mY4) (wt := 0) C m0_454 (hw _ (List.mem_of_getElem? (i := 22) rfl)) (hw _ (List.mem_of_getElem? (i := 23) rfl)) (hw _ (List.mem_of_getElem? (i := 25) rfl)) (hw _ (List.mem_of_getElem? (i := 24) rfl)) (hw _ (List.mem_of_getElem? (i := 5) rfl)) (hw _ (List.mem_of_getElem? (i := 26) rfl)) (by decide) E0 pd4 rfl (own_size Z a0 hw a (2 : Int32) h n0 F1) (as' := []) (rest := []) rfl rfl (Nat.le_of_eq rfl) (by decide) (by decide) (by decide) (by decide) ?_
    intro r7 h5 q6
    obtain ⟨rfl, rfl⟩ := q6
    show W κ n0 Qx h 2 6 457 [x0, x1, x2, x3, x4, x5, x6, .val (.int n), x8, x9, x10, x11, x12, x13, x14, x15, x16, x17, x18, x19, .val (.int s0), .val (.int s1), .val (.int s2), .val (.int s3), .val (.int s4), .val (.ref a), .val (.int q), .val (.int c1), .val (.int r1), .unset, .unset, .unset] [(.int (2 : Int32))]
    refine W.iload C m0_457 rfl ?_
    refine W.icmp C m0_459 ?_ ?_
    · intro (h459 : ¬ (2 : Int) = n.toInt)
      refine W.iconst C m0_466 (z := (0 : Int32)) rfl ?_
      refine W.zreturn C m0_467 (hQ _ _ ?_)
      exfalso
      exact absurd hnn.symm h459
    · intro (h459 : ¬ ¬ (2 : Int) = n.toInt)
      replace h459 := Decidable.not_not.mp h459
      refine W.iconst C m0_462 (z := (1 : Int32)) rfl ?_
      refine W.goto C m0_463 ?_
      refine W.zreturn C m0_467 (hQ _ _ ?_)
      exact rfl
set_option maxRecDepth 65536 in
set_option maxHeartbeats 4000000 in
theorem own_tl2b (Z : State) (a0 : Array Value) (hw : ∀ d ∈ tables_1, d.before a0 Z = true) {x0 x1 x2 x3 x4 x5 x6 x8 x9 x10 x11 x12 x13 x14 x15 x16 x17 x18 x19 : Slot} {j : Int32} {w28 w30 : Int64} (n s0 s1 s2 s3 s4 q p5 : Int32) (a e : Addr) (h : Heap) (n0 : Nat) (hnn : n.toInt = 2) (so0 : s0.toInt < s1.toInt) (so1 : s1.toInt < s2.toInt) (so2 : s2.toInt < s3.toInt) (so3 : s3.toInt < s4.toInt) (E0 : Exa Z h a "com/example/principal/principal/engine/Row") (F0 : Fld Z h a "com/example/principal/principal/engine/Row" "entries" "[I" (.ref e)) (F1 : Fld Z h a "com/example/principal/principal/engine/Row" "size" "I" (.int (2 : Int32))) (A0 : Av Z h e .int ([p5, s0, (p5 + (7919 : Int32)), s1].map Value.int))
    (κ : KT) (Qx : Option Value → Heap → Prop) (hQ : ∀ v h', v = some (.int 1) → Qx v h') (C : Good κ room_1 Z "com/example/principal/principal/engine/RowIndexOfStampPinLaw" "law" code 32 (some .boolean)) : W κ n0 Qx h 2 6 354 [x0, x1, x2, x3, x4, x5, x6, .val (.int n), x8, x9, x10, x11, x12, x13, x14, x15, x16, x17, x18, x19, .val (.int s0), .val (.int s1), .val (.int s2), .val (.int s3), .val (.int s4), .val (.ref a), .val (.int q), .val (.int j), .val (.long w28), .second, .val (.long w30), .second] [] := by
  refine W.iconst C m0_354 (z := (0 : Int32)) rfl ?_
  refine W.istore C m0_355 (L' := [x0, x1, x2, x3, x4, x5, x6, .val (.int n), x8, x9, x10, x11, x12, x13, x14, x15, x16, x17, x18, x19, .val (.int s0), .val (.int s1), .val (.int s2), .val (.int s3), .val (.int s4), .val (.ref a), .val (.int q), .val (.int (0 : Int32)), .val (.long w28), .second, .val (.long w30), .second]) rfl ?_
  refine W.iload C m0_357 rfl ?_
  refine W.ifN C m0_359 (show ¬ (n.toInt ≤ (0 : Int)) from (by rw [hnn] <;> decide)) ?_
  refine W.iload C m0_362 rfl ?_
  refine W.iload C m0_364 rfl ?_
  suffices Jc0 : ∀ c0 : Int32, ((s0.toInt < q.toInt ∧ c0.toInt = (0 : Int) + 1) ∨ (q.toInt ≤ s0.toInt ∧ c0.toInt = (0 : Int))) → (0 ≤ c0.toInt ∧ c0.toInt ≤ 1) → W κ n0 Qx h 2 6 372 [x0, x1, x2, x3, x4, x5, x6, .val (.int n), x8, x9, x10, x11, x12, x13, x14, x15, x16, x17, x18, x19, .val (.int s0), .val (.int s1), .val (.int s2), .val (.int s3), .val (.int s4), .val (.ref a), .val (.int q), .val (.int c0), .val (.long w28), .second, .val (.long w30), .second] [] by
    refine W.icmp C m0_366 ?_ ?_
    · intro (hc : q.toInt ≤ s0.toInt)
      exact Jc0 _ (Or.inr ⟨hc, rfl⟩) ⟨by decide, by decide⟩
    · intro (hc : ¬ (q.toInt ≤ s0.toInt))
      refine W.iinc C m0_369 rfl (z := (1 : Int32)) rfl (L' := [x0, x1, x2, x3, x4, x5, x6, .val (.int n), x8, x9, x10, x11, x12, x13, x14, x15, x16, x17, x18, x19, .val (.int s0), .val (.int s1), .val (.int s2), .val (.int s3), .val (.int s4), .val (.ref a), .val (.int q), .val (.int (1 : Int32)), .val (.long w28), .second, .val (.long w30), .second]) rfl ?_
      exact Jc0 _ (Or.inl ⟨Int.not_le.mp hc, rfl⟩) ⟨by decide, by decide⟩
  intro c0 hc0 bc0
  refine W.iload C m0_372 rfl ?_
  refine W.iconst C m0_374 (z := (1 : Int32)) rfl ?_
  refine W.icmpN C m0_375 (show ¬ (n.toInt ≤ (1 : Int)) from (by rw [hnn] <;> decide)) ?_
  refine W.iload C m0_378 rfl ?_
  refine W.iload C m0_380 rfl ?_
  suffices Jc1 : ∀ c1 : Int32, ((s1.toInt < q.toInt ∧ c1.toInt = c0.toInt + 1) ∨ (q.toInt ≤ s1.toInt ∧ c1.toInt = c0.toInt)) → (0 ≤ c1.toInt ∧ c1.toInt ≤ 2) → W κ n0 Qx h 2 6 388 [x0, x1, x2, x3, x4, x5, x6, .val (.int n), x8, x9, x10, x11, x12, x13, x14, x15, x16, x17, x18, x19, .val (.int s0), .val (.int s1), .val (.int s2), .val (.int s3), .val (.int s4), .val (.ref a), .val (.int q), .val (.int c1), .val (.long w28), .second, .val (.long w30), .second] [] by
    refine W.icmp C m0_382 ?_ ?_
    · intro (hc : q.toInt ≤ s1.toInt)
      exact Jc1 _ (Or.inr ⟨hc, rfl⟩) (own_b 2 (by decide) bc0)
    · intro (hc : ¬ (q.toInt ≤ s1.toInt))
      refine W.iinc C m0_385 rfl (z := (c0 + (1 : Int32))) rfl (L' := [x0, x1, x2, x3, x4, x5, x6, .val (.int n), x8, x9, x10, x11, x12, x13, x14, x15, x16, x17, x18, x19, .val (.int s0), .val (.int s1), .val (.int s2), .val (.int s3), .val (.int s4), .val (.ref a), .val (.int q), .val (.int (c0 + (1 : Int32))), .val (.long w28), .second, .val (.long w30), .second]) rfl ?_
      have e1 := own_st 2 (by decide) (by decide) bc0
      exact Jc1 _ (Or.inl ⟨Int.not_le.mp hc, e1.1⟩) e1.2
  intro c1 hc1 bc1
  refine W.iload C m0_388 rfl ?_
  refine W.iconst C m0_390 (z := (2 : Int32)) rfl ?_
  refine W.icmpY C m0_391 (show n.toInt ≤ (2 : Int) from (by rw [hnn] <;> decide)) ?_
  refine W.iload C m0_404 rfl ?_
  refine W.iconst C m0_406 (z := (3 : Int32)) rfl ?_
  refine W.icmpY C m0_407 (show n.toInt ≤ (3 : Int) from (by rw [hnn] <;> decide)) ?_
  refine W.iload C m0_420 rfl ?_
  refine W.iconst C m0_422 (z := (4 : Int32)) rfl ?_
  refine W.icmpY C m0_423 (show n.toInt ≤ (4 : Int) from (by rw [hnn] <;> decide)) ?_
  refine W.aload C m0_436 rfl rfl ?_
  refine W.iload C m0_438 rfl ?_
  refine W.callV (y := mY3) (wt := 0) C m0_440 (hw _ (List.mem_of_getElem? (i := 15) rfl)) (hw _ (List.mem_of_getElem? (i := 16) rfl)) (hw _ (List.mem_of_getElem? (i := 18) rfl)) (hw _ (List.mem_of_getElem? (i := 17) rfl)) (hw _ (List.mem_of_getElem? (i := 5) rfl)) (hw _ (List.mem_of_getElem? (i := 19) rfl)) (by decide) E0 pd3 rfl (own_ix2 Z a0 hw a q e p5 s0 (p5 + (7919 : Int32)) s1 [] h n0 so0 F0 F1 A0) (as' := [(.int q)]) (rest := []) rfl rfl (Nat.le_of_eq rfl) (by decide) (by decide) (by decide) (by decide) ?_
  intro r4 h2 q3
  obtain ⟨rfl, r1, rfl, hr1⟩ := q3
  show W κ n0 Qx h 2 6 443 [x0, x1, x2, x3, x4, x5, x6, .val (.int n), x8, x9, x10, x11, x12, x13, x14, x15, x16, x17, x18, x19, .val (.int s0), .val (.int s1), .val (.int s2), .val (.int s3), .val (.int s4), .val (.ref a), .val (.int q), .val (.int c1), .val (.long w28), .second, .val (.long w30), .second] [(.int r1)]
  refine W.istore C m0_443 (L' := [x0, x1, x2, x3, x4, x5, x6, .val (.int n), x8, x9, x10, x11, x12, x13, x14, x15, x16, x17, x18, x19, .val (.int s0), .val (.int s1), .val (.int s2), .val (.int s3), .val (.int s4), .val (.ref a), .val (.int q), .val (.int c1), .val (.int r1), .unset, .val (.long w30), .second]) rfl ?_
  refine W.iload C m0_445 rfl ?_
  refine W.iload C m0_447 rfl ?_
  refine W.icmp C m0_449 ?_ ?_
  · intro (h449 : ¬ r1.toInt = c1.toInt)
    refine W.iconst C m0_466 (z := (0 : Int32)) rfl ?_
    refine W.zreturn C m0_467 (hQ _ _ ?_)
    exfalso
    obtain ⟨r0, rk, j0, j1⟩ := hr1
    have m0 := own_m0 r0
    have m1 := own_cn 1 (by decide) hc0 j0 m0
    have m2 := own_cn 2 (by decide) hc1 j1 m1
    exact absurd (own_mk m2 rk) h449
  · intro (h449 : ¬ ¬ r1.toInt = c1.toInt)
    replace h449 := Decidable.not_not.mp h449
    refine W.aload C m0_452 rfl rfl ?_
    refine W.callV (y := mY4) (wt := 0) C m0_454 (hw _ (List.mem_of_getElem? (i := 22) rfl)) (hw _ (List.mem_of_getElem? (i := 23) rfl)) (hw _ (List.mem_of_getElem? (i := 25) rfl)) (hw _ (List.mem_of_getElem? (i := 24) rfl)) (hw _ (List.mem_of_getElem? (i := 5) rfl)) (hw _ (List.mem_of_getElem? (i := 26) rfl)) (by decide) E0 pd4 rfl (own_size Z a0 hw a (2 : Int32) h n0 F1) (as' := []) (rest := []) rfl rfl (Nat.le_of_eq rfl) (by decide) (by decide) (by decide) (by decide) ?_
    intro r7 h5 q6
    obtain ⟨rfl, rfl⟩ := q6
    show W κ n0 Qx h 2 6 457 [x0, x1, x2, x3, x4, x5, x6, .val (.int n), x8, x9, x10, x11, x12, x13, x14, x15, x16, x17, x18, x19, .val (.int s0), .val (.int s1), .val (.int s2), .val (.int s3), .val (.int s4), .val (.ref a), .val (.int q), .val (.int c1), .val (.int r1), .unset, .val (.long w30), .second] [(.int (2 : Int32))]
    refine W.iload C m0_457 rfl ?_
    refine W.icmp C m0_459 ?_ ?_
    · intro (h459 : ¬ (2 : Int) = n.toInt)
      refine W.iconst C m0_466 (z := (0 : Int32)) rfl ?_
      refine W.zreturn C m0_467 (hQ _ _ ?_)
      exfalso
      exact absurd hnn.symm h459
    · intro (h459 : ¬ ¬ (2 : Int) = n.toInt)
      replace h459 := Decidable.not_not.mp h459
      refine W.iconst C m0_462 (z := (1 : Int32)) rfl ?_
      refine W.goto C m0_463 ?_
      refine W.zreturn C m0_467 (hQ _ _ ?_)
      exact rfl
set_option maxRecDepth 65536 in
set_option maxHeartbeats 4000000 in
theorem own_cs2 (Z : State) (a0 : Array Value) (hw : ∀ d ∈ tables_1, d.before a0 Z = true) {x0 x1 x2 x3 x8 x9 x10 x11 x12 x13 x14 x15 x16 x17 x18 x19 : Slot} (p3 p4 p5 n s0 s1 s2 s3 s4 : Int32) (a e : Addr) (h : Heap) (n0 : Nat) (hnn : n.toInt = 2) (so0 : s0.toInt < s1.toInt) (so1 : s1.toInt < s2.toInt) (so2 : s2.toInt < s3.toInt) (so3 : s3.toInt < s4.toInt) (z0 : n0 ≤ h.size) (g0 : n0 ≤ a) (g1 : n0 ≤ e) (hae : a ≠ e) (E0 : Exa Z h a "com/example/principal/principal/engine/Row") (F0 : Fld Z h a "com/example/principal/principal/engine/Row" "entries" "[I" (.ref e)) (F1 : Fld Z h a "com/example/principal/principal/engine/Row" "size" "I" (.int (0 : Int32))) (A0 : Av Z h e .int ([(0 : Int32), (0 : Int32), (0 : Int32), (0 : Int32)].map Value.int))
    (κ : KT) (Qx : Option Value → Heap → Prop) (hQ : ∀ v h', v = some (.int 1) → Qx v h') (C : Good κ room_1 Z "com/example/principal/principal/engine/RowIndexOfStampPinLaw" "law" code 32 (some .boolean)) : W κ n0 Qx h 2 6 146 [x0, x1, x2, x3, .val (.int p3), .val (.int p4), .val (.int p5), .val (.int n), x8, x9, x10, x11, x12, x13, x14, x15, x16, x17, x18, x19, .val (.int s0), .val (.int s1), .val (.int s2), .val (.int s3), .val (.int s4), .val (.ref a), .unset, .unset, .unset, .unset, .unset, .unset] [] := by
  refine W.iload C m0_146 rfl ?_
  refine W.ifN C m0_148 (show ¬ (n.toInt ≤ (0 : Int)) from (by rw [hnn] <;> decide)) ?_
  refine W.aload C m0_151 rfl rfl ?_
  refine W.iload C m0_153 rfl ?_
  refine W.iload C m0_155 rfl ?_
  refine W.callV (y := mY5) (wt := 0) C m0_157 (hw _ (List.mem_of_getElem? (i := 27) rfl)) (hw _ (List.mem_of_getElem? (i := 28) rfl)) (hw _ (List.mem_of_getElem? (i := 30) rfl)) (hw _ (List.mem_of_getElem? (i := 29) rfl)) (hw _ (List.mem_of_getElem? (i := 5) rfl)) (hw _ (List.mem_of_getElem? (i := 31) rfl)) (by decide) E0 pd5 rfl (own_ad Z a0 hw a p5 s0 e (0 : Int32) (1 : Int32) 0 [(0 : Int32), (0 : Int32), (0 : Int32), (0 : Int32)] h n0 z0 g0 E0 F0 F1 A0 rfl rfl hae g1 (Nat.le_of_ble_eq_true rfl) (Nat.le_of_ble_eq_true rfl)) (as' := [(.int p5), (.int s0)]) (rest := []) rfl rfl (Nat.le_of_eq rfl) (by decide) (by decide) (by decide) (by decide) ?_
  intro r10 h8 q9
  obtain ⟨rfl, K1, E2, F3, F4, A5⟩ := q9
  have E11 := E0.keep K1
  have z12 : n0 ≤ h8.size := Nat.le_trans z0 K1.1
  have A13 : Av Z h8 e .int ([p5, s0, (0 : Int32), (0 : Int32)].map Value.int) := A5
  show W κ n0 Qx h8 2 6 160 [x0, x1, x2, x3, .val (.int p3), .val (.int p4), .val (.int p5), .val (.int n), x8, x9, x10, x11, x12, x13, x14, x15, x16, x17, x18, x19, .val (.int s0), .val (.int s1), .val (.int s2), .val (.int s3), .val (.int s4), .val (.ref a), .unset, .unset, .unset, .unset, .unset, .unset] []
  refine W.iload C m0_160 rfl ?_
  refine W.iconst C m0_162 (z := (1 : Int32)) rfl ?_
  refine W.icmpN C m0_163 (show ¬ (n.toInt ≤ (1 : Int)) from (by rw [hnn] <;> decide)) ?_
  refine W.aload C m0_166 rfl rfl ?_
  refine W.iload C m0_168 rfl ?_
  refine W.sipush C m0_170 (z := (7919 : Int32)) rfl ?_
  refine W.iadd C m0_173 rfl ?_
  refine W.iload C m0_174 rfl ?_
  refine W.callV (y := mY5) (wt := 0) C m0_176 (hw _ (List.mem_of_getElem? (i := 27) rfl)) (hw _ (List.mem_of_getElem? (i := 28) rfl)) (hw _ (List.mem_of_getElem? (i := 30) rfl)) (hw _ (List.mem_of_getElem? (i := 29) rfl)) (hw _ (List.mem_of_getElem? (i := 5) rfl)) (hw _ (List.mem_of_getElem? (i := 31) rfl)) (by decide) E2 pd5 rfl (own_ad Z a0 hw a (p5 + (7919 : Int32)) s1 e (1 : Int32) (2 : Int32) 1 [p5, s0, (0 : Int32), (0 : Int32)] h8 n0 z12 g0 E2 F3 F4 A13 rfl rfl hae g1 (Nat.le_of_ble_eq_true rfl) (Nat.le_of_ble_eq_true rfl)) (as' := [(.int (p5 + (7919 : Int32))), (.int s1)]) (rest := []) rfl rfl (Nat.le_of_eq rfl) (by decide) (by decide) (by decide) (by decide) ?_
  intro r23 h21 q22
  obtain ⟨rfl, K14, E15, F16, F17, A18⟩ := q22
  have E24 := E2.keep K14
  have z25 : n0 ≤ h21.size := Nat.le_trans z12 K14.1
  have A26 : Av Z h21 e .int ([p5, s0, (p5 + (7919 : Int32)), s1].map Value.int) := A18
  show W κ n0 Qx h21 2 6 179 [x0, x1, x2, x3, .val (.int p3), .val (.int p4), .val (.int p5), .val (.int n), x8, x9, x10, x11, x12, x13, x14, x15, x16, x17, x18, x19, .val (.int s0), .val (.int s1), .val (.int s2), .val (.int s3), .val (.int s4), .val (.ref a), .unset, .unset, .unset, .unset, .unset, .unset] []
  refine W.iload C m0_179 rfl ?_
  refine W.iconst C m0_181 (z := (2 : Int32)) rfl ?_
  refine W.icmpY C m0_182 (show n.toInt ≤ (2 : Int) from (by rw [hnn] <;> decide)) ?_
  refine W.iload C m0_198 rfl ?_
  refine W.iconst C m0_200 (z := (3 : Int32)) rfl ?_
  refine W.icmpY C m0_201 (show n.toInt ≤ (3 : Int) from (by rw [hnn] <;> decide)) ?_
  refine W.iload C m0_217 rfl ?_
  refine W.iconst C m0_219 (z := (4 : Int32)) rfl ?_
  refine W.icmpY C m0_220 (show n.toInt ≤ (4 : Int) from (by rw [hnn] <;> decide)) ?_
  refine W.iload C m0_236 rfl ?_
  refine W.istore C m0_238 (L' := [x0, x1, x2, x3, .val (.int p3), .val (.int p4), .val (.int p5), .val (.int n), x8, x9, x10, x11, x12, x13, x14, x15, x16, x17, x18, x19, .val (.int s0), .val (.int s1), .val (.int s2), .val (.int s3), .val (.int s4), .val (.ref a), .val (.int p4), .unset, .unset, .unset, .unset, .unset]) rfl ?_
  refine W.iload C m0_240 rfl ?_
  refine W.iconst C m0_242 (z := (1 : Int32)) rfl ?_
  refine W.iand C m0_243 rfl ?_
  refine W.ifc C m0_244 ?_ ?_
  · intro (h244 : ¬ ((p3 &&& (1 : Int32))).toInt = (0 : Int))
    exact own_tl2a Z a0 hw n s0 s1 s2 s3 s4 p4 p5 a e h21 n0 hnn so0 so1 so2 so3 E15 F16 F17 A26 κ Qx hQ C
  · intro (h244 : ¬ ¬ ((p3 &&& (1 : Int32))).toInt = (0 : Int))
    replace h244 := Decidable.not_not.mp h244
    refine W.iload C m0_247 rfl ?_
    refine W.ifN C m0_249 (show ¬ (n.toInt ≤ (0 : Int)) from (by rw [hnn] <;> decide)) ?_
    refine W.iload C m0_252 rfl ?_
    refine W.iconst C m0_254 (z := (1 : Int32)) rfl ?_
    refine W.iushr C m0_255 rfl ?_
    refine W.ldc C m0_256 (hw _ (List.mem_of_getElem? (i := 44) rfl)) ?_
    refine W.iand C m0_258 rfl ?_
    refine W.iload C m0_259 rfl ?_
    refine W.irem C m0_261 (fun e => by rw [e] at hnn; exact absurd hnn (by decide)) rfl ?_
    generalize hv27 : (((p3.toUInt32 >>> ((1 : Int32) &&& 31).toUInt32).toInt32 &&& (65535 : Int32)) % n) = v27
    refine W.istore C m0_262 (L' := [x0, x1, x2, x3, .val (.int p3), .val (.int p4), .val (.int p5), .val (.int n), x8, x9, x10, x11, x12, x13, x14, x15, x16, x17, x18, x19, .val (.int s0), .val (.int s1), .val (.int s2), .val (.int s3), .val (.int s4), .val (.ref a), .val (.int p4), .val (.int v27), .unset, .unset, .unset, .unset]) rfl ?_
    refine W.iload C m0_264 rfl ?_
    suffices J266 : ∀ (w28 : Int64), (True) → W κ n0 Qx h21 2 6 314 [x0, x1, x2, x3, .val (.int p3), .val (.int p4), .val (.int p5), .val (.int n), x8, x9, x10, x11, x12, x13, x14, x15, x16, x17, x18, x19, .val (.int s0), .val (.int s1), .val (.int s2), .val (.int s3), .val (.int s4), .val (.ref a), .val (.int p4), .val (.int v27), .unset, .unset, .unset, .unset] [(.long w28)] by
      refine W.ifc C m0_266 ?_ ?_
      · intro (h266 : ¬ v27.toInt = (0 : Int))
        refine W.iload C m0_275 rfl ?_
        refine W.iconst C m0_277 (z := (1 : Int32)) rfl ?_
        refine W.icmp C m0_278 ?_ ?_
        · intro (h278 : ¬ v27.toInt = (1 : Int))
          refine W.iload C m0_287 rfl ?_
          refine W.iconst C m0_289 (z := (2 : Int32)) rfl ?_
          refine W.icmp C m0_290 ?_ ?_
          · intro (h290 : ¬ v27.toInt = (2 : Int))
            refine W.iload C m0_299 rfl ?_
            refine W.iconst C m0_301 (z := (3 : Int32)) rfl ?_
            refine W.icmp C m0_302 ?_ ?_
            · intro (h302 : ¬ v27.toInt = (3 : Int))
              refine W.iload C m0_311 rfl ?_
              refine W.i2l C m0_313 rfl ?_
              exact J266 _ (by trivial)
            · intro (h302 : ¬ ¬ v27.toInt = (3 : Int))
              replace h302 := Decidable.not_not.mp h302
              refine W.iload C m0_305 rfl ?_
              refine W.i2l C m0_307 rfl ?_
              refine W.goto C m0_308 ?_
              exact J266 _ (by trivial)
          · intro (h290 : ¬ ¬ v27.toInt = (2 : Int))
            replace h290 := Decidable.not_not.mp h290
            refine W.iload C m0_293 rfl ?_
            refine W.i2l C m0_295 rfl ?_
            refine W.goto C m0_296 ?_
            exact J266 _ (by trivial)
        · intro (h278 : ¬ ¬ v27.toInt = (1 : Int))
          replace h278 := Decidable.not_not.mp h278
          refine W.iload C m0_281 rfl ?_
          refine W.i2l C m0_283 rfl ?_
          refine W.goto C m0_284 ?_
          exact J266 _ (by trivial)
      · intro (h266 : ¬ ¬ v27.toInt = (0 : Int))
        replace h266 := Decidable.not_not.mp h266
        refine W.iload C m0_269 rfl ?_
        refine W.i2l C m0_271 rfl ?_
        refine W.goto C m0_272 ?_
        exact J266 _ (by trivial)
    intro w28 hJ266
    refine W.lstore C m0_314 (L' := [x0, x1, x2, x3, .val (.int p3), .val (.int p4), .val (.int p5), .val (.int n), x8, x9, x10, x11, x12, x13, x14, x15, x16, x17, x18, x19, .val (.int s0), .val (.int s1), .val (.int s2), .val (.int s3), .val (.int s4), .val (.ref a), .val (.int p4), .val (.int v27), .val (.long w28), .second, .unset, .unset]) rfl ?_
    refine W.lload C m0_316 rfl ?_
    refine W.iload C m0_318 rfl ?_
    refine W.bipush C m0_320 (z := (17 : Int32)) rfl ?_
    refine W.iushr C m0_322 rfl ?_
    refine W.iconst C m0_323 (z := (3 : Int32)) rfl ?_
    refine W.iand C m0_324 rfl ?_
    refine W.iconst C m0_325 (z := (1 : Int32)) rfl ?_
    refine W.isub C m0_326 rfl ?_
    refine W.i2l C m0_327 rfl ?_
    refine W.ladd C m0_328 rfl ?_
    generalize hv29 : (w28 + (((p3.toUInt32 >>> ((17 : Int32) &&& 31).toUInt32).toInt32 &&& (3 : Int32)) - (1 : Int32)).toInt64) = v29
    refine W.lstore C m0_329 (L' := [x0, x1, x2, x3, .val (.int p3), .val (.int p4), .val (.int p5), .val (.int n), x8, x9, x10, x11, x12, x13, x14, x15, x16, x17, x18, x19, .val (.int s0), .val (.int s1), .val (.int s2), .val (.int s3), .val (.int s4), .val (.ref a), .val (.int p4), .val (.int v27), .val (.long w28), .second, .val (.long v29), .second]) rfl ?_
    refine W.lload C m0_331 rfl ?_
    refine W.ldc2 C m0_333 (hw _ (List.mem_of_getElem? (i := 45) rfl)) ?_
    suffices J336 : ∀ (w30 : Int32), (True) → W κ n0 Qx h21 2 6 354 [x0, x1, x2, x3, .val (.int p3), .val (.int p4), .val (.int p5), .val (.int n), x8, x9, x10, x11, x12, x13, x14, x15, x16, x17, x18, x19, .val (.int s0), .val (.int s1), .val (.int s2), .val (.int s3), .val (.int s4), .val (.ref a), .val (.int w30), .val (.int v27), .val (.long w28), .second, .val (.long v29), .second] [] by
      refine W.lc C m0_336 m0_337 ?_ ?_
      · intro (h336 : v29.toInt < (-2147483648 : Int))
        exact J336 _ (by trivial)
      · intro (h336 : ¬ (v29.toInt < (-2147483648 : Int)))
        replace h336 : (-2147483648 : Int) ≤ v29.toInt := by omega
        refine W.lload C m0_340 rfl ?_
        refine W.ldc2 C m0_342 (hw _ (List.mem_of_getElem? (i := 2) rfl)) ?_
        refine W.lc C m0_345 m0_346 ?_ ?_
        · intro (h345 : (2147483647 : Int) < v29.toInt)
          exact J336 _ (by trivial)
        · intro (h345 : ¬ ((2147483647 : Int) < v29.toInt))
          replace h345 : v29.toInt ≤ (2147483647 : Int) := by omega
          refine W.lload C m0_349 rfl ?_
          refine W.l2i C m0_351 rfl ?_
          refine W.istore C m0_352 (L' := [x0, x1, x2, x3, .val (.int p3), .val (.int p4), .val (.int p5), .val (.int n), x8, x9, x10, x11, x12, x13, x14, x15, x16, x17, x18, x19, .val (.int s0), .val (.int s1), .val (.int s2), .val (.int s3), .val (.int s4), .val (.ref a), .val (.int v29.toInt32), .val (.int v27), .val (.long w28), .second, .val (.long v29), .second]) rfl ?_
          exact J336 _ (by trivial)
    intro w30 hJ336
    exact own_tl2b Z a0 hw n s0 s1 s2 s3 s4 w30 p5 a e h21 n0 hnn so0 so1 so2 so3 E15 F16 F17 A26 κ Qx hQ C
set_option maxRecDepth 65536 in
set_option maxHeartbeats 4000000 in
theorem own_tl3a (Z : State) (a0 : Array Value) (hw : ∀ d ∈ tables_1, d.before a0 Z = true) {x0 x1 x2 x3 x4 x5 x6 x8 x9 x10 x11 x12 x13 x14 x15 x16 x17 x18 x19 : Slot} (n s0 s1 s2 s3 s4 q p5 : Int32) (a e : Addr) (h : Heap) (n0 : Nat) (hnn : n.toInt = 3) (so0 : s0.toInt < s1.toInt) (so1 : s1.toInt < s2.toInt) (so2 : s2.toInt < s3.toInt) (so3 : s3.toInt < s4.toInt) (E0 : Exa Z h a "com/example/principal/principal/engine/Row") (F0 : Fld Z h a "com/example/principal/principal/engine/Row" "entries" "[I" (.ref e)) (F1 : Fld Z h a "com/example/principal/principal/engine/Row" "size" "I" (.int (3 : Int32))) (A0 : Av Z h e .int ([p5, s0, (p5 + (7919 : Int32)), s1, (p5 + (15838 : Int32)), s2, (0 : Int32), (0 : Int32)].map Value.int))
    (κ : KT) (Qx : Option Value → Heap → Prop) (hQ : ∀ v h', v = some (.int 1) → Qx v h') (C : Good κ room_1 Z "com/example/principal/principal/engine/RowIndexOfStampPinLaw" "law" code 32 (some .boolean)) : W κ n0 Qx h 3 22 354 [x0, x1, x2, x3, x4, x5, x6, .val (.int n), x8, x9, x10, x11, x12, x13, x14, x15, x16, x17, x18, x19, .val (.int s0), .val (.int s1), .val (.int s2), .val (.int s3), .val (.int s4), .val (.ref a), .val (.int q), .unset, .unset, .unset, .unset, .unset] [] := by
  refine W.iconst C m0_354 (z := (0 : Int32)) rfl ?_
  refine W.istore C m0_355 (L' := [x0, x1, x2, x3, x4, x5, x6, .val (.int n), x8, x9, x10, x11, x12, x13, x14, x15, x16, x17, x18, x19, .val (.int s0), .val (.int s1), .val (.int s2), .val (.int s3), .val (.int s4), .val (.ref a), .val (.int q), .val (.int (0 : Int32)), .unset, .unset, .unset, .unset]) rfl ?_
  refine W.iload C m0_357 rfl ?_
  refine W.ifN C m0_359 (show ¬ (n.toInt ≤ (0 : Int)) from (by rw [hnn] <;> decide)) ?_
  refine W.iload C m0_362 rfl ?_
  refine W.iload C m0_364 rfl ?_
  suffices Jc0 : ∀ c0 : Int32, ((s0.toInt < q.toInt ∧ c0.toInt = (0 : Int) + 1) ∨ (q.toInt ≤ s0.toInt ∧ c0.toInt = (0 : Int))) → (0 ≤ c0.toInt ∧ c0.toInt ≤ 1) → W κ n0 Qx h 3 22 372 [x0, x1, x2, x3, x4, x5, x6, .val (.int n), x8, x9, x10, x11, x12, x13, x14, x15, x16, x17, x18, x19, .val (.int s0), .val (.int s1), .val (.int s2), .val (.int s3), .val (.int s4), .val (.ref a), .val (.int q), .val (.int c0), .unset, .unset, .unset, .unset] [] by
    refine W.icmp C m0_366 ?_ ?_
    · intro (hc : q.toInt ≤ s0.toInt)
      exact Jc0 _ (Or.inr ⟨hc, rfl⟩) ⟨by decide, by decide⟩
    · intro (hc : ¬ (q.toInt ≤ s0.toInt))
      refine W.iinc C m0_369 rfl (z := (1 : Int32)) rfl (L' := [x0, x1, x2, x3, x4, x5, x6, .val (.int n), x8, x9, x10, x11, x12, x13, x14, x15, x16, x17, x18, x19, .val (.int s0), .val (.int s1), .val (.int s2), .val (.int s3), .val (.int s4), .val (.ref a), .val (.int q), .val (.int (1 : Int32)), .unset, .unset, .unset, .unset]) rfl ?_
      exact Jc0 _ (Or.inl ⟨Int.not_le.mp hc, rfl⟩) ⟨by decide, by decide⟩
  intro c0 hc0 bc0
  refine W.iload C m0_372 rfl ?_
  refine W.iconst C m0_374 (z := (1 : Int32)) rfl ?_
  refine W.icmpN C m0_375 (show ¬ (n.toInt ≤ (1 : Int)) from (by rw [hnn] <;> decide)) ?_
  refine W.iload C m0_378 rfl ?_
  refine W.iload C m0_380 rfl ?_
  suffices Jc1 : ∀ c1 : Int32, ((s1.toInt < q.toInt ∧ c1.toInt = c0.toInt + 1) ∨ (q.toInt ≤ s1.toInt ∧ c1.toInt = c0.toInt)) → (0 ≤ c1.toInt ∧ c1.toInt ≤ 2) → W κ n0 Qx h 3 22 388 [x0, x1, x2, x3, x4, x5, x6, .val (.int n), x8, x9, x10, x11, x12, x13, x14, x15, x16, x17, x18, x19, .val (.int s0), .val (.int s1), .val (.int s2), .val (.int s3), .val (.int s4), .val (.ref a), .val (.int q), .val (.int c1), .unset, .unset, .unset, .unset] [] by
    refine W.icmp C m0_382 ?_ ?_
    · intro (hc : q.toInt ≤ s1.toInt)
      exact Jc1 _ (Or.inr ⟨hc, rfl⟩) (own_b 2 (by decide) bc0)
    · intro (hc : ¬ (q.toInt ≤ s1.toInt))
      refine W.iinc C m0_385 rfl (z := (c0 + (1 : Int32))) rfl (L' := [x0, x1, x2, x3, x4, x5, x6, .val (.int n), x8, x9, x10, x11, x12, x13, x14, x15, x16, x17, x18, x19, .val (.int s0), .val (.int s1), .val (.int s2), .val (.int s3), .val (.int s4), .val (.ref a), .val (.int q), .val (.int (c0 + (1 : Int32))), .unset, .unset, .unset, .unset]) rfl ?_
      have e1 := own_st 2 (by decide) (by decide) bc0
      exact Jc1 _ (Or.inl ⟨Int.not_le.mp hc, e1.1⟩) e1.2
  intro c1 hc1 bc1
  refine W.iload C m0_388 rfl ?_
  refine W.iconst C m0_390 (z := (2 : Int32)) rfl ?_
  refine W.icmpN C m0_391 (show ¬ (n.toInt ≤ (2 : Int)) from (by rw [hnn] <;> decide)) ?_
  refine W.iload C m0_394 rfl ?_
  refine W.iload C m0_396 rfl ?_
  suffices Jc2 : ∀ c2 : Int32, ((s2.toInt < q.toInt ∧ c2.toInt = c1.toInt + 1) ∨ (q.toInt ≤ s2.toInt ∧ c2.toInt = c1.toInt)) → (0 ≤ c2.toInt ∧ c2.toInt ≤ 3) → W κ n0 Qx h 3 22 404 [x0, x1, x2, x3, x4, x5, x6, .val (.int n), x8, x9, x10, x11, x12, x13, x14, x15, x16, x17, x18, x19, .val (.int s0), .val (.int s1), .val (.int s2), .val (.int s3), .val (.int s4), .val (.ref a), .val (.int q), .val (.int c2), .unset, .unset, .unset, .unset] [] by
    refine W.icmp C m0_398 ?_ ?_
    · intro (hc : q.toInt ≤ s2.toInt)
      exact Jc2 _ (Or.inr ⟨hc, rfl⟩) (own_b 3 (by decide) bc1)
    · intro (hc : ¬ (q.toInt ≤ s2.toInt))
      refine W.iinc C m0_401 rfl (z := (c1 + (1 : Int32))) rfl (L' := [x0, x1, x2, x3, x4, x5, x6, .val (.int n), x8, x9, x10, x11, x12, x13, x14, x15, x16, x17, x18, x19, .val (.int s0), .val (.int s1), .val (.int s2), .val (.int s3), .val (.int s4), .val (.ref a), .val (.int q), .val (.int (c1 + (1 : Int32))), .unset, .unset, .unset, .unset]) rfl ?_
      have e1 := own_st 3 (by decide) (by decide) bc1
      exact Jc2 _ (Or.inl ⟨Int.not_le.mp hc, e1.1⟩) e1.2
  intro c2 hc2 bc2
  refine W.iload C m0_404 rfl ?_
  refine W.iconst C m0_406 (z := (3 : Int32)) rfl ?_
  refine W.icmpY C m0_407 (show n.toInt ≤ (3 : Int) from (by rw [hnn] <;> decide)) ?_
  refine W.iload C m0_420 rfl ?_
  refine W.iconst C m0_422 (z := (4 : Int32)) rfl ?_
  refine W.icmpY C m0_423 (show n.toInt ≤ (4 : Int) from (by rw [hnn] <;> decide)) ?_
  refine W.aload C m0_436 rfl rfl ?_
  refine W.iload C m0_438 rfl ?_
  refine W.callV (y := mY3) (wt := 0) C m0_440 (hw _ (List.mem_of_getElem? (i := 15) rfl)) (hw _ (List.mem_of_getElem? (i := 16) rfl)) (hw _ (List.mem_of_getElem? (i := 18) rfl)) (hw _ (List.mem_of_getElem? (i := 17) rfl)) (hw _ (List.mem_of_getElem? (i := 5) rfl)) (hw _ (List.mem_of_getElem? (i := 19) rfl)) (by decide) E0 pd3 rfl (own_ix3 Z a0 hw a q e p5 s0 (p5 + (7919 : Int32)) s1 (p5 + (15838 : Int32)) s2 [(0 : Int32), (0 : Int32)] h n0 so0 so1 F0 F1 A0) (as' := [(.int q)]) (rest := []) rfl rfl (Nat.le_of_eq rfl) (by decide) (by decide) (by decide) (by decide) ?_
  intro r4 h2 q3
  obtain ⟨rfl, r1, rfl, hr1⟩ := q3
  show W κ n0 Qx h 3 22 443 [x0, x1, x2, x3, x4, x5, x6, .val (.int n), x8, x9, x10, x11, x12, x13, x14, x15, x16, x17, x18, x19, .val (.int s0), .val (.int s1), .val (.int s2), .val (.int s3), .val (.int s4), .val (.ref a), .val (.int q), .val (.int c2), .unset, .unset, .unset, .unset] [(.int r1)]
  refine W.istore C m0_443 (L' := [x0, x1, x2, x3, x4, x5, x6, .val (.int n), x8, x9, x10, x11, x12, x13, x14, x15, x16, x17, x18, x19, .val (.int s0), .val (.int s1), .val (.int s2), .val (.int s3), .val (.int s4), .val (.ref a), .val (.int q), .val (.int c2), .val (.int r1), .unset, .unset, .unset]) rfl ?_
  refine W.iload C m0_445 rfl ?_
  refine W.iload C m0_447 rfl ?_
  refine W.icmp C m0_449 ?_ ?_
  · intro (h449 : ¬ r1.toInt = c2.toInt)
    refine W.iconst C m0_466 (z := (0 : Int32)) rfl ?_
    refine W.zreturn C m0_467 (hQ _ _ ?_)
    exfalso
    obtain ⟨r0, rk, j0, j1, j2⟩ := hr1
    have m0 := own_m0 r0
    have m1 := own_cn 1 (by decide) hc0 j0 m0
    have m2 := own_cn 2 (by decide) hc1 j1 m1
    have m3 := own_cn 3 (by decide) hc2 j2 m2
    exact absurd (own_mk m3 rk) h449
  · intro (h449 : ¬ ¬ r1.toInt = c2.toInt)
    replace h449 := Decidable.not_not.mp h449
    refine W.aload C m0_452 rfl rfl ?_
    refine W.callV (y := mY4) (wt := 0) C m0_454 (hw _ (List.mem_of_getElem? (i := 22) rfl)) (hw _ (List.mem_of_getElem? (i := 23) rfl)) (hw _ (List.mem_of_getElem? (i := 25) rfl)) (hw _ (List.mem_of_getElem? (i := 24) rfl)) (hw _ (List.mem_of_getElem? (i := 5) rfl)) (hw _ (List.mem_of_getElem? (i := 26) rfl)) (by decide) E0 pd4 rfl (own_size Z a0 hw a (3 : Int32) h n0 F1) (as' := []) (rest := []) rfl rfl (Nat.le_of_eq rfl) (by decide) (by decide) (by decide) (by decide) ?_
    intro r7 h5 q6
    obtain ⟨rfl, rfl⟩ := q6
    show W κ n0 Qx h 3 22 457 [x0, x1, x2, x3, x4, x5, x6, .val (.int n), x8, x9, x10, x11, x12, x13, x14, x15, x16, x17, x18, x19, .val (.int s0), .val (.int s1), .val (.int s2), .val (.int s3), .val (.int s4), .val (.ref a), .val (.int q), .val (.int c2), .val (.int r1), .unset, .unset, .unset] [(.int (3 : Int32))]
    refine W.iload C m0_457 rfl ?_
    refine W.icmp C m0_459 ?_ ?_
    · intro (h459 : ¬ (3 : Int) = n.toInt)
      refine W.iconst C m0_466 (z := (0 : Int32)) rfl ?_
      refine W.zreturn C m0_467 (hQ _ _ ?_)
      exfalso
      exact absurd hnn.symm h459
    · intro (h459 : ¬ ¬ (3 : Int) = n.toInt)
      replace h459 := Decidable.not_not.mp h459
      refine W.iconst C m0_462 (z := (1 : Int32)) rfl ?_
      refine W.goto C m0_463 ?_
      refine W.zreturn C m0_467 (hQ _ _ ?_)
      exact rfl
set_option maxRecDepth 65536 in
set_option maxHeartbeats 4000000 in
theorem own_tl3b (Z : State) (a0 : Array Value) (hw : ∀ d ∈ tables_1, d.before a0 Z = true) {x0 x1 x2 x3 x4 x5 x6 x8 x9 x10 x11 x12 x13 x14 x15 x16 x17 x18 x19 : Slot} {j : Int32} {w28 w30 : Int64} (n s0 s1 s2 s3 s4 q p5 : Int32) (a e : Addr) (h : Heap) (n0 : Nat) (hnn : n.toInt = 3) (so0 : s0.toInt < s1.toInt) (so1 : s1.toInt < s2.toInt) (so2 : s2.toInt < s3.toInt) (so3 : s3.toInt < s4.toInt) (E0 : Exa Z h a "com/example/principal/principal/engine/Row") (F0 : Fld Z h a "com/example/principal/principal/engine/Row" "entries" "[I" (.ref e)) (F1 : Fld Z h a "com/example/principal/principal/engine/Row" "size" "I" (.int (3 : Int32))) (A0 : Av Z h e .int ([p5, s0, (p5 + (7919 : Int32)), s1, (p5 + (15838 : Int32)), s2, (0 : Int32), (0 : Int32)].map Value.int))
    (κ : KT) (Qx : Option Value → Heap → Prop) (hQ : ∀ v h', v = some (.int 1) → Qx v h') (C : Good κ room_1 Z "com/example/principal/principal/engine/RowIndexOfStampPinLaw" "law" code 32 (some .boolean)) : W κ n0 Qx h 3 22 354 [x0, x1, x2, x3, x4, x5, x6, .val (.int n), x8, x9, x10, x11, x12, x13, x14, x15, x16, x17, x18, x19, .val (.int s0), .val (.int s1), .val (.int s2), .val (.int s3), .val (.int s4), .val (.ref a), .val (.int q), .val (.int j), .val (.long w28), .second, .val (.long w30), .second] [] := by
  refine W.iconst C m0_354 (z := (0 : Int32)) rfl ?_
  refine W.istore C m0_355 (L' := [x0, x1, x2, x3, x4, x5, x6, .val (.int n), x8, x9, x10, x11, x12, x13, x14, x15, x16, x17, x18, x19, .val (.int s0), .val (.int s1), .val (.int s2), .val (.int s3), .val (.int s4), .val (.ref a), .val (.int q), .val (.int (0 : Int32)), .val (.long w28), .second, .val (.long w30), .second]) rfl ?_
  refine W.iload C m0_357 rfl ?_
  refine W.ifN C m0_359 (show ¬ (n.toInt ≤ (0 : Int)) from (by rw [hnn] <;> decide)) ?_
  refine W.iload C m0_362 rfl ?_
  refine W.iload C m0_364 rfl ?_
  suffices Jc0 : ∀ c0 : Int32, ((s0.toInt < q.toInt ∧ c0.toInt = (0 : Int) + 1) ∨ (q.toInt ≤ s0.toInt ∧ c0.toInt = (0 : Int))) → (0 ≤ c0.toInt ∧ c0.toInt ≤ 1) → W κ n0 Qx h 3 22 372 [x0, x1, x2, x3, x4, x5, x6, .val (.int n), x8, x9, x10, x11, x12, x13, x14, x15, x16, x17, x18, x19, .val (.int s0), .val (.int s1), .val (.int s2), .val (.int s3), .val (.int s4), .val (.ref a), .val (.int q), .val (.int c0), .val (.long w28), .second, .val (.long w30), .second] [] by
    refine W.icmp C m0_366 ?_ ?_
    · intro (hc : q.toInt ≤ s0.toInt)
      exact Jc0 _ (Or.inr ⟨hc, rfl⟩) ⟨by decide, by decide⟩
    · intro (hc : ¬ (q.toInt ≤ s0.toInt))
      refine W.iinc C m0_369 rfl (z := (1 : Int32)) rfl (L' := [x0, x1, x2, x3, x4, x5, x6, .val (.int n), x8, x9, x10, x11, x12, x13, x14, x15, x16, x17, x18, x19, .val (.int s0), .val (.int s1), .val (.int s2), .val (.int s3), .val (.int s4), .val (.ref a), .val (.int q), .val (.int (1 : Int32)), .val (.long w28), .second, .val (.long w30), .second]) rfl ?_
      exact Jc0 _ (Or.inl ⟨Int.not_le.mp hc, rfl⟩) ⟨by decide, by decide⟩
  intro c0 hc0 bc0
  refine W.iload C m0_372 rfl ?_
  refine W.iconst C m0_374 (z := (1 : Int32)) rfl ?_
  refine W.icmpN C m0_375 (show ¬ (n.toInt ≤ (1 : Int)) from (by rw [hnn] <;> decide)) ?_
  refine W.iload C m0_378 rfl ?_
  refine W.iload C m0_380 rfl ?_
  suffices Jc1 : ∀ c1 : Int32, ((s1.toInt < q.toInt ∧ c1.toInt = c0.toInt + 1) ∨ (q.toInt ≤ s1.toInt ∧ c1.toInt = c0.toInt)) → (0 ≤ c1.toInt ∧ c1.toInt ≤ 2) → W κ n0 Qx h 3 22 388 [x0, x1, x2, x3, x4, x5, x6, .val (.int n), x8, x9, x10, x11, x12, x13, x14, x15, x16, x17, x18, x19, .val (.int s0), .val (.int s1), .val (.int s2), .val (.int s3), .val (.int s4), .val (.ref a), .val (.int q), .val (.int c1), .val (.long w28), .second, .val (.long w30), .second] [] by
    refine W.icmp C m0_382 ?_ ?_
    · intro (hc : q.toInt ≤ s1.toInt)
      exact Jc1 _ (Or.inr ⟨hc, rfl⟩) (own_b 2 (by decide) bc0)
    · intro (hc : ¬ (q.toInt ≤ s1.toInt))
      refine W.iinc C m0_385 rfl (z := (c0 + (1 : Int32))) rfl (L' := [x0, x1, x2, x3, x4, x5, x6, .val (.int n), x8, x9, x10, x11, x12, x13, x14, x15, x16, x17, x18, x19, .val (.int s0), .val (.int s1), .val (.int s2), .val (.int s3), .val (.int s4), .val (.ref a), .val (.int q), .val (.int (c0 + (1 : Int32))), .val (.long w28), .second, .val (.long w30), .second]) rfl ?_
      have e1 := own_st 2 (by decide) (by decide) bc0
      exact Jc1 _ (Or.inl ⟨Int.not_le.mp hc, e1.1⟩) e1.2
  intro c1 hc1 bc1
  refine W.iload C m0_388 rfl ?_
  refine W.iconst C m0_390 (z := (2 : Int32)) rfl ?_
  refine W.icmpN C m0_391 (show ¬ (n.toInt ≤ (2 : Int)) from (by rw [hnn] <;> decide)) ?_
  refine W.iload C m0_394 rfl ?_
  refine W.iload C m0_396 rfl ?_
  suffices Jc2 : ∀ c2 : Int32, ((s2.toInt < q.toInt ∧ c2.toInt = c1.toInt + 1) ∨ (q.toInt ≤ s2.toInt ∧ c2.toInt = c1.toInt)) → (0 ≤ c2.toInt ∧ c2.toInt ≤ 3) → W κ n0 Qx h 3 22 404 [x0, x1, x2, x3, x4, x5, x6, .val (.int n), x8, x9, x10, x11, x12, x13, x14, x15, x16, x17, x18, x19, .val (.int s0), .val (.int s1), .val (.int s2), .val (.int s3), .val (.int s4), .val (.ref a), .val (.int q), .val (.int c2), .val (.long w28), .second, .val (.long w30), .second] [] by
    refine W.icmp C m0_398 ?_ ?_
    · intro (hc : q.toInt ≤ s2.toInt)
      exact Jc2 _ (Or.inr ⟨hc, rfl⟩) (own_b 3 (by decide) bc1)
    · intro (hc : ¬ (q.toInt ≤ s2.toInt))
      refine W.iinc C m0_401 rfl (z := (c1 + (1 : Int32))) rfl (L' := [x0, x1, x2, x3, x4, x5, x6, .val (.int n), x8, x9, x10, x11, x12, x13, x14, x15, x16, x17, x18, x19, .val (.int s0), .val (.int s1), .val (.int s2), .val (.int s3), .val (.int s4), .val (.ref a), .val (.int q), .val (.int (c1 + (1 : Int32))), .val (.long w28), .second, .val (.long w30), .second]) rfl ?_
      have e1 := own_st 3 (by decide) (by decide) bc1
      exact Jc2 _ (Or.inl ⟨Int.not_le.mp hc, e1.1⟩) e1.2
  intro c2 hc2 bc2
  refine W.iload C m0_404 rfl ?_
  refine W.iconst C m0_406 (z := (3 : Int32)) rfl ?_
  refine W.icmpY C m0_407 (show n.toInt ≤ (3 : Int) from (by rw [hnn] <;> decide)) ?_
  refine W.iload C m0_420 rfl ?_
  refine W.iconst C m0_422 (z := (4 : Int32)) rfl ?_
  refine W.icmpY C m0_423 (show n.toInt ≤ (4 : Int) from (by rw [hnn] <;> decide)) ?_
  refine W.aload C m0_436 rfl rfl ?_
  refine W.iload C m0_438 rfl ?_
  refine W.callV (y := mY3) (wt := 0) C m0_440 (hw _ (List.mem_of_getElem? (i := 15) rfl)) (hw _ (List.mem_of_getElem? (i := 16) rfl)) (hw _ (List.mem_of_getElem? (i := 18) rfl)) (hw _ (List.mem_of_getElem? (i := 17) rfl)) (hw _ (List.mem_of_getElem? (i := 5) rfl)) (hw _ (List.mem_of_getElem? (i := 19) rfl)) (by decide) E0 pd3 rfl (own_ix3 Z a0 hw a q e p5 s0 (p5 + (7919 : Int32)) s1 (p5 + (15838 : Int32)) s2 [(0 : Int32), (0 : Int32)] h n0 so0 so1 F0 F1 A0) (as' := [(.int q)]) (rest := []) rfl rfl (Nat.le_of_eq rfl) (by decide) (by decide) (by decide) (by decide) ?_
  intro r4 h2 q3
  obtain ⟨rfl, r1, rfl, hr1⟩ := q3
  show W κ n0 Qx h 3 22 443 [x0, x1, x2, x3, x4, x5, x6, .val (.int n), x8, x9, x10, x11, x12, x13, x14, x15, x16, x17, x18, x19, .val (.int s0), .val (.int s1), .val (.int s2), .val (.int s3), .val (.int s4), .val (.ref a), .val (.int q), .val (.int c2), .val (.long w28), .second, .val (.long w30), .second] [(.int r1)]
  refine W.istore C m0_443 (L' := [x0, x1, x2, x3, x4, x5, x6, .val (.int n), x8, x9, x10, x11, x12, x13, x14, x15, x16, x17, x18, x19, .val (.int s0), .val (.int s1), .val (.int s2), .val (.int s3), .val (.int s4), .val (.ref a), .val (.int q), .val (.int c2), .val (.int r1), .unset, .val (.long w30), .second]) rfl ?_
  refine W.iload C m0_445 rfl ?_
  refine W.iload C m0_447 rfl ?_
  refine W.icmp C m0_449 ?_ ?_
  · intro (h449 : ¬ r1.toInt = c2.toInt)
    refine W.iconst C m0_466 (z := (0 : Int32)) rfl ?_
    refine W.zreturn C m0_467 (hQ _ _ ?_)
    exfalso
    obtain ⟨r0, rk, j0, j1, j2⟩ := hr1
    have m0 := own_m0 r0
    have m1 := own_cn 1 (by decide) hc0 j0 m0
    have m2 := own_cn 2 (by decide) hc1 j1 m1
    have m3 := own_cn 3 (by decide) hc2 j2 m2
    exact absurd (own_mk m3 rk) h449
  · intro (h449 : ¬ ¬ r1.toInt = c2.toInt)
    replace h449 := Decidable.not_not.mp h449
    refine W.aload C m0_452 rfl rfl ?_
    refine W.callV (y := mY4) (wt := 0) C m0_454 (hw _ (List.mem_of_getElem? (i := 22) rfl)) (hw _ (List.mem_of_getElem? (i := 23) rfl)) (hw _ (List.mem_of_getElem? (i := 25) rfl)) (hw _ (List.mem_of_getElem? (i := 24) rfl)) (hw _ (List.mem_of_getElem? (i := 5) rfl)) (hw _ (List.mem_of_getElem? (i := 26) rfl)) (by decide) E0 pd4 rfl (own_size Z a0 hw a (3 : Int32) h n0 F1) (as' := []) (rest := []) rfl rfl (Nat.le_of_eq rfl) (by decide) (by decide) (by decide) (by decide) ?_
    intro r7 h5 q6
    obtain ⟨rfl, rfl⟩ := q6
    show W κ n0 Qx h 3 22 457 [x0, x1, x2, x3, x4, x5, x6, .val (.int n), x8, x9, x10, x11, x12, x13, x14, x15, x16, x17, x18, x19, .val (.int s0), .val (.int s1), .val (.int s2), .val (.int s3), .val (.int s4), .val (.ref a), .val (.int q), .val (.int c2), .val (.int r1), .unset, .val (.long w30), .second] [(.int (3 : Int32))]
    refine W.iload C m0_457 rfl ?_
    refine W.icmp C m0_459 ?_ ?_
    · intro (h459 : ¬ (3 : Int) = n.toInt)
      refine W.iconst C m0_466 (z := (0 : Int32)) rfl ?_
      refine W.zreturn C m0_467 (hQ _ _ ?_)
      exfalso
      exact absurd hnn.symm h459
    · intro (h459 : ¬ ¬ (3 : Int) = n.toInt)
      replace h459 := Decidable.not_not.mp h459
      refine W.iconst C m0_462 (z := (1 : Int32)) rfl ?_
      refine W.goto C m0_463 ?_
      refine W.zreturn C m0_467 (hQ _ _ ?_)
      exact rfl
set_option maxRecDepth 65536 in
set_option maxHeartbeats 4000000 in
theorem own_cs3 (Z : State) (a0 : Array Value) (hw : ∀ d ∈ tables_1, d.before a0 Z = true) {x0 x1 x2 x3 x8 x9 x10 x11 x12 x13 x14 x15 x16 x17 x18 x19 : Slot} (p3 p4 p5 n s0 s1 s2 s3 s4 : Int32) (a e : Addr) (h : Heap) (n0 : Nat) (hnn : n.toInt = 3) (so0 : s0.toInt < s1.toInt) (so1 : s1.toInt < s2.toInt) (so2 : s2.toInt < s3.toInt) (so3 : s3.toInt < s4.toInt) (z0 : n0 ≤ h.size) (g0 : n0 ≤ a) (g1 : n0 ≤ e) (hae : a ≠ e) (E0 : Exa Z h a "com/example/principal/principal/engine/Row") (F0 : Fld Z h a "com/example/principal/principal/engine/Row" "entries" "[I" (.ref e)) (F1 : Fld Z h a "com/example/principal/principal/engine/Row" "size" "I" (.int (0 : Int32))) (A0 : Av Z h e .int ([(0 : Int32), (0 : Int32), (0 : Int32), (0 : Int32)].map Value.int))
    (κ : KT) (Qx : Option Value → Heap → Prop) (hQ : ∀ v h', v = some (.int 1) → Qx v h') (C : Good κ room_1 Z "com/example/principal/principal/engine/RowIndexOfStampPinLaw" "law" code 32 (some .boolean)) : W κ n0 Qx h 2 6 146 [x0, x1, x2, x3, .val (.int p3), .val (.int p4), .val (.int p5), .val (.int n), x8, x9, x10, x11, x12, x13, x14, x15, x16, x17, x18, x19, .val (.int s0), .val (.int s1), .val (.int s2), .val (.int s3), .val (.int s4), .val (.ref a), .unset, .unset, .unset, .unset, .unset, .unset] [] := by
  refine W.iload C m0_146 rfl ?_
  refine W.ifN C m0_148 (show ¬ (n.toInt ≤ (0 : Int)) from (by rw [hnn] <;> decide)) ?_
  refine W.aload C m0_151 rfl rfl ?_
  refine W.iload C m0_153 rfl ?_
  refine W.iload C m0_155 rfl ?_
  refine W.callV (y := mY5) (wt := 0) C m0_157 (hw _ (List.mem_of_getElem? (i := 27) rfl)) (hw _ (List.mem_of_getElem? (i := 28) rfl)) (hw _ (List.mem_of_getElem? (i := 30) rfl)) (hw _ (List.mem_of_getElem? (i := 29) rfl)) (hw _ (List.mem_of_getElem? (i := 5) rfl)) (hw _ (List.mem_of_getElem? (i := 31) rfl)) (by decide) E0 pd5 rfl (own_ad Z a0 hw a p5 s0 e (0 : Int32) (1 : Int32) 0 [(0 : Int32), (0 : Int32), (0 : Int32), (0 : Int32)] h n0 z0 g0 E0 F0 F1 A0 rfl rfl hae g1 (Nat.le_of_ble_eq_true rfl) (Nat.le_of_ble_eq_true rfl)) (as' := [(.int p5), (.int s0)]) (rest := []) rfl rfl (Nat.le_of_eq rfl) (by decide) (by decide) (by decide) (by decide) ?_
  intro r10 h8 q9
  obtain ⟨rfl, K1, E2, F3, F4, A5⟩ := q9
  have E11 := E0.keep K1
  have z12 : n0 ≤ h8.size := Nat.le_trans z0 K1.1
  have A13 : Av Z h8 e .int ([p5, s0, (0 : Int32), (0 : Int32)].map Value.int) := A5
  show W κ n0 Qx h8 2 6 160 [x0, x1, x2, x3, .val (.int p3), .val (.int p4), .val (.int p5), .val (.int n), x8, x9, x10, x11, x12, x13, x14, x15, x16, x17, x18, x19, .val (.int s0), .val (.int s1), .val (.int s2), .val (.int s3), .val (.int s4), .val (.ref a), .unset, .unset, .unset, .unset, .unset, .unset] []
  refine W.iload C m0_160 rfl ?_
  refine W.iconst C m0_162 (z := (1 : Int32)) rfl ?_
  refine W.icmpN C m0_163 (show ¬ (n.toInt ≤ (1 : Int)) from (by rw [hnn] <;> decide)) ?_
  refine W.aload C m0_166 rfl rfl ?_
  refine W.iload C m0_168 rfl ?_
  refine W.sipush C m0_170 (z := (7919 : Int32)) rfl ?_
  refine W.iadd C m0_173 rfl ?_
  refine W.iload C m0_174 rfl ?_
  refine W.callV (y := mY5) (wt := 0) C m0_176 (hw _ (List.mem_of_getElem? (i := 27) rfl)) (hw _ (List.mem_of_getElem? (i := 28) rfl)) (hw _ (List.mem_of_getElem? (i := 30) rfl)) (hw _ (List.mem_of_getElem? (i := 29) rfl)) (hw _ (List.mem_of_getElem? (i := 5) rfl)) (hw _ (List.mem_of_getElem? (i := 31) rfl)) (by decide) E2 pd5 rfl (own_ad Z a0 hw a (p5 + (7919 : Int32)) s1 e (1 : Int32) (2 : Int32) 1 [p5, s0, (0 : Int32), (0 : Int32)] h8 n0 z12 g0 E2 F3 F4 A13 rfl rfl hae g1 (Nat.le_of_ble_eq_true rfl) (Nat.le_of_ble_eq_true rfl)) (as' := [(.int (p5 + (7919 : Int32))), (.int s1)]) (rest := []) rfl rfl (Nat.le_of_eq rfl) (by decide) (by decide) (by decide) (by decide) ?_
  intro r23 h21 q22
  obtain ⟨rfl, K14, E15, F16, F17, A18⟩ := q22
  have E24 := E2.keep K14
  have z25 : n0 ≤ h21.size := Nat.le_trans z12 K14.1
  have A26 : Av Z h21 e .int ([p5, s0, (p5 + (7919 : Int32)), s1].map Value.int) := A18
  show W κ n0 Qx h21 2 6 179 [x0, x1, x2, x3, .val (.int p3), .val (.int p4), .val (.int p5), .val (.int n), x8, x9, x10, x11, x12, x13, x14, x15, x16, x17, x18, x19, .val (.int s0), .val (.int s1), .val (.int s2), .val (.int s3), .val (.int s4), .val (.ref a), .unset, .unset, .unset, .unset, .unset, .unset] []
  refine W.iload C m0_179 rfl ?_
  refine W.iconst C m0_181 (z := (2 : Int32)) rfl ?_
  refine W.icmpN C m0_182 (show ¬ (n.toInt ≤ (2 : Int)) from (by rw [hnn] <;> decide)) ?_
  refine W.aload C m0_185 rfl rfl ?_
  refine W.iload C m0_187 rfl ?_
  refine W.sipush C m0_189 (z := (15838 : Int32)) rfl ?_
  refine W.iadd C m0_192 rfl ?_
  refine W.iload C m0_193 rfl ?_
  refine W.callV (y := mY5) (wt := 0) C m0_195 (hw _ (List.mem_of_getElem? (i := 27) rfl)) (hw _ (List.mem_of_getElem? (i := 28) rfl)) (hw _ (List.mem_of_getElem? (i := 30) rfl)) (hw _ (List.mem_of_getElem? (i := 29) rfl)) (hw _ (List.mem_of_getElem? (i := 5) rfl)) (hw _ (List.mem_of_getElem? (i := 31) rfl)) (by decide) E15 pd5 rfl (own_ag Z a0 hw a (p5 + (15838 : Int32)) s2 e (2 : Int32) (3 : Int32) 2 [p5, s0, (p5 + (7919 : Int32)), s1] h21 n0 z25 g0 E15 F16 F17 A26 rfl rfl hae rfl (Nat.le_of_ble_eq_true rfl) (Nat.le_of_ble_eq_true rfl)) (as' := [(.int (p5 + (15838 : Int32))), (.int s2)]) (rest := []) rfl rfl (Nat.le_of_eq rfl) (by decide) (by decide) (by decide) (by decide) ?_
  intro r36 h34 q35
  obtain ⟨rfl, e32, K27, g33, E28, F29, F30, A31⟩ := q35
  have E37 := E15.keep K27
  have z38 : n0 ≤ h34.size := Nat.le_trans z25 K27.1
  have A39 := A26.keep K27 (ninS (Ne.symm hae) nin0)
  have ne40 : a ≠ e32 := Nat.ne_of_lt (Nat.lt_of_lt_of_le E15.lt g33)
  have ne41 : e ≠ e32 := Nat.ne_of_lt (Nat.lt_of_lt_of_le A26.lt g33)
  have g42 : n0 ≤ e32 := Nat.le_trans z25 g33
  have A43 : Av Z h34 e32 .int ([p5, s0, (p5 + (7919 : Int32)), s1, (p5 + (15838 : Int32)), s2, (0 : Int32), (0 : Int32)].map Value.int) := A31
  show W κ n0 Qx h34 3 22 198 [x0, x1, x2, x3, .val (.int p3), .val (.int p4), .val (.int p5), .val (.int n), x8, x9, x10, x11, x12, x13, x14, x15, x16, x17, x18, x19, .val (.int s0), .val (.int s1), .val (.int s2), .val (.int s3), .val (.int s4), .val (.ref a), .unset, .unset, .unset, .unset, .unset, .unset] []
  refine W.iload C m0_198 rfl ?_
  refine W.iconst C m0_200 (z := (3 : Int32)) rfl ?_
  refine W.icmpY C m0_201 (show n.toInt ≤ (3 : Int) from (by rw [hnn] <;> decide)) ?_
  refine W.iload C m0_217 rfl ?_
  refine W.iconst C m0_219 (z := (4 : Int32)) rfl ?_
  refine W.icmpY C m0_220 (show n.toInt ≤ (4 : Int) from (by rw [hnn] <;> decide)) ?_
  refine W.iload C m0_236 rfl ?_
  refine W.istore C m0_238 (L' := [x0, x1, x2, x3, .val (.int p3), .val (.int p4), .val (.int p5), .val (.int n), x8, x9, x10, x11, x12, x13, x14, x15, x16, x17, x18, x19, .val (.int s0), .val (.int s1), .val (.int s2), .val (.int s3), .val (.int s4), .val (.ref a), .val (.int p4), .unset, .unset, .unset, .unset, .unset]) rfl ?_
  refine W.iload C m0_240 rfl ?_
  refine W.iconst C m0_242 (z := (1 : Int32)) rfl ?_
  refine W.iand C m0_243 rfl ?_
  refine W.ifc C m0_244 ?_ ?_
  · intro (h244 : ¬ ((p3 &&& (1 : Int32))).toInt = (0 : Int))
    exact own_tl3a Z a0 hw n s0 s1 s2 s3 s4 p4 p5 a e32 h34 n0 hnn so0 so1 so2 so3 E28 F29 F30 A43 κ Qx hQ C
  · intro (h244 : ¬ ¬ ((p3 &&& (1 : Int32))).toInt = (0 : Int))
    replace h244 := Decidable.not_not.mp h244
    refine W.iload C m0_247 rfl ?_
    refine W.ifN C m0_249 (show ¬ (n.toInt ≤ (0 : Int)) from (by rw [hnn] <;> decide)) ?_
    refine W.iload C m0_252 rfl ?_
    refine W.iconst C m0_254 (z := (1 : Int32)) rfl ?_
    refine W.iushr C m0_255 rfl ?_
    refine W.ldc C m0_256 (hw _ (List.mem_of_getElem? (i := 44) rfl)) ?_
    refine W.iand C m0_258 rfl ?_
    refine W.iload C m0_259 rfl ?_
    refine W.irem C m0_261 (fun e => by rw [e] at hnn; exact absurd hnn (by decide)) rfl ?_
    generalize hv44 : (((p3.toUInt32 >>> ((1 : Int32) &&& 31).toUInt32).toInt32 &&& (65535 : Int32)) % n) = v44
    refine W.istore C m0_262 (L' := [x0, x1, x2, x3, .val (.int p3), .val (.int p4), .val (.int p5), .val (.int n), x8, x9, x10, x11, x12, x13, x14, x15, x16, x17, x18, x19, .val (.int s0), .val (.int s1), .val (.int s2), .val (.int s3), .val (.int s4), .val (.ref a), .val (.int p4), .val (.int v44), .unset, .unset, .unset, .unset]) rfl ?_
    refine W.iload C m0_264 rfl ?_
    suffices J266 : ∀ (w45 : Int64), (True) → W κ n0 Qx h34 3 22 314 [x0, x1, x2, x3, .val (.int p3), .val (.int p4), .val (.int p5), .val (.int n), x8, x9, x10, x11, x12, x13, x14, x15, x16, x17, x18, x19, .val (.int s0), .val (.int s1), .val (.int s2), .val (.int s3), .val (.int s4), .val (.ref a), .val (.int p4), .val (.int v44), .unset, .unset, .unset, .unset] [(.long w45)] by
      refine W.ifc C m0_266 ?_ ?_
      · intro (h266 : ¬ v44.toInt = (0 : Int))
        refine W.iload C m0_275 rfl ?_
        refine W.iconst C m0_277 (z := (1 : Int32)) rfl ?_
        refine W.icmp C m0_278 ?_ ?_
        · intro (h278 : ¬ v44.toInt = (1 : Int))
          refine W.iload C m0_287 rfl ?_
          refine W.iconst C m0_289 (z := (2 : Int32)) rfl ?_
          refine W.icmp C m0_290 ?_ ?_
          · intro (h290 : ¬ v44.toInt = (2 : Int))
            refine W.iload C m0_299 rfl ?_
            refine W.iconst C m0_301 (z := (3 : Int32)) rfl ?_
            refine W.icmp C m0_302 ?_ ?_
            · intro (h302 : ¬ v44.toInt = (3 : Int))
              refine W.iload C m0_311 rfl ?_
              refine W.i2l C m0_313 rfl ?_
              exact J266 _ (by trivial)
            · intro (h302 : ¬ ¬ v44.toInt = (3 : Int))
              replace h302 := Decidable.not_not.mp h302
              refine W.iload C m0_305 rfl ?_
              refine W.i2l C m0_307 rfl ?_
              refine W.goto C m0_308 ?_
              exact J266 _ (by trivial)
          · intro (h290 : ¬ ¬ v44.toInt = (2 : Int))
            replace h290 := Decidable.not_not.mp h290
            refine W.iload C m0_293 rfl ?_
            refine W.i2l C m0_295 rfl ?_
            refine W.goto C m0_296 ?_
            exact J266 _ (by trivial)
        · intro (h278 : ¬ ¬ v44.toInt = (1 : Int))
          replace h278 := Decidable.not_not.mp h278
          refine W.iload C m0_281 rfl ?_
          refine W.i2l C m0_283 rfl ?_
          refine W.goto C m0_284 ?_
          exact J266 _ (by trivial)
      · intro (h266 : ¬ ¬ v44.toInt = (0 : Int))
        replace h266 := Decidable.not_not.mp h266
        refine W.iload C m0_269 rfl ?_
        refine W.i2l C m0_271 rfl ?_
        refine W.goto C m0_272 ?_
        exact J266 _ (by trivial)
    intro w45 hJ266
    refine W.lstore C m0_314 (L' := [x0, x1, x2, x3, .val (.int p3), .val (.int p4), .val (.int p5), .val (.int n), x8, x9, x10, x11, x12, x13, x14, x15, x16, x17, x18, x19, .val (.int s0), .val (.int s1), .val (.int s2), .val (.int s3), .val (.int s4), .val (.ref a), .val (.int p4), .val (.int v44), .val (.long w45), .second, .unset, .unset]) rfl ?_
    refine W.lload C m0_316 rfl ?_
    refine W.iload C m0_318 rfl ?_
    refine W.bipush C m0_320 (z := (17 : Int32)) rfl ?_
    refine W.iushr C m0_322 rfl ?_
    refine W.iconst C m0_323 (z := (3 : Int32)) rfl ?_
    refine W.iand C m0_324 rfl ?_
    refine W.iconst C m0_325 (z := (1 : Int32)) rfl ?_
    refine W.isub C m0_326 rfl ?_
    refine W.i2l C m0_327 rfl ?_
    refine W.ladd C m0_328 rfl ?_
    generalize hv46 : (w45 + (((p3.toUInt32 >>> ((17 : Int32) &&& 31).toUInt32).toInt32 &&& (3 : Int32)) - (1 : Int32)).toInt64) = v46
    refine W.lstore C m0_329 (L' := [x0, x1, x2, x3, .val (.int p3), .val (.int p4), .val (.int p5), .val (.int n), x8, x9, x10, x11, x12, x13, x14, x15, x16, x17, x18, x19, .val (.int s0), .val (.int s1), .val (.int s2), .val (.int s3), .val (.int s4), .val (.ref a), .val (.int p4), .val (.int v44), .val (.long w45), .second, .val (.long v46), .second]) rfl ?_
    refine W.lload C m0_331 rfl ?_
    refine W.ldc2 C m0_333 (hw _ (List.mem_of_getElem? (i := 45) rfl)) ?_
    suffices J336 : ∀ (w47 : Int32), (True) → W κ n0 Qx h34 3 22 354 [x0, x1, x2, x3, .val (.int p3), .val (.int p4), .val (.int p5), .val (.int n), x8, x9, x10, x11, x12, x13, x14, x15, x16, x17, x18, x19, .val (.int s0), .val (.int s1), .val (.int s2), .val (.int s3), .val (.int s4), .val (.ref a), .val (.int w47), .val (.int v44), .val (.long w45), .second, .val (.long v46), .second] [] by
      refine W.lc C m0_336 m0_337 ?_ ?_
      · intro (h336 : v46.toInt < (-2147483648 : Int))
        exact J336 _ (by trivial)
      · intro (h336 : ¬ (v46.toInt < (-2147483648 : Int)))
        replace h336 : (-2147483648 : Int) ≤ v46.toInt := by omega
        refine W.lload C m0_340 rfl ?_
        refine W.ldc2 C m0_342 (hw _ (List.mem_of_getElem? (i := 2) rfl)) ?_
        refine W.lc C m0_345 m0_346 ?_ ?_
        · intro (h345 : (2147483647 : Int) < v46.toInt)
          exact J336 _ (by trivial)
        · intro (h345 : ¬ ((2147483647 : Int) < v46.toInt))
          replace h345 : v46.toInt ≤ (2147483647 : Int) := by omega
          refine W.lload C m0_349 rfl ?_
          refine W.l2i C m0_351 rfl ?_
          refine W.istore C m0_352 (L' := [x0, x1, x2, x3, .val (.int p3), .val (.int p4), .val (.int p5), .val (.int n), x8, x9, x10, x11, x12, x13, x14, x15, x16, x17, x18, x19, .val (.int s0), .val (.int s1), .val (.int s2), .val (.int s3), .val (.int s4), .val (.ref a), .val (.int v46.toInt32), .val (.int v44), .val (.long w45), .second, .val (.long v46), .second]) rfl ?_
          exact J336 _ (by trivial)
    intro w47 hJ336
    exact own_tl3b Z a0 hw n s0 s1 s2 s3 s4 w47 p5 a e32 h34 n0 hnn so0 so1 so2 so3 E28 F29 F30 A43 κ Qx hQ C
set_option maxRecDepth 65536 in
set_option maxHeartbeats 4000000 in
theorem own_tl4a (Z : State) (a0 : Array Value) (hw : ∀ d ∈ tables_1, d.before a0 Z = true) {x0 x1 x2 x3 x4 x5 x6 x8 x9 x10 x11 x12 x13 x14 x15 x16 x17 x18 x19 : Slot} (n s0 s1 s2 s3 s4 q p5 : Int32) (a e : Addr) (h : Heap) (n0 : Nat) (hnn : n.toInt = 4) (so0 : s0.toInt < s1.toInt) (so1 : s1.toInt < s2.toInt) (so2 : s2.toInt < s3.toInt) (so3 : s3.toInt < s4.toInt) (E0 : Exa Z h a "com/example/principal/principal/engine/Row") (F0 : Fld Z h a "com/example/principal/principal/engine/Row" "entries" "[I" (.ref e)) (F1 : Fld Z h a "com/example/principal/principal/engine/Row" "size" "I" (.int (4 : Int32))) (A0 : Av Z h e .int ([p5, s0, (p5 + (7919 : Int32)), s1, (p5 + (15838 : Int32)), s2, (p5 + (23757 : Int32)), s3].map Value.int))
    (κ : KT) (Qx : Option Value → Heap → Prop) (hQ : ∀ v h', v = some (.int 1) → Qx v h') (C : Good κ room_1 Z "com/example/principal/principal/engine/RowIndexOfStampPinLaw" "law" code 32 (some .boolean)) : W κ n0 Qx h 3 22 354 [x0, x1, x2, x3, x4, x5, x6, .val (.int n), x8, x9, x10, x11, x12, x13, x14, x15, x16, x17, x18, x19, .val (.int s0), .val (.int s1), .val (.int s2), .val (.int s3), .val (.int s4), .val (.ref a), .val (.int q), .unset, .unset, .unset, .unset, .unset] [] := by
  refine W.iconst C m0_354 (z := (0 : Int32)) rfl ?_
  refine W.istore C m0_355 (L' := [x0, x1, x2, x3, x4, x5, x6, .val (.int n), x8, x9, x10, x11, x12, x13, x14, x15, x16, x17, x18, x19, .val (.int s0), .val (.int s1), .val (.int s2), .val (.int s3), .val (.int s4), .val (.ref a), .val (.int q), .val (.int (0 : Int32)), .unset, .unset, .unset, .unset]) rfl ?_
  refine W.iload C m0_357 rfl ?_
  refine W.ifN C m0_359 (show ¬ (n.toInt ≤ (0 : Int)) from (by rw [hnn] <;> decide)) ?_
  refine W.iload C m0_362 rfl ?_
  refine W.iload C m0_364 rfl ?_
  suffices Jc0 : ∀ c0 : Int32, ((s0.toInt < q.toInt ∧ c0.toInt = (0 : Int) + 1) ∨ (q.toInt ≤ s0.toInt ∧ c0.toInt = (0 : Int))) → (0 ≤ c0.toInt ∧ c0.toInt ≤ 1) → W κ n0 Qx h 3 22 372 [x0, x1, x2, x3, x4, x5, x6, .val (.int n), x8, x9, x10, x11, x12, x13, x14, x15, x16, x17, x18, x19, .val (.int s0), .val (.int s1), .val (.int s2), .val (.int s3), .val (.int s4), .val (.ref a), .val (.int q), .val (.int c0), .unset, .unset, .unset, .unset] [] by
    refine W.icmp C m0_366 ?_ ?_
    · intro (hc : q.toInt ≤ s0.toInt)
      exact Jc0 _ (Or.inr ⟨hc, rfl⟩) ⟨by decide, by decide⟩
    · intro (hc : ¬ (q.toInt ≤ s0.toInt))
      refine W.iinc C m0_369 rfl (z := (1 : Int32)) rfl (L' := [x0, x1, x2, x3, x4, x5, x6, .val (.int n), x8, x9, x10, x11, x12, x13, x14, x15, x16, x17, x18, x19, .val (.int s0), .val (.int s1), .val (.int s2), .val (.int s3), .val (.int s4), .val (.ref a), .val (.int q), .val (.int (1 : Int32)), .unset, .unset, .unset, .unset]) rfl ?_
      exact Jc0 _ (Or.inl ⟨Int.not_le.mp hc, rfl⟩) ⟨by decide, by decide⟩
  intro c0 hc0 bc0
  refine W.iload C m0_372 rfl ?_
  refine W.iconst C m0_374 (z := (1 : Int32)) rfl ?_
  refine W.icmpN C m0_375 (show ¬ (n.toInt ≤ (1 : Int)) from (by rw [hnn] <;> decide)) ?_
  refine W.iload C m0_378 rfl ?_
  refine W.iload C m0_380 rfl ?_
  suffices Jc1 : ∀ c1 : Int32, ((s1.toInt < q.toInt ∧ c1.toInt = c0.toInt + 1) ∨ (q.toInt ≤ s1.toInt ∧ c1.toInt = c0.toInt)) → (0 ≤ c1.toInt ∧ c1.toInt ≤ 2) → W κ n0 Qx h 3 22 388 [x0, x1, x2, x3, x4, x5, x6, .val (.int n), x8, x9, x10, x11, x12, x13, x14, x15, x16, x17, x18, x19, .val (.int s0), .val (.int s1), .val (.int s2), .val (.int s3), .val (.int s4), .val (.ref a), .val (.int q), .val (.int c1), .unset, .unset, .unset, .unset] [] by
    refine W.icmp C m0_382 ?_ ?_
    · intro (hc : q.toInt ≤ s1.toInt)
      exact Jc1 _ (Or.inr ⟨hc, rfl⟩) (own_b 2 (by decide) bc0)
    · intro (hc : ¬ (q.toInt ≤ s1.toInt))
      refine W.iinc C m0_385 rfl (z := (c0 + (1 : Int32))) rfl (L' := [x0, x1, x2, x3, x4, x5, x6, .val (.int n), x8, x9, x10, x11, x12, x13, x14, x15, x16, x17, x18, x19, .val (.int s0), .val (.int s1), .val (.int s2), .val (.int s3), .val (.int s4), .val (.ref a), .val (.int q), .val (.int (c0 + (1 : Int32))), .unset, .unset, .unset, .unset]) rfl ?_
      have e1 := own_st 2 (by decide) (by decide) bc0
      exact Jc1 _ (Or.inl ⟨Int.not_le.mp hc, e1.1⟩) e1.2
  intro c1 hc1 bc1
  refine W.iload C m0_388 rfl ?_
  refine W.iconst C m0_390 (z := (2 : Int32)) rfl ?_
  refine W.icmpN C m0_391 (show ¬ (n.toInt ≤ (2 : Int)) from (by rw [hnn] <;> decide)) ?_
  refine W.iload C m0_394 rfl ?_
  refine W.iload C m0_396 rfl ?_
  suffices Jc2 : ∀ c2 : Int32, ((s2.toInt < q.toInt ∧ c2.toInt = c1.toInt + 1) ∨ (q.toInt ≤ s2.toInt ∧ c2.toInt = c1.toInt)) → (0 ≤ c2.toInt ∧ c2.toInt ≤ 3) → W κ n0 Qx h 3 22 404 [x0, x1, x2, x3, x4, x5, x6, .val (.int n), x8, x9, x10, x11, x12, x13, x14, x15, x16, x17, x18, x19, .val (.int s0), .val (.int s1), .val (.int s2), .val (.int s3), .val (.int s4), .val (.ref a), .val (.int q), .val (.int c2), .unset, .unset, .unset, .unset] [] by
    refine W.icmp C m0_398 ?_ ?_
    · intro (hc : q.toInt ≤ s2.toInt)
      exact Jc2 _ (Or.inr ⟨hc, rfl⟩) (own_b 3 (by decide) bc1)
    · intro (hc : ¬ (q.toInt ≤ s2.toInt))
      refine W.iinc C m0_401 rfl (z := (c1 + (1 : Int32))) rfl (L' := [x0, x1, x2, x3, x4, x5, x6, .val (.int n), x8, x9, x10, x11, x12, x13, x14, x15, x16, x17, x18, x19, .val (.int s0), .val (.int s1), .val (.int s2), .val (.int s3), .val (.int s4), .val (.ref a), .val (.int q), .val (.int (c1 + (1 : Int32))), .unset, .unset, .unset, .unset]) rfl ?_
      have e1 := own_st 3 (by decide) (by decide) bc1
      exact Jc2 _ (Or.inl ⟨Int.not_le.mp hc, e1.1⟩) e1.2
  intro c2 hc2 bc2
  refine W.iload C m0_404 rfl ?_
  refine W.iconst C m0_406 (z := (3 : Int32)) rfl ?_
  refine W.icmpN C m0_407 (show ¬ (n.toInt ≤ (3 : Int)) from (by rw [hnn] <;> decide)) ?_
  refine W.iload C m0_410 rfl ?_
  refine W.iload C m0_412 rfl ?_
  suffices Jc3 : ∀ c3 : Int32, ((s3.toInt < q.toInt ∧ c3.toInt = c2.toInt + 1) ∨ (q.toInt ≤ s3.toInt ∧ c3.toInt = c2.toInt)) → (0 ≤ c3.toInt ∧ c3.toInt ≤ 4) → W κ n0 Qx h 3 22 420 [x0, x1, x2, x3, x4, x5, x6, .val (.int n), x8, x9, x10, x11, x12, x13, x14, x15, x16, x17, x18, x19, .val (.int s0), .val (.int s1), .val (.int s2), .val (.int s3), .val (.int s4), .val (.ref a), .val (.int q), .val (.int c3), .unset, .unset, .unset, .unset] [] by
    refine W.icmp C m0_414 ?_ ?_
    · intro (hc : q.toInt ≤ s3.toInt)
      exact Jc3 _ (Or.inr ⟨hc, rfl⟩) (own_b 4 (by decide) bc2)
    · intro (hc : ¬ (q.toInt ≤ s3.toInt))
      refine W.iinc C m0_417 rfl (z := (c2 + (1 : Int32))) rfl (L' := [x0, x1, x2, x3, x4, x5, x6, .val (.int n), x8, x9, x10, x11, x12, x13, x14, x15, x16, x17, x18, x19, .val (.int s0), .val (.int s1), .val (.int s2), .val (.int s3), .val (.int s4), .val (.ref a), .val (.int q), .val (.int (c2 + (1 : Int32))), .unset, .unset, .unset, .unset]) rfl ?_
      have e1 := own_st 4 (by decide) (by decide) bc2
      exact Jc3 _ (Or.inl ⟨Int.not_le.mp hc, e1.1⟩) e1.2
  intro c3 hc3 bc3
  refine W.iload C m0_420 rfl ?_
  refine W.iconst C m0_422 (z := (4 : Int32)) rfl ?_
  refine W.icmpY C m0_423 (show n.toInt ≤ (4 : Int) from (by rw [hnn] <;> decide)) ?_
  refine W.aload C m0_436 rfl rfl ?_
  refine W.iload C m0_438 rfl ?_
  refine W.callV (y := mY3) (wt := 0) C m0_440 (hw _ (List.mem_of_getElem? (i := 15) rfl)) (hw _ (List.mem_of_getElem? (i := 16) rfl)) (hw _ (List.mem_of_getElem? (i := 18) rfl)) (hw _ (List.mem_of_getElem? (i := 17) rfl)) (hw _ (List.mem_of_getElem? (i := 5) rfl)) (hw _ (List.mem_of_getElem? (i := 19) rfl)) (by decide) E0 pd3 rfl (own_ix4 Z a0 hw a q e p5 s0 (p5 + (7919 : Int32)) s1 (p5 + (15838 : Int32)) s2 (p5 + (23757 : Int32)) s3 [] h n0 so0 so1 so2 F0 F1 A0) (as' := [(.int q)]) (rest := []) rfl rfl (Nat.le_of_eq rfl) (by decide) (by decide) (by decide) (by decide) ?_
  intro r4 h2 q3
  obtain ⟨rfl, r1, rfl, hr1⟩ := q3
  show W κ n0 Qx h 3 22 443 [x0, x1, x2, x3, x4, x5, x6, .val (.int n), x8, x9, x10, x11, x12, x13, x14, x15, x16, x17, x18, x19, .val (.int s0), .val (.int s1), .val (.int s2), .val (.int s3), .val (.int s4), .val (.ref a), .val (.int q), .val (.int c3), .unset, .unset, .unset, .unset] [(.int r1)]
  refine W.istore C m0_443 (L' := [x0, x1, x2, x3, x4, x5, x6, .val (.int n), x8, x9, x10, x11, x12, x13, x14, x15, x16, x17, x18, x19, .val (.int s0), .val (.int s1), .val (.int s2), .val (.int s3), .val (.int s4), .val (.ref a), .val (.int q), .val (.int c3), .val (.int r1), .unset, .unset, .unset]) rfl ?_
  refine W.iload C m0_445 rfl ?_
  refine W.iload C m0_447 rfl ?_
  refine W.icmp C m0_449 ?_ ?_
  · intro (h449 : ¬ r1.toInt = c3.toInt)
    refine W.iconst C m0_466 (z := (0 : Int32)) rfl ?_
    refine W.zreturn C m0_467 (hQ _ _ ?_)
    exfalso
    obtain ⟨r0, rk, j0, j1, j2, j3⟩ := hr1
    have m0 := own_m0 r0
    have m1 := own_cn 1 (by decide) hc0 j0 m0
    have m2 := own_cn 2 (by decide) hc1 j1 m1
    have m3 := own_cn 3 (by decide) hc2 j2 m2
    have m4 := own_cn 4 (by decide) hc3 j3 m3
    exact absurd (own_mk m4 rk) h449
  · intro (h449 : ¬ ¬ r1.toInt = c3.toInt)
    replace h449 := Decidable.not_not.mp h449
    refine W.aload C m0_452 rfl rfl ?_
    refine W.callV (y := mY4) (wt := 0) C m0_454 (hw _ (List.mem_of_getElem? (i := 22) rfl)) (hw _ (List.mem_of_getElem? (i := 23) rfl)) (hw _ (List.mem_of_getElem? (i := 25) rfl)) (hw _ (List.mem_of_getElem? (i := 24) rfl)) (hw _ (List.mem_of_getElem? (i := 5) rfl)) (hw _ (List.mem_of_getElem? (i := 26) rfl)) (by decide) E0 pd4 rfl (own_size Z a0 hw a (4 : Int32) h n0 F1) (as' := []) (rest := []) rfl rfl (Nat.le_of_eq rfl) (by decide) (by decide) (by decide) (by decide) ?_
    intro r7 h5 q6
    obtain ⟨rfl, rfl⟩ := q6
    show W κ n0 Qx h 3 22 457 [x0, x1, x2, x3, x4, x5, x6, .val (.int n), x8, x9, x10, x11, x12, x13, x14, x15, x16, x17, x18, x19, .val (.int s0), .val (.int s1), .val (.int s2), .val (.int s3), .val (.int s4), .val (.ref a), .val (.int q), .val (.int c3), .val (.int r1), .unset, .unset, .unset] [(.int (4 : Int32))]
    refine W.iload C m0_457 rfl ?_
    refine W.icmp C m0_459 ?_ ?_
    · intro (h459 : ¬ (4 : Int) = n.toInt)
      refine W.iconst C m0_466 (z := (0 : Int32)) rfl ?_
      refine W.zreturn C m0_467 (hQ _ _ ?_)
      exfalso
      exact absurd hnn.symm h459
    · intro (h459 : ¬ ¬ (4 : Int) = n.toInt)
      replace h459 := Decidable.not_not.mp h459
      refine W.iconst C m0_462 (z := (1 : Int32)) rfl ?_
      refine W.goto C m0_463 ?_
      refine W.zreturn C m0_467 (hQ _ _ ?_)
      exact rfl
set_option maxRecDepth 65536 in
set_option maxHeartbeats 4000000 in
theorem own_tl4b (Z : State) (a0 : Array Value) (hw : ∀ d ∈ tables_1, d.before a0 Z = true) {x0 x1 x2 x3 x4 x5 x6 x8 x9 x10 x11 x12 x13 x14 x15 x16 x17 x18 x19 : Slot} {j : Int32} {w28 w30 : Int64} (n s0 s1 s2 s3 s4 q p5 : Int32) (a e : Addr) (h : Heap) (n0 : Nat) (hnn : n.toInt = 4) (so0 : s0.toInt < s1.toInt) (so1 : s1.toInt < s2.toInt) (so2 : s2.toInt < s3.toInt) (so3 : s3.toInt < s4.toInt) (E0 : Exa Z h a "com/example/principal/principal/engine/Row") (F0 : Fld Z h a "com/example/principal/principal/engine/Row" "entries" "[I" (.ref e)) (F1 : Fld Z h a "com/example/principal/principal/engine/Row" "size" "I" (.int (4 : Int32))) (A0 : Av Z h e .int ([p5, s0, (p5 + (7919 : Int32)), s1, (p5 + (15838 : Int32)), s2, (p5 + (23757 : Int32)), s3].map Value.int))
    (κ : KT) (Qx : Option Value → Heap → Prop) (hQ : ∀ v h', v = some (.int 1) → Qx v h') (C : Good κ room_1 Z "com/example/principal/principal/engine/RowIndexOfStampPinLaw" "law" code 32 (some .boolean)) : W κ n0 Qx h 3 22 354 [x0, x1, x2, x3, x4, x5, x6, .val (.int n), x8, x9, x10, x11, x12, x13, x14, x15, x16, x17, x18, x19, .val (.int s0), .val (.int s1), .val (.int s2), .val (.int s3), .val (.int s4), .val (.ref a), .val (.int q), .val (.int j), .val (.long w28), .second, .val (.long w30), .second] [] := by
  refine W.iconst C m0_354 (z := (0 : Int32)) rfl ?_
  refine W.istore C m0_355 (L' := [x0, x1, x2, x3, x4, x5, x6, .val (.int n), x8, x9, x10, x11, x12, x13, x14, x15, x16, x17, x18, x19, .val (.int s0), .val (.int s1), .val (.int s2), .val (.int s3), .val (.int s4), .val (.ref a), .val (.int q), .val (.int (0 : Int32)), .val (.long w28), .second, .val (.long w30), .second]) rfl ?_
  refine W.iload C m0_357 rfl ?_
  refine W.ifN C m0_359 (show ¬ (n.toInt ≤ (0 : Int)) from (by rw [hnn] <;> decide)) ?_
  refine W.iload C m0_362 rfl ?_
  refine W.iload C m0_364 rfl ?_
  suffices Jc0 : ∀ c0 : Int32, ((s0.toInt < q.toInt ∧ c0.toInt = (0 : Int) + 1) ∨ (q.toInt ≤ s0.toInt ∧ c0.toInt = (0 : Int))) → (0 ≤ c0.toInt ∧ c0.toInt ≤ 1) → W κ n0 Qx h 3 22 372 [x0, x1, x2, x3, x4, x5, x6, .val (.int n), x8, x9, x10, x11, x12, x13, x14, x15, x16, x17, x18, x19, .val (.int s0), .val (.int s1), .val (.int s2), .val (.int s3), .val (.int s4), .val (.ref a), .val (.int q), .val (.int c0), .val (.long w28), .second, .val (.long w30), .second] [] by
    refine W.icmp C m0_366 ?_ ?_
    · intro (hc : q.toInt ≤ s0.toInt)
      exact Jc0 _ (Or.inr ⟨hc, rfl⟩) ⟨by decide, by decide⟩
    · intro (hc : ¬ (q.toInt ≤ s0.toInt))
      refine W.iinc C m0_369 rfl (z := (1 : Int32)) rfl (L' := [x0, x1, x2, x3, x4, x5, x6, .val (.int n), x8, x9, x10, x11, x12, x13, x14, x15, x16, x17, x18, x19, .val (.int s0), .val (.int s1), .val (.int s2), .val (.int s3), .val (.int s4), .val (.ref a), .val (.int q), .val (.int (1 : Int32)), .val (.long w28), .second, .val (.long w30), .second]) rfl ?_
      exact Jc0 _ (Or.inl ⟨Int.not_le.mp hc, rfl⟩) ⟨by decide, by decide⟩
  intro c0 hc0 bc0
  refine W.iload C m0_372 rfl ?_
  refine W.iconst C m0_374 (z := (1 : Int32)) rfl ?_
  refine W.icmpN C m0_375 (show ¬ (n.toInt ≤ (1 : Int)) from (by rw [hnn] <;> decide)) ?_
  refine W.iload C m0_378 rfl ?_
  refine W.iload C m0_380 rfl ?_
  suffices Jc1 : ∀ c1 : Int32, ((s1.toInt < q.toInt ∧ c1.toInt = c0.toInt + 1) ∨ (q.toInt ≤ s1.toInt ∧ c1.toInt = c0.toInt)) → (0 ≤ c1.toInt ∧ c1.toInt ≤ 2) → W κ n0 Qx h 3 22 388 [x0, x1, x2, x3, x4, x5, x6, .val (.int n), x8, x9, x10, x11, x12, x13, x14, x15, x16, x17, x18, x19, .val (.int s0), .val (.int s1), .val (.int s2), .val (.int s3), .val (.int s4), .val (.ref a), .val (.int q), .val (.int c1), .val (.long w28), .second, .val (.long w30), .second] [] by
    refine W.icmp C m0_382 ?_ ?_
    · intro (hc : q.toInt ≤ s1.toInt)
      exact Jc1 _ (Or.inr ⟨hc, rfl⟩) (own_b 2 (by decide) bc0)
    · intro (hc : ¬ (q.toInt ≤ s1.toInt))
      refine W.iinc C m0_385 rfl (z := (c0 + (1 : Int32))) rfl (L' := [x0, x1, x2, x3, x4, x5, x6, .val (.int n), x8, x9, x10, x11, x12, x13, x14, x15, x16, x17, x18, x19, .val (.int s0), .val (.int s1), .val (.int s2), .val (.int s3), .val (.int s4), .val (.ref a), .val (.int q), .val (.int (c0 + (1 : Int32))), .val (.long w28), .second, .val (.long w30), .second]) rfl ?_
      have e1 := own_st 2 (by decide) (by decide) bc0
      exact Jc1 _ (Or.inl ⟨Int.not_le.mp hc, e1.1⟩) e1.2
  intro c1 hc1 bc1
  refine W.iload C m0_388 rfl ?_
  refine W.iconst C m0_390 (z := (2 : Int32)) rfl ?_
  refine W.icmpN C m0_391 (show ¬ (n.toInt ≤ (2 : Int)) from (by rw [hnn] <;> decide)) ?_
  refine W.iload C m0_394 rfl ?_
  refine W.iload C m0_396 rfl ?_
  suffices Jc2 : ∀ c2 : Int32, ((s2.toInt < q.toInt ∧ c2.toInt = c1.toInt + 1) ∨ (q.toInt ≤ s2.toInt ∧ c2.toInt = c1.toInt)) → (0 ≤ c2.toInt ∧ c2.toInt ≤ 3) → W κ n0 Qx h 3 22 404 [x0, x1, x2, x3, x4, x5, x6, .val (.int n), x8, x9, x10, x11, x12, x13, x14, x15, x16, x17, x18, x19, .val (.int s0), .val (.int s1), .val (.int s2), .val (.int s3), .val (.int s4), .val (.ref a), .val (.int q), .val (.int c2), .val (.long w28), .second, .val (.long w30), .second] [] by
    refine W.icmp C m0_398 ?_ ?_
    · intro (hc : q.toInt ≤ s2.toInt)
      exact Jc2 _ (Or.inr ⟨hc, rfl⟩) (own_b 3 (by decide) bc1)
    · intro (hc : ¬ (q.toInt ≤ s2.toInt))
      refine W.iinc C m0_401 rfl (z := (c1 + (1 : Int32))) rfl (L' := [x0, x1, x2, x3, x4, x5, x6, .val (.int n), x8, x9, x10, x11, x12, x13, x14, x15, x16, x17, x18, x19, .val (.int s0), .val (.int s1), .val (.int s2), .val (.int s3), .val (.int s4), .val (.ref a), .val (.int q), .val (.int (c1 + (1 : Int32))), .val (.long w28), .second, .val (.long w30), .second]) rfl ?_
      have e1 := own_st 3 (by decide) (by decide) bc1
      exact Jc2 _ (Or.inl ⟨Int.not_le.mp hc, e1.1⟩) e1.2
  intro c2 hc2 bc2
  refine W.iload C m0_404 rfl ?_
  refine W.iconst C m0_406 (z := (3 : Int32)) rfl ?_
  refine W.icmpN C m0_407 (show ¬ (n.toInt ≤ (3 : Int)) from (by rw [hnn] <;> decide)) ?_
  refine W.iload C m0_410 rfl ?_
  refine W.iload C m0_412 rfl ?_
  suffices Jc3 : ∀ c3 : Int32, ((s3.toInt < q.toInt ∧ c3.toInt = c2.toInt + 1) ∨ (q.toInt ≤ s3.toInt ∧ c3.toInt = c2.toInt)) → (0 ≤ c3.toInt ∧ c3.toInt ≤ 4) → W κ n0 Qx h 3 22 420 [x0, x1, x2, x3, x4, x5, x6, .val (.int n), x8, x9, x10, x11, x12, x13, x14, x15, x16, x17, x18, x19, .val (.int s0), .val (.int s1), .val (.int s2), .val (.int s3), .val (.int s4), .val (.ref a), .val (.int q), .val (.int c3), .val (.long w28), .second, .val (.long w30), .second] [] by
    refine W.icmp C m0_414 ?_ ?_
    · intro (hc : q.toInt ≤ s3.toInt)
      exact Jc3 _ (Or.inr ⟨hc, rfl⟩) (own_b 4 (by decide) bc2)
    · intro (hc : ¬ (q.toInt ≤ s3.toInt))
      refine W.iinc C m0_417 rfl (z := (c2 + (1 : Int32))) rfl (L' := [x0, x1, x2, x3, x4, x5, x6, .val (.int n), x8, x9, x10, x11, x12, x13, x14, x15, x16, x17, x18, x19, .val (.int s0), .val (.int s1), .val (.int s2), .val (.int s3), .val (.int s4), .val (.ref a), .val (.int q), .val (.int (c2 + (1 : Int32))), .val (.long w28), .second, .val (.long w30), .second]) rfl ?_
      have e1 := own_st 4 (by decide) (by decide) bc2
      exact Jc3 _ (Or.inl ⟨Int.not_le.mp hc, e1.1⟩) e1.2
  intro c3 hc3 bc3
  refine W.iload C m0_420 rfl ?_
  refine W.iconst C m0_422 (z := (4 : Int32)) rfl ?_
  refine W.icmpY C m0_423 (show n.toInt ≤ (4 : Int) from (by rw [hnn] <;> decide)) ?_
  refine W.aload C m0_436 rfl rfl ?_
  refine W.iload C m0_438 rfl ?_
  refine W.callV (y := mY3) (wt := 0) C m0_440 (hw _ (List.mem_of_getElem? (i := 15) rfl)) (hw _ (List.mem_of_getElem? (i := 16) rfl)) (hw _ (List.mem_of_getElem? (i := 18) rfl)) (hw _ (List.mem_of_getElem? (i := 17) rfl)) (hw _ (List.mem_of_getElem? (i := 5) rfl)) (hw _ (List.mem_of_getElem? (i := 19) rfl)) (by decide) E0 pd3 rfl (own_ix4 Z a0 hw a q e p5 s0 (p5 + (7919 : Int32)) s1 (p5 + (15838 : Int32)) s2 (p5 + (23757 : Int32)) s3 [] h n0 so0 so1 so2 F0 F1 A0) (as' := [(.int q)]) (rest := []) rfl rfl (Nat.le_of_eq rfl) (by decide) (by decide) (by decide) (by decide) ?_
  intro r4 h2 q3
  obtain ⟨rfl, r1, rfl, hr1⟩ := q3
  show W κ n0 Qx h 3 22 443 [x0, x1, x2, x3, x4, x5, x6, .val (.int n), x8, x9, x10, x11, x12, x13, x14, x15, x16, x17, x18, x19, .val (.int s0), .val (.int s1), .val (.int s2), .val (.int s3), .val (.int s4), .val (.ref a), .val (.int q), .val (.int c3), .val (.long w28), .second, .val (.long w30), .second] [(.int r1)]
  refine W.istore C m0_443 (L' := [x0, x1, x2, x3, x4, x5, x6, .val (.int n), x8, x9, x10, x11, x12, x13, x14, x15, x16, x17, x18, x19, .val (.int s0), .val (.int s1), .val (.int s2), .val (.int s3), .val (.int s4), .val (.ref a), .val (.int q), .val (.int c3), .val (.int r1), .unset, .val (.long w30), .second]) rfl ?_
  refine W.iload C m0_445 rfl ?_
  refine W.iload C m0_447 rfl ?_
  refine W.icmp C m0_449 ?_ ?_
  · intro (h449 : ¬ r1.toInt = c3.toInt)
    refine W.iconst C m0_466 (z := (0 : Int32)) rfl ?_
    refine W.zreturn C m0_467 (hQ _ _ ?_)
    exfalso
    obtain ⟨r0, rk, j0, j1, j2, j3⟩ := hr1
    have m0 := own_m0 r0
    have m1 := own_cn 1 (by decide) hc0 j0 m0
    have m2 := own_cn 2 (by decide) hc1 j1 m1
    have m3 := own_cn 3 (by decide) hc2 j2 m2
    have m4 := own_cn 4 (by decide) hc3 j3 m3
    exact absurd (own_mk m4 rk) h449
  · intro (h449 : ¬ ¬ r1.toInt = c3.toInt)
    replace h449 := Decidable.not_not.mp h449
    refine W.aload C m0_452 rfl rfl ?_
    refine W.callV (y := mY4) (wt := 0) C m0_454 (hw _ (List.mem_of_getElem? (i := 22) rfl)) (hw _ (List.mem_of_getElem? (i := 23) rfl)) (hw _ (List.mem_of_getElem? (i := 25) rfl)) (hw _ (List.mem_of_getElem? (i := 24) rfl)) (hw _ (List.mem_of_getElem? (i := 5) rfl)) (hw _ (List.mem_of_getElem? (i := 26) rfl)) (by decide) E0 pd4 rfl (own_size Z a0 hw a (4 : Int32) h n0 F1) (as' := []) (rest := []) rfl rfl (Nat.le_of_eq rfl) (by decide) (by decide) (by decide) (by decide) ?_
    intro r7 h5 q6
    obtain ⟨rfl, rfl⟩ := q6
    show W κ n0 Qx h 3 22 457 [x0, x1, x2, x3, x4, x5, x6, .val (.int n), x8, x9, x10, x11, x12, x13, x14, x15, x16, x17, x18, x19, .val (.int s0), .val (.int s1), .val (.int s2), .val (.int s3), .val (.int s4), .val (.ref a), .val (.int q), .val (.int c3), .val (.int r1), .unset, .val (.long w30), .second] [(.int (4 : Int32))]
    refine W.iload C m0_457 rfl ?_
    refine W.icmp C m0_459 ?_ ?_
    · intro (h459 : ¬ (4 : Int) = n.toInt)
      refine W.iconst C m0_466 (z := (0 : Int32)) rfl ?_
      refine W.zreturn C m0_467 (hQ _ _ ?_)
      exfalso
      exact absurd hnn.symm h459
    · intro (h459 : ¬ ¬ (4 : Int) = n.toInt)
      replace h459 := Decidable.not_not.mp h459
      refine W.iconst C m0_462 (z := (1 : Int32)) rfl ?_
      refine W.goto C m0_463 ?_
      refine W.zreturn C m0_467 (hQ _ _ ?_)
      exact rfl
set_option maxRecDepth 65536 in
set_option maxHeartbeats 4000000 in
theorem own_cs4 (Z : State) (a0 : Array Value) (hw : ∀ d ∈ tables_1, d.before a0 Z = true) {x0 x1 x2 x3 x8 x9 x10 x11 x12 x13 x14 x15 x16 x17 x18 x19 : Slot} (p3 p4 p5 n s0 s1 s2 s3 s4 : Int32) (a e : Addr) (h : Heap) (n0 : Nat) (hnn : n.toInt = 4) (so0 : s0.toInt < s1.toInt) (so1 : s1.toInt < s2.toInt) (so2 : s2.toInt < s3.toInt) (so3 : s3.toInt < s4.toInt) (z0 : n0 ≤ h.size) (g0 : n0 ≤ a) (g1 : n0 ≤ e) (hae : a ≠ e) (E0 : Exa Z h a "com/example/principal/principal/engine/Row") (F0 : Fld Z h a "com/example/principal/principal/engine/Row" "entries" "[I" (.ref e)) (F1 : Fld Z h a "com/example/principal/principal/engine/Row" "size" "I" (.int (0 : Int32))) (A0 : Av Z h e .int ([(0 : Int32), (0 : Int32), (0 : Int32), (0 : Int32)].map Value.int))
    (κ : KT) (Qx : Option Value → Heap → Prop) (hQ : ∀ v h', v = some (.int 1) → Qx v h') (C : Good κ room_1 Z "com/example/principal/principal/engine/RowIndexOfStampPinLaw" "law" code 32 (some .boolean)) : W κ n0 Qx h 2 6 146 [x0, x1, x2, x3, .val (.int p3), .val (.int p4), .val (.int p5), .val (.int n), x8, x9, x10, x11, x12, x13, x14, x15, x16, x17, x18, x19, .val (.int s0), .val (.int s1), .val (.int s2), .val (.int s3), .val (.int s4), .val (.ref a), .unset, .unset, .unset, .unset, .unset, .unset] [] := by
  refine W.iload C m0_146 rfl ?_
  refine W.ifN C m0_148 (show ¬ (n.toInt ≤ (0 : Int)) from (by rw [hnn] <;> decide)) ?_
  refine W.aload C m0_151 rfl rfl ?_
  refine W.iload C m0_153 rfl ?_
  refine W.iload C m0_155 rfl ?_
  refine W.callV (y := mY5) (wt := 0) C m0_157 (hw _ (List.mem_of_getElem? (i := 27) rfl)) (hw _ (List.mem_of_getElem? (i := 28) rfl)) (hw _ (List.mem_of_getElem? (i := 30) rfl)) (hw _ (List.mem_of_getElem? (i := 29) rfl)) (hw _ (List.mem_of_getElem? (i := 5) rfl)) (hw _ (List.mem_of_getElem? (i := 31) rfl)) (by decide) E0 pd5 rfl (own_ad Z a0 hw a p5 s0 e (0 : Int32) (1 : Int32) 0 [(0 : Int32), (0 : Int32), (0 : Int32), (0 : Int32)] h n0 z0 g0 E0 F0 F1 A0 rfl rfl hae g1 (Nat.le_of_ble_eq_true rfl) (Nat.le_of_ble_eq_true rfl)) (as' := [(.int p5), (.int s0)]) (rest := []) rfl rfl (Nat.le_of_eq rfl) (by decide) (by decide) (by decide) (by decide) ?_
  intro r10 h8 q9
  obtain ⟨rfl, K1, E2, F3, F4, A5⟩ := q9
  have E11 := E0.keep K1
  have z12 : n0 ≤ h8.size := Nat.le_trans z0 K1.1
  have A13 : Av Z h8 e .int ([p5, s0, (0 : Int32), (0 : Int32)].map Value.int) := A5
  show W κ n0 Qx h8 2 6 160 [x0, x1, x2, x3, .val (.int p3), .val (.int p4), .val (.int p5), .val (.int n), x8, x9, x10, x11, x12, x13, x14, x15, x16, x17, x18, x19, .val (.int s0), .val (.int s1), .val (.int s2), .val (.int s3), .val (.int s4), .val (.ref a), .unset, .unset, .unset, .unset, .unset, .unset] []
  refine W.iload C m0_160 rfl ?_
  refine W.iconst C m0_162 (z := (1 : Int32)) rfl ?_
  refine W.icmpN C m0_163 (show ¬ (n.toInt ≤ (1 : Int)) from (by rw [hnn] <;> decide)) ?_
  refine W.aload C m0_166 rfl rfl ?_
  refine W.iload C m0_168 rfl ?_
  refine W.sipush C m0_170 (z := (7919 : Int32)) rfl ?_
  refine W.iadd C m0_173 rfl ?_
  refine W.iload C m0_174 rfl ?_
  refine W.callV (y := mY5) (wt := 0) C m0_176 (hw _ (List.mem_of_getElem? (i := 27) rfl)) (hw _ (List.mem_of_getElem? (i := 28) rfl)) (hw _ (List.mem_of_getElem? (i := 30) rfl)) (hw _ (List.mem_of_getElem? (i := 29) rfl)) (hw _ (List.mem_of_getElem? (i := 5) rfl)) (hw _ (List.mem_of_getElem? (i := 31) rfl)) (by decide) E2 pd5 rfl (own_ad Z a0 hw a (p5 + (7919 : Int32)) s1 e (1 : Int32) (2 : Int32) 1 [p5, s0, (0 : Int32), (0 : Int32)] h8 n0 z12 g0 E2 F3 F4 A13 rfl rfl hae g1 (Nat.le_of_ble_eq_true rfl) (Nat.le_of_ble_eq_true rfl)) (as' := [(.int (p5 + (7919 : Int32))), (.int s1)]) (rest := []) rfl rfl (Nat.le_of_eq rfl) (by decide) (by decide) (by decide) (by decide) ?_
  intro r23 h21 q22
  obtain ⟨rfl, K14, E15, F16, F17, A18⟩ := q22
  have E24 := E2.keep K14
  have z25 : n0 ≤ h21.size := Nat.le_trans z12 K14.1
  have A26 : Av Z h21 e .int ([p5, s0, (p5 + (7919 : Int32)), s1].map Value.int) := A18
  show W κ n0 Qx h21 2 6 179 [x0, x1, x2, x3, .val (.int p3), .val (.int p4), .val (.int p5), .val (.int n), x8, x9, x10, x11, x12, x13, x14, x15, x16, x17, x18, x19, .val (.int s0), .val (.int s1), .val (.int s2), .val (.int s3), .val (.int s4), .val (.ref a), .unset, .unset, .unset, .unset, .unset, .unset] []
  refine W.iload C m0_179 rfl ?_
  refine W.iconst C m0_181 (z := (2 : Int32)) rfl ?_
  refine W.icmpN C m0_182 (show ¬ (n.toInt ≤ (2 : Int)) from (by rw [hnn] <;> decide)) ?_
  refine W.aload C m0_185 rfl rfl ?_
  refine W.iload C m0_187 rfl ?_
  refine W.sipush C m0_189 (z := (15838 : Int32)) rfl ?_
  refine W.iadd C m0_192 rfl ?_
  refine W.iload C m0_193 rfl ?_
  refine W.callV (y := mY5) (wt := 0) C m0_195 (hw _ (List.mem_of_getElem? (i := 27) rfl)) (hw _ (List.mem_of_getElem? (i := 28) rfl)) (hw _ (List.mem_of_getElem? (i := 30) rfl)) (hw _ (List.mem_of_getElem? (i := 29) rfl)) (hw _ (List.mem_of_getElem? (i := 5) rfl)) (hw _ (List.mem_of_getElem? (i := 31) rfl)) (by decide) E15 pd5 rfl (own_ag Z a0 hw a (p5 + (15838 : Int32)) s2 e (2 : Int32) (3 : Int32) 2 [p5, s0, (p5 + (7919 : Int32)), s1] h21 n0 z25 g0 E15 F16 F17 A26 rfl rfl hae rfl (Nat.le_of_ble_eq_true rfl) (Nat.le_of_ble_eq_true rfl)) (as' := [(.int (p5 + (15838 : Int32))), (.int s2)]) (rest := []) rfl rfl (Nat.le_of_eq rfl) (by decide) (by decide) (by decide) (by decide) ?_
  intro r36 h34 q35
  obtain ⟨rfl, e32, K27, g33, E28, F29, F30, A31⟩ := q35
  have E37 := E15.keep K27
  have z38 : n0 ≤ h34.size := Nat.le_trans z25 K27.1
  have A39 := A26.keep K27 (ninS (Ne.symm hae) nin0)
  have ne40 : a ≠ e32 := Nat.ne_of_lt (Nat.lt_of_lt_of_le E15.lt g33)
  have ne41 : e ≠ e32 := Nat.ne_of_lt (Nat.lt_of_lt_of_le A26.lt g33)
  have g42 : n0 ≤ e32 := Nat.le_trans z25 g33
  have A43 : Av Z h34 e32 .int ([p5, s0, (p5 + (7919 : Int32)), s1, (p5 + (15838 : Int32)), s2, (0 : Int32), (0 : Int32)].map Value.int) := A31
  show W κ n0 Qx h34 3 22 198 [x0, x1, x2, x3, .val (.int p3), .val (.int p4), .val (.int p5), .val (.int n), x8, x9, x10, x11, x12, x13, x14, x15, x16, x17, x18, x19, .val (.int s0), .val (.int s1), .val (.int s2), .val (.int s3), .val (.int s4), .val (.ref a), .unset, .unset, .unset, .unset, .unset, .unset] []
  refine W.iload C m0_198 rfl ?_
  refine W.iconst C m0_200 (z := (3 : Int32)) rfl ?_
  refine W.icmpN C m0_201 (show ¬ (n.toInt ≤ (3 : Int)) from (by rw [hnn] <;> decide)) ?_
  refine W.aload C m0_204 rfl rfl ?_
  refine W.iload C m0_206 rfl ?_
  refine W.sipush C m0_208 (z := (23757 : Int32)) rfl ?_
  refine W.iadd C m0_211 rfl ?_
  refine W.iload C m0_212 rfl ?_
  refine W.callV (y := mY5) (wt := 0) C m0_214 (hw _ (List.mem_of_getElem? (i := 27) rfl)) (hw _ (List.mem_of_getElem? (i := 28) rfl)) (hw _ (List.mem_of_getElem? (i := 30) rfl)) (hw _ (List.mem_of_getElem? (i := 29) rfl)) (hw _ (List.mem_of_getElem? (i := 5) rfl)) (hw _ (List.mem_of_getElem? (i := 31) rfl)) (by decide) E28 pd5 rfl (own_ad Z a0 hw a (p5 + (23757 : Int32)) s3 e32 (3 : Int32) (4 : Int32) 3 [p5, s0, (p5 + (7919 : Int32)), s1, (p5 + (15838 : Int32)), s2, (0 : Int32), (0 : Int32)] h34 n0 z38 g0 E28 F29 F30 A43 rfl rfl ne40 g42 (Nat.le_of_ble_eq_true rfl) (Nat.le_of_ble_eq_true rfl)) (as' := [(.int (p5 + (23757 : Int32))), (.int s3)]) (rest := []) rfl rfl (Nat.le_of_eq rfl) (by decide) (by decide) (by decide) (by decide) ?_
  intro r53 h51 q52
  obtain ⟨rfl, K44, E45, F46, F47, A48⟩ := q52
  have E54 := E28.keep K44
  have z55 : n0 ≤ h51.size := Nat.le_trans z38 K44.1
  have A56 := A39.keep K44 (ninS (Ne.symm hae) (ninS ne41 nin0))
  have A57 : Av Z h51 e32 .int ([p5, s0, (p5 + (7919 : Int32)), s1, (p5 + (15838 : Int32)), s2, (p5 + (23757 : Int32)), s3].map Value.int) := A48
  show W κ n0 Qx h51 3 22 217 [x0, x1, x2, x3, .val (.int p3), .val (.int p4), .val (.int p5), .val (.int n), x8, x9, x10, x11, x12, x13, x14, x15, x16, x17, x18, x19, .val (.int s0), .val (.int s1), .val (.int s2), .val (.int s3), .val (.int s4), .val (.ref a), .unset, .unset, .unset, .unset, .unset, .unset] []
  refine W.iload C m0_217 rfl ?_
  refine W.iconst C m0_219 (z := (4 : Int32)) rfl ?_
  refine W.icmpY C m0_220 (show n.toInt ≤ (4 : Int) from (by rw [hnn] <;> decide)) ?_
  refine W.iload C m0_236 rfl ?_
  refine W.istore C m0_238 (L' := [x0, x1, x2, x3, .val (.int p3), .val (.int p4), .val (.int p5), .val (.int n), x8, x9, x10, x11, x12, x13, x14, x15, x16, x17, x18, x19, .val (.int s0), .val (.int s1), .val (.int s2), .val (.int s3), .val (.int s4), .val (.ref a), .val (.int p4), .unset, .unset, .unset, .unset, .unset]) rfl ?_
  refine W.iload C m0_240 rfl ?_
  refine W.iconst C m0_242 (z := (1 : Int32)) rfl ?_
  refine W.iand C m0_243 rfl ?_
  refine W.ifc C m0_244 ?_ ?_
  · intro (h244 : ¬ ((p3 &&& (1 : Int32))).toInt = (0 : Int))
    exact own_tl4a Z a0 hw n s0 s1 s2 s3 s4 p4 p5 a e32 h51 n0 hnn so0 so1 so2 so3 E45 F46 F47 A57 κ Qx hQ C
  · intro (h244 : ¬ ¬ ((p3 &&& (1 : Int32))).toInt = (0 : Int))
    replace h244 := Decidable.not_not.mp h244
    refine W.iload C m0_247 rfl ?_
    refine W.ifN C m0_249 (show ¬ (n.toInt ≤ (0 : Int)) from (by rw [hnn] <;> decide)) ?_
    refine W.iload C m0_252 rfl ?_
    refine W.iconst C m0_254 (z := (1 : Int32)) rfl ?_
    refine W.iushr C m0_255 rfl ?_
    refine W.ldc C m0_256 (hw _ (List.mem_of_getElem? (i := 44) rfl)) ?_
    refine W.iand C m0_258 rfl ?_
    refine W.iload C m0_259 rfl ?_
    refine W.irem C m0_261 (fun e => by rw [e] at hnn; exact absurd hnn (by decide)) rfl ?_
    generalize hv58 : (((p3.toUInt32 >>> ((1 : Int32) &&& 31).toUInt32).toInt32 &&& (65535 : Int32)) % n) = v58
    refine W.istore C m0_262 (L' := [x0, x1, x2, x3, .val (.int p3), .val (.int p4), .val (.int p5), .val (.int n), x8, x9, x10, x11, x12, x13, x14, x15, x16, x17, x18, x19, .val (.int s0), .val (.int s1), .val (.int s2), .val (.int s3), .val (.int s4), .val (.ref a), .val (.int p4), .val (.int v58), .unset, .unset, .unset, .unset]) rfl ?_
    refine W.iload C m0_264 rfl ?_
    suffices J266 : ∀ (w59 : Int64), (True) → W κ n0 Qx h51 3 22 314 [x0, x1, x2, x3, .val (.int p3), .val (.int p4), .val (.int p5), .val (.int n), x8, x9, x10, x11, x12, x13, x14, x15, x16, x17, x18, x19, .val (.int s0), .val (.int s1), .val (.int s2), .val (.int s3), .val (.int s4), .val (.ref a), .val (.int p4), .val (.int v58), .unset, .unset, .unset, .unset] [(.long w59)] by
      refine W.ifc C m0_266 ?_ ?_
      · intro (h266 : ¬ v58.toInt = (0 : Int))
        refine W.iload C m0_275 rfl ?_
        refine W.iconst C m0_277 (z := (1 : Int32)) rfl ?_
        refine W.icmp C m0_278 ?_ ?_
        · intro (h278 : ¬ v58.toInt = (1 : Int))
          refine W.iload C m0_287 rfl ?_
          refine W.iconst C m0_289 (z := (2 : Int32)) rfl ?_
          refine W.icmp C m0_290 ?_ ?_
          · intro (h290 : ¬ v58.toInt = (2 : Int))
            refine W.iload C m0_299 rfl ?_
            refine W.iconst C m0_301 (z := (3 : Int32)) rfl ?_
            refine W.icmp C m0_302 ?_ ?_
            · intro (h302 : ¬ v58.toInt = (3 : Int))
              refine W.iload C m0_311 rfl ?_
              refine W.i2l C m0_313 rfl ?_
              exact J266 _ (by trivial)
            · intro (h302 : ¬ ¬ v58.toInt = (3 : Int))
              replace h302 := Decidable.not_not.mp h302
              refine W.iload C m0_305 rfl ?_
              refine W.i2l C m0_307 rfl ?_
              refine W.goto C m0_308 ?_
              exact J266 _ (by trivial)
          · intro (h290 : ¬ ¬ v58.toInt = (2 : Int))
            replace h290 := Decidable.not_not.mp h290
            refine W.iload C m0_293 rfl ?_
            refine W.i2l C m0_295 rfl ?_
            refine W.goto C m0_296 ?_
            exact J266 _ (by trivial)
        · intro (h278 : ¬ ¬ v58.toInt = (1 : Int))
          replace h278 := Decidable.not_not.mp h278
          refine W.iload C m0_281 rfl ?_
          refine W.i2l C m0_283 rfl ?_
          refine W.goto C m0_284 ?_
          exact J266 _ (by trivial)
      · intro (h266 : ¬ ¬ v58.toInt = (0 : Int))
        replace h266 := Decidable.not_not.mp h266
        refine W.iload C m0_269 rfl ?_
        refine W.i2l C m0_271 rfl ?_
        refine W.goto C m0_272 ?_
        exact J266 _ (by trivial)
    intro w59 hJ266
    refine W.lstore C m0_314 (L' := [x0, x1, x2, x3, .val (.int p3), .val (.int p4), .val (.int p5), .val (.int n), x8, x9, x10, x11, x12, x13, x14, x15, x16, x17, x18, x19, .val (.int s0), .val (.int s1), .val (.int s2), .val (.int s3), .val (.int s4), .val (.ref a), .val (.int p4), .val (.int v58), .val (.long w59), .second, .unset, .unset]) rfl ?_
    refine W.lload C m0_316 rfl ?_
    refine W.iload C m0_318 rfl ?_
    refine W.bipush C m0_320 (z := (17 : Int32)) rfl ?_
    refine W.iushr C m0_322 rfl ?_
    refine W.iconst C m0_323 (z := (3 : Int32)) rfl ?_
    refine W.iand C m0_324 rfl ?_
    refine W.iconst C m0_325 (z := (1 : Int32)) rfl ?_
    refine W.isub C m0_326 rfl ?_
    refine W.i2l C m0_327 rfl ?_
    refine W.ladd C m0_328 rfl ?_
    generalize hv60 : (w59 + (((p3.toUInt32 >>> ((17 : Int32) &&& 31).toUInt32).toInt32 &&& (3 : Int32)) - (1 : Int32)).toInt64) = v60
    refine W.lstore C m0_329 (L' := [x0, x1, x2, x3, .val (.int p3), .val (.int p4), .val (.int p5), .val (.int n), x8, x9, x10, x11, x12, x13, x14, x15, x16, x17, x18, x19, .val (.int s0), .val (.int s1), .val (.int s2), .val (.int s3), .val (.int s4), .val (.ref a), .val (.int p4), .val (.int v58), .val (.long w59), .second, .val (.long v60), .second]) rfl ?_
    refine W.lload C m0_331 rfl ?_
    refine W.ldc2 C m0_333 (hw _ (List.mem_of_getElem? (i := 45) rfl)) ?_
    suffices J336 : ∀ (w61 : Int32), (True) → W κ n0 Qx h51 3 22 354 [x0, x1, x2, x3, .val (.int p3), .val (.int p4), .val (.int p5), .val (.int n), x8, x9, x10, x11, x12, x13, x14, x15, x16, x17, x18, x19, .val (.int s0), .val (.int s1), .val (.int s2), .val (.int s3), .val (.int s4), .val (.ref a), .val (.int w61), .val (.int v58), .val (.long w59), .second, .val (.long v60), .second] [] by
      refine W.lc C m0_336 m0_337 ?_ ?_
      · intro (h336 : v60.toInt < (-2147483648 : Int))
        exact J336 _ (by trivial)
      · intro (h336 : ¬ (v60.toInt < (-2147483648 : Int)))
        replace h336 : (-2147483648 : Int) ≤ v60.toInt := by omega
        refine W.lload C m0_340 rfl ?_
        refine W.ldc2 C m0_342 (hw _ (List.mem_of_getElem? (i := 2) rfl)) ?_
        refine W.lc C m0_345 m0_346 ?_ ?_
        · intro (h345 : (2147483647 : Int) < v60.toInt)
          exact J336 _ (by trivial)
        · intro (h345 : ¬ ((2147483647 : Int) < v60.toInt))
          replace h345 : v60.toInt ≤ (2147483647 : Int) := by omega
          refine W.lload C m0_349 rfl ?_
          refine W.l2i C m0_351 rfl ?_
          refine W.istore C m0_352 (L' := [x0, x1, x2, x3, .val (.int p3), .val (.int p4), .val (.int p5), .val (.int n), x8, x9, x10, x11, x12, x13, x14, x15, x16, x17, x18, x19, .val (.int s0), .val (.int s1), .val (.int s2), .val (.int s3), .val (.int s4), .val (.ref a), .val (.int v60.toInt32), .val (.int v58), .val (.long w59), .second, .val (.long v60), .second]) rfl ?_
          exact J336 _ (by trivial)
    intro w61 hJ336
    exact own_tl4b Z a0 hw n s0 s1 s2 s3 s4 w61 p5 a e32 h51 n0 hnn so0 so1 so2 so3 E45 F46 F47 A57 κ Qx hQ C
set_option maxRecDepth 65536 in
set_option maxHeartbeats 4000000 in
theorem own_tl5a (Z : State) (a0 : Array Value) (hw : ∀ d ∈ tables_1, d.before a0 Z = true) {x0 x1 x2 x3 x4 x5 x6 x8 x9 x10 x11 x12 x13 x14 x15 x16 x17 x18 x19 : Slot} (n s0 s1 s2 s3 s4 q p5 : Int32) (a e : Addr) (h : Heap) (n0 : Nat) (hnn : n.toInt = 5) (so0 : s0.toInt < s1.toInt) (so1 : s1.toInt < s2.toInt) (so2 : s2.toInt < s3.toInt) (so3 : s3.toInt < s4.toInt) (E0 : Exa Z h a "com/example/principal/principal/engine/Row") (F0 : Fld Z h a "com/example/principal/principal/engine/Row" "entries" "[I" (.ref e)) (F1 : Fld Z h a "com/example/principal/principal/engine/Row" "size" "I" (.int (5 : Int32))) (A0 : Av Z h e .int ([p5, s0, (p5 + (7919 : Int32)), s1, (p5 + (15838 : Int32)), s2, (p5 + (23757 : Int32)), s3, (p5 + (31676 : Int32)), s4, (0 : Int32), (0 : Int32), (0 : Int32), (0 : Int32), (0 : Int32), (0 : Int32)].map Value.int))
    (κ : KT) (Qx : Option Value → Heap → Prop) (hQ : ∀ v h', v = some (.int 1) → Qx v h') (C : Good κ room_1 Z "com/example/principal/principal/engine/RowIndexOfStampPinLaw" "law" code 32 (some .boolean)) : W κ n0 Qx h 4 38 354 [x0, x1, x2, x3, x4, x5, x6, .val (.int n), x8, x9, x10, x11, x12, x13, x14, x15, x16, x17, x18, x19, .val (.int s0), .val (.int s1), .val (.int s2), .val (.int s3), .val (.int s4), .val (.ref a), .val (.int q), .unset, .unset, .unset, .unset, .unset] [] := by
  refine W.iconst C m0_354 (z := (0 : Int32)) rfl ?_
  refine W.istore C m0_355 (L' := [x0, x1, x2, x3, x4, x5, x6, .val (.int n), x8, x9, x10, x11, x12, x13, x14, x15, x16, x17, x18, x19, .val (.int s0), .val (.int s1), .val (.int s2), .val (.int s3), .val (.int s4), .val (.ref a), .val (.int q), .val (.int (0 : Int32)), .unset, .unset, .unset, .unset]) rfl ?_
  refine W.iload C m0_357 rfl ?_
  refine W.ifN C m0_359 (show ¬ (n.toInt ≤ (0 : Int)) from (by rw [hnn] <;> decide)) ?_
  refine W.iload C m0_362 rfl ?_
  refine W.iload C m0_364 rfl ?_
  suffices Jc0 : ∀ c0 : Int32, ((s0.toInt < q.toInt ∧ c0.toInt = (0 : Int) + 1) ∨ (q.toInt ≤ s0.toInt ∧ c0.toInt = (0 : Int))) → (0 ≤ c0.toInt ∧ c0.toInt ≤ 1) → W κ n0 Qx h 4 38 372 [x0, x1, x2, x3, x4, x5, x6, .val (.int n), x8, x9, x10, x11, x12, x13, x14, x15, x16, x17, x18, x19, .val (.int s0), .val (.int s1), .val (.int s2), .val (.int s3), .val (.int s4), .val (.ref a), .val (.int q), .val (.int c0), .unset, .unset, .unset, .unset] [] by
    refine W.icmp C m0_366 ?_ ?_
    · intro (hc : q.toInt ≤ s0.toInt)
      exact Jc0 _ (Or.inr ⟨hc, rfl⟩) ⟨by decide, by decide⟩
    · intro (hc : ¬ (q.toInt ≤ s0.toInt))
      refine W.iinc C m0_369 rfl (z := (1 : Int32)) rfl (L' := [x0, x1, x2, x3, x4, x5, x6, .val (.int n), x8, x9, x10, x11, x12, x13, x14, x15, x16, x17, x18, x19, .val (.int s0), .val (.int s1), .val (.int s2), .val (.int s3), .val (.int s4), .val (.ref a), .val (.int q), .val (.int (1 : Int32)), .unset, .unset, .unset, .unset]) rfl ?_
      exact Jc0 _ (Or.inl ⟨Int.not_le.mp hc, rfl⟩) ⟨by decide, by decide⟩
  intro c0 hc0 bc0
  refine W.iload C m0_372 rfl ?_
  refine W.iconst C m0_374 (z := (1 : Int32)) rfl ?_
  refine W.icmpN C m0_375 (show ¬ (n.toInt ≤ (1 : Int)) from (by rw [hnn] <;> decide)) ?_
  refine W.iload C m0_378 rfl ?_
  refine W.iload C m0_380 rfl ?_
  suffices Jc1 : ∀ c1 : Int32, ((s1.toInt < q.toInt ∧ c1.toInt = c0.toInt + 1) ∨ (q.toInt ≤ s1.toInt ∧ c1.toInt = c0.toInt)) → (0 ≤ c1.toInt ∧ c1.toInt ≤ 2) → W κ n0 Qx h 4 38 388 [x0, x1, x2, x3, x4, x5, x6, .val (.int n), x8, x9, x10, x11, x12, x13, x14, x15, x16, x17, x18, x19, .val (.int s0), .val (.int s1), .val (.int s2), .val (.int s3), .val (.int s4), .val (.ref a), .val (.int q), .val (.int c1), .unset, .unset, .unset, .unset] [] by
    refine W.icmp C m0_382 ?_ ?_
    · intro (hc : q.toInt ≤ s1.toInt)
      exact Jc1 _ (Or.inr ⟨hc, rfl⟩) (own_b 2 (by decide) bc0)
    · intro (hc : ¬ (q.toInt ≤ s1.toInt))
      refine W.iinc C m0_385 rfl (z := (c0 + (1 : Int32))) rfl (L' := [x0, x1, x2, x3, x4, x5, x6, .val (.int n), x8, x9, x10, x11, x12, x13, x14, x15, x16, x17, x18, x19, .val (.int s0), .val (.int s1), .val (.int s2), .val (.int s3), .val (.int s4), .val (.ref a), .val (.int q), .val (.int (c0 + (1 : Int32))), .unset, .unset, .unset, .unset]) rfl ?_
      have e1 := own_st 2 (by decide) (by decide) bc0
      exact Jc1 _ (Or.inl ⟨Int.not_le.mp hc, e1.1⟩) e1.2
  intro c1 hc1 bc1
  refine W.iload C m0_388 rfl ?_
  refine W.iconst C m0_390 (z := (2 : Int32)) rfl ?_
  refine W.icmpN C m0_391 (show ¬ (n.toInt ≤ (2 : Int)) from (by rw [hnn] <;> decide)) ?_
  refine W.iload C m0_394 rfl ?_
  refine W.iload C m0_396 rfl ?_
  suffices Jc2 : ∀ c2 : Int32, ((s2.toInt < q.toInt ∧ c2.toInt = c1.toInt + 1) ∨ (q.toInt ≤ s2.toInt ∧ c2.toInt = c1.toInt)) → (0 ≤ c2.toInt ∧ c2.toInt ≤ 3) → W κ n0 Qx h 4 38 404 [x0, x1, x2, x3, x4, x5, x6, .val (.int n), x8, x9, x10, x11, x12, x13, x14, x15, x16, x17, x18, x19, .val (.int s0), .val (.int s1), .val (.int s2), .val (.int s3), .val (.int s4), .val (.ref a), .val (.int q), .val (.int c2), .unset, .unset, .unset, .unset] [] by
    refine W.icmp C m0_398 ?_ ?_
    · intro (hc : q.toInt ≤ s2.toInt)
      exact Jc2 _ (Or.inr ⟨hc, rfl⟩) (own_b 3 (by decide) bc1)
    · intro (hc : ¬ (q.toInt ≤ s2.toInt))
      refine W.iinc C m0_401 rfl (z := (c1 + (1 : Int32))) rfl (L' := [x0, x1, x2, x3, x4, x5, x6, .val (.int n), x8, x9, x10, x11, x12, x13, x14, x15, x16, x17, x18, x19, .val (.int s0), .val (.int s1), .val (.int s2), .val (.int s3), .val (.int s4), .val (.ref a), .val (.int q), .val (.int (c1 + (1 : Int32))), .unset, .unset, .unset, .unset]) rfl ?_
      have e1 := own_st 3 (by decide) (by decide) bc1
      exact Jc2 _ (Or.inl ⟨Int.not_le.mp hc, e1.1⟩) e1.2
  intro c2 hc2 bc2
  refine W.iload C m0_404 rfl ?_
  refine W.iconst C m0_406 (z := (3 : Int32)) rfl ?_
  refine W.icmpN C m0_407 (show ¬ (n.toInt ≤ (3 : Int)) from (by rw [hnn] <;> decide)) ?_
  refine W.iload C m0_410 rfl ?_
  refine W.iload C m0_412 rfl ?_
  suffices Jc3 : ∀ c3 : Int32, ((s3.toInt < q.toInt ∧ c3.toInt = c2.toInt + 1) ∨ (q.toInt ≤ s3.toInt ∧ c3.toInt = c2.toInt)) → (0 ≤ c3.toInt ∧ c3.toInt ≤ 4) → W κ n0 Qx h 4 38 420 [x0, x1, x2, x3, x4, x5, x6, .val (.int n), x8, x9, x10, x11, x12, x13, x14, x15, x16, x17, x18, x19, .val (.int s0), .val (.int s1), .val (.int s2), .val (.int s3), .val (.int s4), .val (.ref a), .val (.int q), .val (.int c3), .unset, .unset, .unset, .unset] [] by
    refine W.icmp C m0_414 ?_ ?_
    · intro (hc : q.toInt ≤ s3.toInt)
      exact Jc3 _ (Or.inr ⟨hc, rfl⟩) (own_b 4 (by decide) bc2)
    · intro (hc : ¬ (q.toInt ≤ s3.toInt))
      refine W.iinc C m0_417 rfl (z := (c2 + (1 : Int32))) rfl (L' := [x0, x1, x2, x3, x4, x5, x6, .val (.int n), x8, x9, x10, x11, x12, x13, x14, x15, x16, x17, x18, x19, .val (.int s0), .val (.int s1), .val (.int s2), .val (.int s3), .val (.int s4), .val (.ref a), .val (.int q), .val (.int (c2 + (1 : Int32))), .unset, .unset, .unset, .unset]) rfl ?_
      have e1 := own_st 4 (by decide) (by decide) bc2
      exact Jc3 _ (Or.inl ⟨Int.not_le.mp hc, e1.1⟩) e1.2
  intro c3 hc3 bc3
  refine W.iload C m0_420 rfl ?_
  refine W.iconst C m0_422 (z := (4 : Int32)) rfl ?_
  refine W.icmpN C m0_423 (show ¬ (n.toInt ≤ (4 : Int)) from (by rw [hnn] <;> decide)) ?_
  refine W.iload C m0_426 rfl ?_
  refine W.iload C m0_428 rfl ?_
  suffices Jc4 : ∀ c4 : Int32, ((s4.toInt < q.toInt ∧ c4.toInt = c3.toInt + 1) ∨ (q.toInt ≤ s4.toInt ∧ c4.toInt = c3.toInt)) → (0 ≤ c4.toInt ∧ c4.toInt ≤ 5) → W κ n0 Qx h 4 38 436 [x0, x1, x2, x3, x4, x5, x6, .val (.int n), x8, x9, x10, x11, x12, x13, x14, x15, x16, x17, x18, x19, .val (.int s0), .val (.int s1), .val (.int s2), .val (.int s3), .val (.int s4), .val (.ref a), .val (.int q), .val (.int c4), .unset, .unset, .unset, .unset] [] by
    refine W.icmp C m0_430 ?_ ?_
    · intro (hc : q.toInt ≤ s4.toInt)
      exact Jc4 _ (Or.inr ⟨hc, rfl⟩) (own_b 5 (by decide) bc3)
    · intro (hc : ¬ (q.toInt ≤ s4.toInt))
      refine W.iinc C m0_433 rfl (z := (c3 + (1 : Int32))) rfl (L' := [x0, x1, x2, x3, x4, x5, x6, .val (.int n), x8, x9, x10, x11, x12, x13, x14, x15, x16, x17, x18, x19, .val (.int s0), .val (.int s1), .val (.int s2), .val (.int s3), .val (.int s4), .val (.ref a), .val (.int q), .val (.int (c3 + (1 : Int32))), .unset, .unset, .unset, .unset]) rfl ?_
      have e1 := own_st 5 (by decide) (by decide) bc3
      exact Jc4 _ (Or.inl ⟨Int.not_le.mp hc, e1.1⟩) e1.2
  intro c4 hc4 bc4
  refine W.aload C m0_436 rfl rfl ?_
  refine W.iload C m0_438 rfl ?_
  refine W.callV (y := mY3) (wt := 0) C m0_440 (hw _ (List.mem_of_getElem? (i := 15) rfl)) (hw _ (List.mem_of_getElem? (i := 16) rfl)) (hw _ (List.mem_of_getElem? (i := 18) rfl)) (hw _ (List.mem_of_getElem? (i := 17) rfl)) (hw _ (List.mem_of_getElem? (i := 5) rfl)) (hw _ (List.mem_of_getElem? (i := 19) rfl)) (by decide) E0 pd3 rfl (own_ix5 Z a0 hw a q e p5 s0 (p5 + (7919 : Int32)) s1 (p5 + (15838 : Int32)) s2 (p5 + (23757 : Int32)) s3 (p5 + (31676 : Int32)) s4 [(0 : Int32), (0 : Int32), (0 : Int32), (0 : Int32), (0 : Int32), (0 : Int32)] h n0 so0 so1 so2 so3 F0 F1 A0) (as' := [(.int q)]) (rest := []) rfl rfl (Nat.le_of_eq rfl) (by decide) (by decide) (by decide) (by decide) ?_
  intro r4 h2 q3
  obtain ⟨rfl, r1, rfl, hr1⟩ := q3
  show W κ n0 Qx h 4 38 443 [x0, x1, x2, x3, x4, x5, x6, .val (.int n), x8, x9, x10, x11, x12, x13, x14, x15, x16, x17, x18, x19, .val (.int s0), .val (.int s1), .val (.int s2), .val (.int s3), .val (.int s4), .val (.ref a), .val (.int q), .val (.int c4), .unset, .unset, .unset, .unset] [(.int r1)]
  refine W.istore C m0_443 (L' := [x0, x1, x2, x3, x4, x5, x6, .val (.int n), x8, x9, x10, x11, x12, x13, x14, x15, x16, x17, x18, x19, .val (.int s0), .val (.int s1), .val (.int s2), .val (.int s3), .val (.int s4), .val (.ref a), .val (.int q), .val (.int c4), .val (.int r1), .unset, .unset, .unset]) rfl ?_
  refine W.iload C m0_445 rfl ?_
  refine W.iload C m0_447 rfl ?_
  refine W.icmp C m0_449 ?_ ?_
  · intro (h449 : ¬ r1.toInt = c4.toInt)
    refine W.iconst C m0_466 (z := (0 : Int32)) rfl ?_
    refine W.zreturn C m0_467 (hQ _ _ ?_)
    exfalso
    obtain ⟨r0, rk, j0, j1, j2, j3, j4⟩ := hr1
    have m0 := own_m0 r0
    have m1 := own_cn 1 (by decide) hc0 j0 m0
    have m2 := own_cn 2 (by decide) hc1 j1 m1
    have m3 := own_cn 3 (by decide) hc2 j2 m2
    have m4 := own_cn 4 (by decide) hc3 j3 m3
    have m5 := own_cn 5 (by decide) hc4 j4 m4
    exact absurd (own_mk m5 rk) h449
  · intro (h449 : ¬ ¬ r1.toInt = c4.toInt)
    replace h449 := Decidable.not_not.mp h449
    refine W.aload C m0_452 rfl rfl ?_
    refine W.callV (y := mY4) (wt := 0) C m0_454 (hw _ (List.mem_of_getElem? (i := 22) rfl)) (hw _ (List.mem_of_getElem? (i := 23) rfl)) (hw _ (List.mem_of_getElem? (i := 25) rfl)) (hw _ (List.mem_of_getElem? (i := 24) rfl)) (hw _ (List.mem_of_getElem? (i := 5) rfl)) (hw _ (List.mem_of_getElem? (i := 26) rfl)) (by decide) E0 pd4 rfl (own_size Z a0 hw a (5 : Int32) h n0 F1) (as' := []) (rest := []) rfl rfl (Nat.le_of_eq rfl) (by decide) (by decide) (by decide) (by decide) ?_
    intro r7 h5 q6
    obtain ⟨rfl, rfl⟩ := q6
    show W κ n0 Qx h 4 38 457 [x0, x1, x2, x3, x4, x5, x6, .val (.int n), x8, x9, x10, x11, x12, x13, x14, x15, x16, x17, x18, x19, .val (.int s0), .val (.int s1), .val (.int s2), .val (.int s3), .val (.int s4), .val (.ref a), .val (.int q), .val (.int c4), .val (.int r1), .unset, .unset, .unset] [(.int (5 : Int32))]
    refine W.iload C m0_457 rfl ?_
    refine W.icmp C m0_459 ?_ ?_
    · intro (h459 : ¬ (5 : Int) = n.toInt)
      refine W.iconst C m0_466 (z := (0 : Int32)) rfl ?_
      refine W.zreturn C m0_467 (hQ _ _ ?_)
      exfalso
      exact absurd hnn.symm h459
    · intro (h459 : ¬ ¬ (5 : Int) = n.toInt)
      replace h459 := Decidable.not_not.mp h459
      refine W.iconst C m0_462 (z := (1 : Int32)) rfl ?_
      refine W.goto C m0_463 ?_
      refine W.zreturn C m0_467 (hQ _ _ ?_)
      exact rfl
set_option maxRecDepth 65536 in
set_option maxHeartbeats 4000000 in
theorem own_tl5b (Z : State) (a0 : Array Value) (hw : ∀ d ∈ tables_1, d.before a0 Z = true) {x0 x1 x2 x3 x4 x5 x6 x8 x9 x10 x11 x12 x13 x14 x15 x16 x17 x18 x19 : Slot} {j : Int32} {w28 w30 : Int64} (n s0 s1 s2 s3 s4 q p5 : Int32) (a e : Addr) (h : Heap) (n0 : Nat) (hnn : n.toInt = 5) (so0 : s0.toInt < s1.toInt) (so1 : s1.toInt < s2.toInt) (so2 : s2.toInt < s3.toInt) (so3 : s3.toInt < s4.toInt) (E0 : Exa Z h a "com/example/principal/principal/engine/Row") (F0 : Fld Z h a "com/example/principal/principal/engine/Row" "entries" "[I" (.ref e)) (F1 : Fld Z h a "com/example/principal/principal/engine/Row" "size" "I" (.int (5 : Int32))) (A0 : Av Z h e .int ([p5, s0, (p5 + (7919 : Int32)), s1, (p5 + (15838 : Int32)), s2, (p5 + (23757 : Int32)), s3, (p5 + (31676 : Int32)), s4, (0 : Int32), (0 : Int32), (0 : Int32), (0 : Int32), (0 : Int32), (0 : Int32)].map Value.int))
    (κ : KT) (Qx : Option Value → Heap → Prop) (hQ : ∀ v h', v = some (.int 1) → Qx v h') (C : Good κ room_1 Z "com/example/principal/principal/engine/RowIndexOfStampPinLaw" "law" code 32 (some .boolean)) : W κ n0 Qx h 4 38 354 [x0, x1, x2, x3, x4, x5, x6, .val (.int n), x8, x9, x10, x11, x12, x13, x14, x15, x16, x17, x18, x19, .val (.int s0), .val (.int s1), .val (.int s2), .val (.int s3), .val (.int s4), .val (.ref a), .val (.int q), .val (.int j), .val (.long w28), .second, .val (.long w30), .second] [] := by
  refine W.iconst C m0_354 (z := (0 : Int32)) rfl ?_
  refine W.istore C m0_355 (L' := [x0, x1, x2, x3, x4, x5, x6, .val (.int n), x8, x9, x10, x11, x12, x13, x14, x15, x16, x17, x18, x19, .val (.int s0), .val (.int s1), .val (.int s2), .val (.int s3), .val (.int s4), .val (.ref a), .val (.int q), .val (.int (0 : Int32)), .val (.long w28), .second, .val (.long w30), .second]) rfl ?_
  refine W.iload C m0_357 rfl ?_
  refine W.ifN C m0_359 (show ¬ (n.toInt ≤ (0 : Int)) from (by rw [hnn] <;> decide)) ?_
  refine W.iload C m0_362 rfl ?_
  refine W.iload C m0_364 rfl ?_
  suffices Jc0 : ∀ c0 : Int32, ((s0.toInt < q.toInt ∧ c0.toInt = (0 : Int) + 1) ∨ (q.toInt ≤ s0.toInt ∧ c0.toInt = (0 : Int))) → (0 ≤ c0.toInt ∧ c0.toInt ≤ 1) → W κ n0 Qx h 4 38 372 [x0, x1, x2, x3, x4, x5, x6, .val (.int n), x8, x9, x10, x11, x12, x13, x14, x15, x16, x17, x18, x19, .val (.int s0), .val (.int s1), .val (.int s2), .val (.int s3), .val (.int s4), .val (.ref a), .val (.int q), .val (.int c0), .val (.long w28), .second, .val (.long w30), .second] [] by
    refine W.icmp C m0_366 ?_ ?_
    · intro (hc : q.toInt ≤ s0.toInt)
      exact Jc0 _ (Or.inr ⟨hc, rfl⟩) ⟨by decide, by decide⟩
    · intro (hc : ¬ (q.toInt ≤ s0.toInt))
      refine W.iinc C m0_369 rfl (z := (1 : Int32)) rfl (L' := [x0, x1, x2, x3, x4, x5, x6, .val (.int n), x8, x9, x10, x11, x12, x13, x14, x15, x16, x17, x18, x19, .val (.int s0), .val (.int s1), .val (.int s2), .val (.int s3), .val (.int s4), .val (.ref a), .val (.int q), .val (.int (1 : Int32)), .val (.long w28), .second, .val (.long w30), .second]) rfl ?_
      exact Jc0 _ (Or.inl ⟨Int.not_le.mp hc, rfl⟩) ⟨by decide, by decide⟩
  intro c0 hc0 bc0
  refine W.iload C m0_372 rfl ?_
  refine W.iconst C m0_374 (z := (1 : Int32)) rfl ?_
  refine W.icmpN C m0_375 (show ¬ (n.toInt ≤ (1 : Int)) from (by rw [hnn] <;> decide)) ?_
  refine W.iload C m0_378 rfl ?_
  refine W.iload C m0_380 rfl ?_
  suffices Jc1 : ∀ c1 : Int32, ((s1.toInt < q.toInt ∧ c1.toInt = c0.toInt + 1) ∨ (q.toInt ≤ s1.toInt ∧ c1.toInt = c0.toInt)) → (0 ≤ c1.toInt ∧ c1.toInt ≤ 2) → W κ n0 Qx h 4 38 388 [x0, x1, x2, x3, x4, x5, x6, .val (.int n), x8, x9, x10, x11, x12, x13, x14, x15, x16, x17, x18, x19, .val (.int s0), .val (.int s1), .val (.int s2), .val (.int s3), .val (.int s4), .val (.ref a), .val (.int q), .val (.int c1), .val (.long w28), .second, .val (.long w30), .second] [] by
    refine W.icmp C m0_382 ?_ ?_
    · intro (hc : q.toInt ≤ s1.toInt)
      exact Jc1 _ (Or.inr ⟨hc, rfl⟩) (own_b 2 (by decide) bc0)
    · intro (hc : ¬ (q.toInt ≤ s1.toInt))
      refine W.iinc C m0_385 rfl (z := (c0 + (1 : Int32))) rfl (L' := [x0, x1, x2, x3, x4, x5, x6, .val (.int n), x8, x9, x10, x11, x12, x13, x14, x15, x16, x17, x18, x19, .val (.int s0), .val (.int s1), .val (.int s2), .val (.int s3), .val (.int s4), .val (.ref a), .val (.int q), .val (.int (c0 + (1 : Int32))), .val (.long w28), .second, .val (.long w30), .second]) rfl ?_
      have e1 := own_st 2 (by decide) (by decide) bc0
      exact Jc1 _ (Or.inl ⟨Int.not_le.mp hc, e1.1⟩) e1.2
  intro c1 hc1 bc1
  refine W.iload C m0_388 rfl ?_
  refine W.iconst C m0_390 (z := (2 : Int32)) rfl ?_
  refine W.icmpN C m0_391 (show ¬ (n.toInt ≤ (2 : Int)) from (by rw [hnn] <;> decide)) ?_
  refine W.iload C m0_394 rfl ?_
  refine W.iload C m0_396 rfl ?_
  suffices Jc2 : ∀ c2 : Int32, ((s2.toInt < q.toInt ∧ c2.toInt = c1.toInt + 1) ∨ (q.toInt ≤ s2.toInt ∧ c2.toInt = c1.toInt)) → (0 ≤ c2.toInt ∧ c2.toInt ≤ 3) → W κ n0 Qx h 4 38 404 [x0, x1, x2, x3, x4, x5, x6, .val (.int n), x8, x9, x10, x11, x12, x13, x14, x15, x16, x17, x18, x19, .val (.int s0), .val (.int s1), .val (.int s2), .val (.int s3), .val (.int s4), .val (.ref a), .val (.int q), .val (.int c2), .val (.long w28), .second, .val (.long w30), .second] [] by
    refine W.icmp C m0_398 ?_ ?_
    · intro (hc : q.toInt ≤ s2.toInt)
      exact Jc2 _ (Or.inr ⟨hc, rfl⟩) (own_b 3 (by decide) bc1)
    · intro (hc : ¬ (q.toInt ≤ s2.toInt))
      refine W.iinc C m0_401 rfl (z := (c1 + (1 : Int32))) rfl (L' := [x0, x1, x2, x3, x4, x5, x6, .val (.int n), x8, x9, x10, x11, x12, x13, x14, x15, x16, x17, x18, x19, .val (.int s0), .val (.int s1), .val (.int s2), .val (.int s3), .val (.int s4), .val (.ref a), .val (.int q), .val (.int (c1 + (1 : Int32))), .val (.long w28), .second, .val (.long w30), .second]) rfl ?_
      have e1 := own_st 3 (by decide) (by decide) bc1
      exact Jc2 _ (Or.inl ⟨Int.not_le.mp hc, e1.1⟩) e1.2
  intro c2 hc2 bc2
  refine W.iload C m0_404 rfl ?_
  refine W.iconst C m0_406 (z := (3 : Int32)) rfl ?_
  refine W.icmpN C m0_407 (show ¬ (n.toInt ≤ (3 : Int)) from (by rw [hnn] <;> decide)) ?_
  refine W.iload C m0_410 rfl ?_
  refine W.iload C m0_412 rfl ?_
  suffices Jc3 : ∀ c3 : Int32, ((s3.toInt < q.toInt ∧ c3.toInt = c2.toInt + 1) ∨ (q.toInt ≤ s3.toInt ∧ c3.toInt = c2.toInt)) → (0 ≤ c3.toInt ∧ c3.toInt ≤ 4) → W κ n0 Qx h 4 38 420 [x0, x1, x2, x3, x4, x5, x6, .val (.int n), x8, x9, x10, x11, x12, x13, x14, x15, x16, x17, x18, x19, .val (.int s0), .val (.int s1), .val (.int s2), .val (.int s3), .val (.int s4), .val (.ref a), .val (.int q), .val (.int c3), .val (.long w28), .second, .val (.long w30), .second] [] by
    refine W.icmp C m0_414 ?_ ?_
    · intro (hc : q.toInt ≤ s3.toInt)
      exact Jc3 _ (Or.inr ⟨hc, rfl⟩) (own_b 4 (by decide) bc2)
    · intro (hc : ¬ (q.toInt ≤ s3.toInt))
      refine W.iinc C m0_417 rfl (z := (c2 + (1 : Int32))) rfl (L' := [x0, x1, x2, x3, x4, x5, x6, .val (.int n), x8, x9, x10, x11, x12, x13, x14, x15, x16, x17, x18, x19, .val (.int s0), .val (.int s1), .val (.int s2), .val (.int s3), .val (.int s4), .val (.ref a), .val (.int q), .val (.int (c2 + (1 : Int32))), .val (.long w28), .second, .val (.long w30), .second]) rfl ?_
      have e1 := own_st 4 (by decide) (by decide) bc2
      exact Jc3 _ (Or.inl ⟨Int.not_le.mp hc, e1.1⟩) e1.2
  intro c3 hc3 bc3
  refine W.iload C m0_420 rfl ?_
  refine W.iconst C m0_422 (z := (4 : Int32)) rfl ?_
  refine W.icmpN C m0_423 (show ¬ (n.toInt ≤ (4 : Int)) from (by rw [hnn] <;> decide)) ?_
  refine W.iload C m0_426 rfl ?_
  refine W.iload C m0_428 rfl ?_
  suffices Jc4 : ∀ c4 : Int32, ((s4.toInt < q.toInt ∧ c4.toInt = c3.toInt + 1) ∨ (q.toInt ≤ s4.toInt ∧ c4.toInt = c3.toInt)) → (0 ≤ c4.toInt ∧ c4.toInt ≤ 5) → W κ n0 Qx h 4 38 436 [x0, x1, x2, x3, x4, x5, x6, .val (.int n), x8, x9, x10, x11, x12, x13, x14, x15, x16, x17, x18, x19, .val (.int s0), .val (.int s1), .val (.int s2), .val (.int s3), .val (.int s4), .val (.ref a), .val (.int q), .val (.int c4), .val (.long w28), .second, .val (.long w30), .second] [] by
    refine W.icmp C m0_430 ?_ ?_
    · intro (hc : q.toInt ≤ s4.toInt)
      exact Jc4 _ (Or.inr ⟨hc, rfl⟩) (own_b 5 (by decide) bc3)
    · intro (hc : ¬ (q.toInt ≤ s4.toInt))
      refine W.iinc C m0_433 rfl (z := (c3 + (1 : Int32))) rfl (L' := [x0, x1, x2, x3, x4, x5, x6, .val (.int n), x8, x9, x10, x11, x12, x13, x14, x15, x16, x17, x18, x19, .val (.int s0), .val (.int s1), .val (.int s2), .val (.int s3), .val (.int s4), .val (.ref a), .val (.int q), .val (.int (c3 + (1 : Int32))), .val (.long w28), .second, .val (.long w30), .second]) rfl ?_
      have e1 := own_st 5 (by decide) (by decide) bc3
      exact Jc4 _ (Or.inl ⟨Int.not_le.mp hc, e1.1⟩) e1.2
  intro c4 hc4 bc4
  refine W.aload C m0_436 rfl rfl ?_
  refine W.iload C m0_438 rfl ?_
  refine W.callV (y := mY3) (wt := 0) C m0_440 (hw _ (List.mem_of_getElem? (i := 15) rfl)) (hw _ (List.mem_of_getElem? (i := 16) rfl)) (hw _ (List.mem_of_getElem? (i := 18) rfl)) (hw _ (List.mem_of_getElem? (i := 17) rfl)) (hw _ (List.mem_of_getElem? (i := 5) rfl)) (hw _ (List.mem_of_getElem? (i := 19) rfl)) (by decide) E0 pd3 rfl (own_ix5 Z a0 hw a q e p5 s0 (p5 + (7919 : Int32)) s1 (p5 + (15838 : Int32)) s2 (p5 + (23757 : Int32)) s3 (p5 + (31676 : Int32)) s4 [(0 : Int32), (0 : Int32), (0 : Int32), (0 : Int32), (0 : Int32), (0 : Int32)] h n0 so0 so1 so2 so3 F0 F1 A0) (as' := [(.int q)]) (rest := []) rfl rfl (Nat.le_of_eq rfl) (by decide) (by decide) (by decide) (by decide) ?_
  intro r4 h2 q3
  obtain ⟨rfl, r1, rfl, hr1⟩ := q3
  show W κ n0 Qx h 4 38 443 [x0, x1, x2, x3, x4, x5, x6, .val (.int n), x8, x9, x10, x11, x12, x13, x14, x15, x16, x17, x18, x19, .val (.int s0), .val (.int s1), .val (.int s2), .val (.int s3), .val (.int s4), .val (.ref a), .val (.int q), .val (.int c4), .val (.long w28), .second, .val (.long w30), .second] [(.int r1)]
  refine W.istore C m0_443 (L' := [x0, x1, x2, x3, x4, x5, x6, .val (.int n), x8, x9, x10, x11, x12, x13, x14, x15, x16, x17, x18, x19, .val (.int s0), .val (.int s1), .val (.int s2), .val (.int s3), .val (.int s4), .val (.ref a), .val (.int q), .val (.int c4), .val (.int r1), .unset, .val (.long w30), .second]) rfl ?_
  refine W.iload C m0_445 rfl ?_
  refine W.iload C m0_447 rfl ?_
  refine W.icmp C m0_449 ?_ ?_
  · intro (h449 : ¬ r1.toInt = c4.toInt)
    refine W.iconst C m0_466 (z := (0 : Int32)) rfl ?_
    refine W.zreturn C m0_467 (hQ _ _ ?_)
    exfalso
    obtain ⟨r0, rk, j0, j1, j2, j3, j4⟩ := hr1
    have m0 := own_m0 r0
    have m1 := own_cn 1 (by decide) hc0 j0 m0
    have m2 := own_cn 2 (by decide) hc1 j1 m1
    have m3 := own_cn 3 (by decide) hc2 j2 m2
    have m4 := own_cn 4 (by decide) hc3 j3 m3
    have m5 := own_cn 5 (by decide) hc4 j4 m4
    exact absurd (own_mk m5 rk) h449
  · intro (h449 : ¬ ¬ r1.toInt = c4.toInt)
    replace h449 := Decidable.not_not.mp h449
    refine W.aload C m0_452 rfl rfl ?_
    refine W.callV (y := mY4) (wt := 0) C m0_454 (hw _ (List.mem_of_getElem? (i := 22) rfl)) (hw _ (List.mem_of_getElem? (i := 23) rfl)) (hw _ (List.mem_of_getElem? (i := 25) rfl)) (hw _ (List.mem_of_getElem? (i := 24) rfl)) (hw _ (List.mem_of_getElem? (i := 5) rfl)) (hw _ (List.mem_of_getElem? (i := 26) rfl)) (by decide) E0 pd4 rfl (own_size Z a0 hw a (5 : Int32) h n0 F1) (as' := []) (rest := []) rfl rfl (Nat.le_of_eq rfl) (by decide) (by decide) (by decide) (by decide) ?_
    intro r7 h5 q6
    obtain ⟨rfl, rfl⟩ := q6
    show W κ n0 Qx h 4 38 457 [x0, x1, x2, x3, x4, x5, x6, .val (.int n), x8, x9, x10, x11, x12, x13, x14, x15, x16, x17, x18, x19, .val (.int s0), .val (.int s1), .val (.int s2), .val (.int s3), .val (.int s4), .val (.ref a), .val (.int q), .val (.int c4), .val (.int r1), .unset, .val (.long w30), .second] [(.int (5 : Int32))]
    refine W.iload C m0_457 rfl ?_
    refine W.icmp C m0_459 ?_ ?_
    · intro (h459 : ¬ (5 : Int) = n.toInt)
      refine W.iconst C m0_466 (z := (0 : Int32)) rfl ?_
      refine W.zreturn C m0_467 (hQ _ _ ?_)
      exfalso
      exact absurd hnn.symm h459
    · intro (h459 : ¬ ¬ (5 : Int) = n.toInt)
      replace h459 := Decidable.not_not.mp h459
      refine W.iconst C m0_462 (z := (1 : Int32)) rfl ?_
      refine W.goto C m0_463 ?_
      refine W.zreturn C m0_467 (hQ _ _ ?_)
      exact rfl
set_option maxRecDepth 65536 in
set_option maxHeartbeats 4000000 in
theorem own_cs5 (Z : State) (a0 : Array Value) (hw : ∀ d ∈ tables_1, d.before a0 Z = true) {x0 x1 x2 x3 x8 x9 x10 x11 x12 x13 x14 x15 x16 x17 x18 x19 : Slot} (p3 p4 p5 n s0 s1 s2 s3 s4 : Int32) (a e : Addr) (h : Heap) (n0 : Nat) (hnn : n.toInt = 5) (so0 : s0.toInt < s1.toInt) (so1 : s1.toInt < s2.toInt) (so2 : s2.toInt < s3.toInt) (so3 : s3.toInt < s4.toInt) (z0 : n0 ≤ h.size) (g0 : n0 ≤ a) (g1 : n0 ≤ e) (hae : a ≠ e) (E0 : Exa Z h a "com/example/principal/principal/engine/Row") (F0 : Fld Z h a "com/example/principal/principal/engine/Row" "entries" "[I" (.ref e)) (F1 : Fld Z h a "com/example/principal/principal/engine/Row" "size" "I" (.int (0 : Int32))) (A0 : Av Z h e .int ([(0 : Int32), (0 : Int32), (0 : Int32), (0 : Int32)].map Value.int))
    (κ : KT) (Qx : Option Value → Heap → Prop) (hQ : ∀ v h', v = some (.int 1) → Qx v h') (C : Good κ room_1 Z "com/example/principal/principal/engine/RowIndexOfStampPinLaw" "law" code 32 (some .boolean)) : W κ n0 Qx h 2 6 146 [x0, x1, x2, x3, .val (.int p3), .val (.int p4), .val (.int p5), .val (.int n), x8, x9, x10, x11, x12, x13, x14, x15, x16, x17, x18, x19, .val (.int s0), .val (.int s1), .val (.int s2), .val (.int s3), .val (.int s4), .val (.ref a), .unset, .unset, .unset, .unset, .unset, .unset] [] := by
  refine W.iload C m0_146 rfl ?_
  refine W.ifN C m0_148 (show ¬ (n.toInt ≤ (0 : Int)) from (by rw [hnn] <;> decide)) ?_
  refine W.aload C m0_151 rfl rfl ?_
  refine W.iload C m0_153 rfl ?_
  refine W.iload C m0_155 rfl ?_
  refine W.callV (y := mY5) (wt := 0) C m0_157 (hw _ (List.mem_of_getElem? (i := 27) rfl)) (hw _ (List.mem_of_getElem? (i := 28) rfl)) (hw _ (List.mem_of_getElem? (i := 30) rfl)) (hw _ (List.mem_of_getElem? (i := 29) rfl)) (hw _ (List.mem_of_getElem? (i := 5) rfl)) (hw _ (List.mem_of_getElem? (i := 31) rfl)) (by decide) E0 pd5 rfl (own_ad Z a0 hw a p5 s0 e (0 : Int32) (1 : Int32) 0 [(0 : Int32), (0 : Int32), (0 : Int32), (0 : Int32)] h n0 z0 g0 E0 F0 F1 A0 rfl rfl hae g1 (Nat.le_of_ble_eq_true rfl) (Nat.le_of_ble_eq_true rfl)) (as' := [(.int p5), (.int s0)]) (rest := []) rfl rfl (Nat.le_of_eq rfl) (by decide) (by decide) (by decide) (by decide) ?_
  intro r10 h8 q9
  obtain ⟨rfl, K1, E2, F3, F4, A5⟩ := q9
  have E11 := E0.keep K1
  have z12 : n0 ≤ h8.size := Nat.le_trans z0 K1.1
  have A13 : Av Z h8 e .int ([p5, s0, (0 : Int32), (0 : Int32)].map Value.int) := A5
  show W κ n0 Qx h8 2 6 160 [x0, x1, x2, x3, .val (.int p3), .val (.int p4), .val (.int p5), .val (.int n), x8, x9, x10, x11, x12, x13, x14, x15, x16, x17, x18, x19, .val (.int s0), .val (.int s1), .val (.int s2), .val (.int s3), .val (.int s4), .val (.ref a), .unset, .unset, .unset, .unset, .unset, .unset] []
  refine W.iload C m0_160 rfl ?_
  refine W.iconst C m0_162 (z := (1 : Int32)) rfl ?_
  refine W.icmpN C m0_163 (show ¬ (n.toInt ≤ (1 : Int)) from (by rw [hnn] <;> decide)) ?_
  refine W.aload C m0_166 rfl rfl ?_
  refine W.iload C m0_168 rfl ?_
  refine W.sipush C m0_170 (z := (7919 : Int32)) rfl ?_
  refine W.iadd C m0_173 rfl ?_
  refine W.iload C m0_174 rfl ?_
  refine W.callV (y := mY5) (wt := 0) C m0_176 (hw _ (List.mem_of_getElem? (i := 27) rfl)) (hw _ (List.mem_of_getElem? (i := 28) rfl)) (hw _ (List.mem_of_getElem? (i := 30) rfl)) (hw _ (List.mem_of_getElem? (i := 29) rfl)) (hw _ (List.mem_of_getElem? (i := 5) rfl)) (hw _ (List.mem_of_getElem? (i := 31) rfl)) (by decide) E2 pd5 rfl (own_ad Z a0 hw a (p5 + (7919 : Int32)) s1 e (1 : Int32) (2 : Int32) 1 [p5, s0, (0 : Int32), (0 : Int32)] h8 n0 z12 g0 E2 F3 F4 A13 rfl rfl hae g1 (Nat.le_of_ble_eq_true rfl) (Nat.le_of_ble_eq_true rfl)) (as' := [(.int (p5 + (7919 : Int32))), (.int s1)]) (rest := []) rfl rfl (Nat.le_of_eq rfl) (by decide) (by decide) (by decide) (by decide) ?_
  intro r23 h21 q22
  obtain ⟨rfl, K14, E15, F16, F17, A18⟩ := q22
  have E24 := E2.keep K14
  have z25 : n0 ≤ h21.size := Nat.le_trans z12 K14.1
  have A26 : Av Z h21 e .int ([p5, s0, (p5 + (7919 : Int32)), s1].map Value.int) := A18
  show W κ n0 Qx h21 2 6 179 [x0, x1, x2, x3, .val (.int p3), .val (.int p4), .val (.int p5), .val (.int n), x8, x9, x10, x11, x12, x13, x14, x15, x16, x17, x18, x19, .val (.int s0), .val (.int s1), .val (.int s2), .val (.int s3), .val (.int s4), .val (.ref a), .unset, .unset, .unset, .unset, .unset, .unset] []
  refine W.iload C m0_179 rfl ?_
  refine W.iconst C m0_181 (z := (2 : Int32)) rfl ?_
  refine W.icmpN C m0_182 (show ¬ (n.toInt ≤ (2 : Int)) from (by rw [hnn] <;> decide)) ?_
  refine W.aload C m0_185 rfl rfl ?_
  refine W.iload C m0_187 rfl ?_
  refine W.sipush C m0_189 (z := (15838 : Int32)) rfl ?_
  refine W.iadd C m0_192 rfl ?_
  refine W.iload C m0_193 rfl ?_
  refine W.callV (y := mY5) (wt := 0) C m0_195 (hw _ (List.mem_of_getElem? (i := 27) rfl)) (hw _ (List.mem_of_getElem? (i := 28) rfl)) (hw _ (List.mem_of_getElem? (i := 30) rfl)) (hw _ (List.mem_of_getElem? (i := 29) rfl)) (hw _ (List.mem_of_getElem? (i := 5) rfl)) (hw _ (List.mem_of_getElem? (i := 31) rfl)) (by decide) E15 pd5 rfl (own_ag Z a0 hw a (p5 + (15838 : Int32)) s2 e (2 : Int32) (3 : Int32) 2 [p5, s0, (p5 + (7919 : Int32)), s1] h21 n0 z25 g0 E15 F16 F17 A26 rfl rfl hae rfl (Nat.le_of_ble_eq_true rfl) (Nat.le_of_ble_eq_true rfl)) (as' := [(.int (p5 + (15838 : Int32))), (.int s2)]) (rest := []) rfl rfl (Nat.le_of_eq rfl) (by decide) (by decide) (by decide) (by decide) ?_
  intro r36 h34 q35
  obtain ⟨rfl, e32, K27, g33, E28, F29, F30, A31⟩ := q35
  have E37 := E15.keep K27
  have z38 : n0 ≤ h34.size := Nat.le_trans z25 K27.1
  have A39 := A26.keep K27 (ninS (Ne.symm hae) nin0)
  have ne40 : a ≠ e32 := Nat.ne_of_lt (Nat.lt_of_lt_of_le E15.lt g33)
  have ne41 : e ≠ e32 := Nat.ne_of_lt (Nat.lt_of_lt_of_le A26.lt g33)
  have g42 : n0 ≤ e32 := Nat.le_trans z25 g33
  have A43 : Av Z h34 e32 .int ([p5, s0, (p5 + (7919 : Int32)), s1, (p5 + (15838 : Int32)), s2, (0 : Int32), (0 : Int32)].map Value.int) := A31
  show W κ n0 Qx h34 3 22 198 [x0, x1, x2, x3, .val (.int p3), .val (.int p4), .val (.int p5), .val (.int n), x8, x9, x10, x11, x12, x13, x14, x15, x16, x17, x18, x19, .val (.int s0), .val (.int s1), .val (.int s2), .val (.int s3), .val (.int s4), .val (.ref a), .unset, .unset, .unset, .unset, .unset, .unset] []
  refine W.iload C m0_198 rfl ?_
  refine W.iconst C m0_200 (z := (3 : Int32)) rfl ?_
  refine W.icmpN C m0_201 (show ¬ (n.toInt ≤ (3 : Int)) from (by rw [hnn] <;> decide)) ?_
  refine W.aload C m0_204 rfl rfl ?_
  refine W.iload C m0_206 rfl ?_
  refine W.sipush C m0_208 (z := (23757 : Int32)) rfl ?_
  refine W.iadd C m0_211 rfl ?_
  refine W.iload C m0_212 rfl ?_
  refine W.callV (y := mY5) (wt := 0) C m0_214 (hw _ (List.mem_of_getElem? (i := 27) rfl)) (hw _ (List.mem_of_getElem? (i := 28) rfl)) (hw _ (List.mem_of_getElem? (i := 30) rfl)) (hw _ (List.mem_of_getElem? (i := 29) rfl)) (hw _ (List.mem_of_getElem? (i := 5) rfl)) (hw _ (List.mem_of_getElem? (i := 31) rfl)) (by decide) E28 pd5 rfl (own_ad Z a0 hw a (p5 + (23757 : Int32)) s3 e32 (3 : Int32) (4 : Int32) 3 [p5, s0, (p5 + (7919 : Int32)), s1, (p5 + (15838 : Int32)), s2, (0 : Int32), (0 : Int32)] h34 n0 z38 g0 E28 F29 F30 A43 rfl rfl ne40 g42 (Nat.le_of_ble_eq_true rfl) (Nat.le_of_ble_eq_true rfl)) (as' := [(.int (p5 + (23757 : Int32))), (.int s3)]) (rest := []) rfl rfl (Nat.le_of_eq rfl) (by decide) (by decide) (by decide) (by decide) ?_
  intro r53 h51 q52
  obtain ⟨rfl, K44, E45, F46, F47, A48⟩ := q52
  have E54 := E28.keep K44
  have z55 : n0 ≤ h51.size := Nat.le_trans z38 K44.1
  have A56 := A39.keep K44 (ninS (Ne.symm hae) (ninS ne41 nin0))
  have A57 : Av Z h51 e32 .int ([p5, s0, (p5 + (7919 : Int32)), s1, (p5 + (15838 : Int32)), s2, (p5 + (23757 : Int32)), s3].map Value.int) := A48
  show W κ n0 Qx h51 3 22 217 [x0, x1, x2, x3, .val (.int p3), .val (.int p4), .val (.int p5), .val (.int n), x8, x9, x10, x11, x12, x13, x14, x15, x16, x17, x18, x19, .val (.int s0), .val (.int s1), .val (.int s2), .val (.int s3), .val (.int s4), .val (.ref a), .unset, .unset, .unset, .unset, .unset, .unset] []
  refine W.iload C m0_217 rfl ?_
  refine W.iconst C m0_219 (z := (4 : Int32)) rfl ?_
  refine W.icmpN C m0_220 (show ¬ (n.toInt ≤ (4 : Int)) from (by rw [hnn] <;> decide)) ?_
  refine W.aload C m0_223 rfl rfl ?_
  refine W.iload C m0_225 rfl ?_
  refine W.sipush C m0_227 (z := (31676 : Int32)) rfl ?_
  refine W.iadd C m0_230 rfl ?_
  refine W.iload C m0_231 rfl ?_
  refine W.callV (y := mY5) (wt := 0) C m0_233 (hw _ (List.mem_of_getElem? (i := 27) rfl)) (hw _ (List.mem_of_getElem? (i := 28) rfl)) (hw _ (List.mem_of_getElem? (i := 30) rfl)) (hw _ (List.mem_of_getElem? (i := 29) rfl)) (hw _ (List.mem_of_getElem? (i := 5) rfl)) (hw _ (List.mem_of_getElem? (i := 31) rfl)) (by decide) E45 pd5 rfl (own_ag Z a0 hw a (p5 + (31676 : Int32)) s4 e32 (4 : Int32) (5 : Int32) 4 [p5, s0, (p5 + (7919 : Int32)), s1, (p5 + (15838 : Int32)), s2, (p5 + (23757 : Int32)), s3] h51 n0 z55 g0 E45 F46 F47 A57 rfl rfl ne40 rfl (Nat.le_of_ble_eq_true rfl) (Nat.le_of_ble_eq_true rfl)) (as' := [(.int (p5 + (31676 : Int32))), (.int s4)]) (rest := []) rfl rfl (Nat.le_of_eq rfl) (by decide) (by decide) (by decide) (by decide) ?_
  intro r67 h65 q66
  obtain ⟨rfl, e63, K58, g64, E59, F60, F61, A62⟩ := q66
  have E68 := E45.keep K58
  have z69 : n0 ≤ h65.size := Nat.le_trans z55 K58.1
  have A70 := A56.keep K58 (ninS (Ne.symm hae) nin0)
  have A71 := A57.keep K58 (ninS (Ne.symm ne40) nin0)
  have ne72 : a ≠ e63 := Nat.ne_of_lt (Nat.lt_of_lt_of_le E45.lt g64)
  have ne73 : e ≠ e63 := Nat.ne_of_lt (Nat.lt_of_lt_of_le A56.lt g64)
  have ne74 : e32 ≠ e63 := Nat.ne_of_lt (Nat.lt_of_lt_of_le A57.lt g64)
  have g75 : n0 ≤ e63 := Nat.le_trans z55 g64
  have A76 : Av Z h65 e63 .int ([p5, s0, (p5 + (7919 : Int32)), s1, (p5 + (15838 : Int32)), s2, (p5 + (23757 : Int32)), s3, (p5 + (31676 : Int32)), s4, (0 : Int32), (0 : Int32), (0 : Int32), (0 : Int32), (0 : Int32), (0 : Int32)].map Value.int) := A62
  show W κ n0 Qx h65 4 38 236 [x0, x1, x2, x3, .val (.int p3), .val (.int p4), .val (.int p5), .val (.int n), x8, x9, x10, x11, x12, x13, x14, x15, x16, x17, x18, x19, .val (.int s0), .val (.int s1), .val (.int s2), .val (.int s3), .val (.int s4), .val (.ref a), .unset, .unset, .unset, .unset, .unset, .unset] []
  refine W.iload C m0_236 rfl ?_
  refine W.istore C m0_238 (L' := [x0, x1, x2, x3, .val (.int p3), .val (.int p4), .val (.int p5), .val (.int n), x8, x9, x10, x11, x12, x13, x14, x15, x16, x17, x18, x19, .val (.int s0), .val (.int s1), .val (.int s2), .val (.int s3), .val (.int s4), .val (.ref a), .val (.int p4), .unset, .unset, .unset, .unset, .unset]) rfl ?_
  refine W.iload C m0_240 rfl ?_
  refine W.iconst C m0_242 (z := (1 : Int32)) rfl ?_
  refine W.iand C m0_243 rfl ?_
  refine W.ifc C m0_244 ?_ ?_
  · intro (h244 : ¬ ((p3 &&& (1 : Int32))).toInt = (0 : Int))
    exact own_tl5a Z a0 hw n s0 s1 s2 s3 s4 p4 p5 a e63 h65 n0 hnn so0 so1 so2 so3 E59 F60 F61 A76 κ Qx hQ C
  · intro (h244 : ¬ ¬ ((p3 &&& (1 : Int32))).toInt = (0 : Int))
    replace h244 := Decidable.not_not.mp h244
    refine W.iload C m0_247 rfl ?_
    refine W.ifN C m0_249 (show ¬ (n.toInt ≤ (0 : Int)) from (by rw [hnn] <;> decide)) ?_
    refine W.iload C m0_252 rfl ?_
    refine W.iconst C m0_254 (z := (1 : Int32)) rfl ?_
    refine W.iushr C m0_255 rfl ?_
    refine W.ldc C m0_256 (hw _ (List.mem_of_getElem? (i := 44) rfl)) ?_
    refine W.iand C m0_258 rfl ?_
    refine W.iload C m0_259 rfl ?_
    refine W.irem C m0_261 (fun e => by rw [e] at hnn; exact absurd hnn (by decide)) rfl ?_
    generalize hv77 : (((p3.toUInt32 >>> ((1 : Int32) &&& 31).toUInt32).toInt32 &&& (65535 : Int32)) % n) = v77
    refine W.istore C m0_262 (L' := [x0, x1, x2, x3, .val (.int p3), .val (.int p4), .val (.int p5), .val (.int n), x8, x9, x10, x11, x12, x13, x14, x15, x16, x17, x18, x19, .val (.int s0), .val (.int s1), .val (.int s2), .val (.int s3), .val (.int s4), .val (.ref a), .val (.int p4), .val (.int v77), .unset, .unset, .unset, .unset]) rfl ?_
    refine W.iload C m0_264 rfl ?_
    suffices J266 : ∀ (w78 : Int64), (True) → W κ n0 Qx h65 4 38 314 [x0, x1, x2, x3, .val (.int p3), .val (.int p4), .val (.int p5), .val (.int n), x8, x9, x10, x11, x12, x13, x14, x15, x16, x17, x18, x19, .val (.int s0), .val (.int s1), .val (.int s2), .val (.int s3), .val (.int s4), .val (.ref a), .val (.int p4), .val (.int v77), .unset, .unset, .unset, .unset] [(.long w78)] by
      refine W.ifc C m0_266 ?_ ?_
      · intro (h266 : ¬ v77.toInt = (0 : Int))
        refine W.iload C m0_275 rfl ?_
        refine W.iconst C m0_277 (z := (1 : Int32)) rfl ?_
        refine W.icmp C m0_278 ?_ ?_
        · intro (h278 : ¬ v77.toInt = (1 : Int))
          refine W.iload C m0_287 rfl ?_
          refine W.iconst C m0_289 (z := (2 : Int32)) rfl ?_
          refine W.icmp C m0_290 ?_ ?_
          · intro (h290 : ¬ v77.toInt = (2 : Int))
            refine W.iload C m0_299 rfl ?_
            refine W.iconst C m0_301 (z := (3 : Int32)) rfl ?_
            refine W.icmp C m0_302 ?_ ?_
            · intro (h302 : ¬ v77.toInt = (3 : Int))
              refine W.iload C m0_311 rfl ?_
              refine W.i2l C m0_313 rfl ?_
              exact J266 _ (by trivial)
            · intro (h302 : ¬ ¬ v77.toInt = (3 : Int))
              replace h302 := Decidable.not_not.mp h302
              refine W.iload C m0_305 rfl ?_
              refine W.i2l C m0_307 rfl ?_
              refine W.goto C m0_308 ?_
              exact J266 _ (by trivial)
          · intro (h290 : ¬ ¬ v77.toInt = (2 : Int))
            replace h290 := Decidable.not_not.mp h290
            refine W.iload C m0_293 rfl ?_
            refine W.i2l C m0_295 rfl ?_
            refine W.goto C m0_296 ?_
            exact J266 _ (by trivial)
        · intro (h278 : ¬ ¬ v77.toInt = (1 : Int))
          replace h278 := Decidable.not_not.mp h278
          refine W.iload C m0_281 rfl ?_
          refine W.i2l C m0_283 rfl ?_
          refine W.goto C m0_284 ?_
          exact J266 _ (by trivial)
      · intro (h266 : ¬ ¬ v77.toInt = (0 : Int))
        replace h266 := Decidable.not_not.mp h266
        refine W.iload C m0_269 rfl ?_
        refine W.i2l C m0_271 rfl ?_
        refine W.goto C m0_272 ?_
        exact J266 _ (by trivial)
    intro w78 hJ266
    refine W.lstore C m0_314 (L' := [x0, x1, x2, x3, .val (.int p3), .val (.int p4), .val (.int p5), .val (.int n), x8, x9, x10, x11, x12, x13, x14, x15, x16, x17, x18, x19, .val (.int s0), .val (.int s1), .val (.int s2), .val (.int s3), .val (.int s4), .val (.ref a), .val (.int p4), .val (.int v77), .val (.long w78), .second, .unset, .unset]) rfl ?_
    refine W.lload C m0_316 rfl ?_
    refine W.iload C m0_318 rfl ?_
    refine W.bipush C m0_320 (z := (17 : Int32)) rfl ?_
    refine W.iushr C m0_322 rfl ?_
    refine W.iconst C m0_323 (z := (3 : Int32)) rfl ?_
    refine W.iand C m0_324 rfl ?_
    refine W.iconst C m0_325 (z := (1 : Int32)) rfl ?_
    refine W.isub C m0_326 rfl ?_
    refine W.i2l C m0_327 rfl ?_
    refine W.ladd C m0_328 rfl ?_
    generalize hv79 : (w78 + (((p3.toUInt32 >>> ((17 : Int32) &&& 31).toUInt32).toInt32 &&& (3 : Int32)) - (1 : Int32)).toInt64) = v79
    refine W.lstore C m0_329 (L' := [x0, x1, x2, x3, .val (.int p3), .val (.int p4), .val (.int p5), .val (.int n), x8, x9, x10, x11, x12, x13, x14, x15, x16, x17, x18, x19, .val (.int s0), .val (.int s1), .val (.int s2), .val (.int s3), .val (.int s4), .val (.ref a), .val (.int p4), .val (.int v77), .val (.long w78), .second, .val (.long v79), .second]) rfl ?_
    refine W.lload C m0_331 rfl ?_
    refine W.ldc2 C m0_333 (hw _ (List.mem_of_getElem? (i := 45) rfl)) ?_
    suffices J336 : ∀ (w80 : Int32), (True) → W κ n0 Qx h65 4 38 354 [x0, x1, x2, x3, .val (.int p3), .val (.int p4), .val (.int p5), .val (.int n), x8, x9, x10, x11, x12, x13, x14, x15, x16, x17, x18, x19, .val (.int s0), .val (.int s1), .val (.int s2), .val (.int s3), .val (.int s4), .val (.ref a), .val (.int w80), .val (.int v77), .val (.long w78), .second, .val (.long v79), .second] [] by
      refine W.lc C m0_336 m0_337 ?_ ?_
      · intro (h336 : v79.toInt < (-2147483648 : Int))
        exact J336 _ (by trivial)
      · intro (h336 : ¬ (v79.toInt < (-2147483648 : Int)))
        replace h336 : (-2147483648 : Int) ≤ v79.toInt := by omega
        refine W.lload C m0_340 rfl ?_
        refine W.ldc2 C m0_342 (hw _ (List.mem_of_getElem? (i := 2) rfl)) ?_
        refine W.lc C m0_345 m0_346 ?_ ?_
        · intro (h345 : (2147483647 : Int) < v79.toInt)
          exact J336 _ (by trivial)
        · intro (h345 : ¬ ((2147483647 : Int) < v79.toInt))
          replace h345 : v79.toInt ≤ (2147483647 : Int) := by omega
          refine W.lload C m0_349 rfl ?_
          refine W.l2i C m0_351 rfl ?_
          refine W.istore C m0_352 (L' := [x0, x1, x2, x3, .val (.int p3), .val (.int p4), .val (.int p5), .val (.int n), x8, x9, x10, x11, x12, x13, x14, x15, x16, x17, x18, x19, .val (.int s0), .val (.int s1), .val (.int s2), .val (.int s3), .val (.int s4), .val (.ref a), .val (.int v79.toInt32), .val (.int v77), .val (.long w78), .second, .val (.long v79), .second]) rfl ?_
          exact J336 _ (by trivial)
    intro w80 hJ336
    exact own_tl5b Z a0 hw n s0 s1 s2 s3 s4 w80 p5 a e63 h65 n0 hnn so0 so1 so2 so3 E59 F60 F61 A76 κ Qx hQ C
set_option maxRecDepth 65536 in
set_option maxHeartbeats 4000000 in
theorem own_law (Z : State) (a0 : Array Value) (hw : ∀ d ∈ tables_1, d.before a0 Z = true) (p0 : Int32) (p1 : Int32) (g : Int64) (p3 : Int32) (p4 : Int32) (p5 : Int32)  (h : Heap) (n0 : Nat) (z0 : n0 ≤ h.size) :
    Con Z mY0 code maxLocals ret room_1 [(.int p0), (.int p1), (.long g), (.int p3), (.int p4), (.int p5)] h n0 (fun v h' => v = some (.int 1)) := by
  refine Con.of pl0 (L := [.val (.int p0), .val (.int p1), .val (.long g), .second, .val (.int p3), .val (.int p4), .val (.int p5), .unset, .unset, .unset, .unset, .unset, .unset, .unset, .unset, .unset, .unset, .unset, .unset, .unset, .unset, .unset, .unset, .unset, .unset, .unset, .unset, .unset, .unset, .unset, .unset, .unset]) (fun m => by first | (simp [entryFrame, mkF, argsToLocals, Value.category, maxLocals]; done) | rfl) ?_
  intro κ Qx hQ C
  replace C : Good κ room_1 Z "com/example/principal/principal/engine/RowIndexOfStampPinLaw" "law" code 32 (some .boolean) := C
  refine W.iloadN C m0_0 rfl ?_
  refine W.ldc C m0_1 (hw _ (List.mem_of_getElem? (i := 0) rfl)) ?_
  refine W.iand C m0_3 rfl ?_
  refine W.bipush C m0_4 (z := (6 : Int32)) rfl ?_
  refine W.irem C m0_6 (by decide) rfl ?_
  generalize hv1 : ((p0 &&& (2147483647 : Int32)) % (6 : Int32)) = v1
  refine W.istore C m0_7 (L' := [.val (.int p0), .val (.int p1), .val (.long g), .second, .val (.int p3), .val (.int p4), .val (.int p5), .val (.int v1), .unset, .unset, .unset, .unset, .unset, .unset, .unset, .unset, .unset, .unset, .unset, .unset, .unset, .unset, .unset, .unset, .unset, .unset, .unset, .unset, .unset, .unset, .unset, .unset]) rfl ?_
  refine W.lloadN C m0_9 rfl ?_
  refine W.ldc2 C m0_10 (hw _ (List.mem_of_getElem? (i := 1) rfl)) ?_
  refine W.land C m0_13 rfl ?_
  refine W.lconst C m0_14 (z := (1 : Int64)) rfl ?_
  refine W.ladd C m0_15 rfl ?_
  generalize hv2 : ((g &&& (4095 : Int64)) + (1 : Int64)) = v2
  refine W.lstore C m0_16 (L' := [.val (.int p0), .val (.int p1), .val (.long g), .second, .val (.int p3), .val (.int p4), .val (.int p5), .val (.int v1), .val (.long v2), .second, .unset, .unset, .unset, .unset, .unset, .unset, .unset, .unset, .unset, .unset, .unset, .unset, .unset, .unset, .unset, .unset, .unset, .unset, .unset, .unset, .unset, .unset]) rfl ?_
  have hg8 := own_g0 hv2
  refine W.lloadN C m0_18 rfl ?_
  refine W.bipush C m0_19 (z := (12 : Int32)) rfl ?_
  refine W.lushr C m0_21 rfl ?_
  refine W.ldc2 C m0_22 (hw _ (List.mem_of_getElem? (i := 1) rfl)) ?_
  refine W.land C m0_25 rfl ?_
  refine W.lconst C m0_26 (z := (1 : Int64)) rfl ?_
  refine W.ladd C m0_27 rfl ?_
  generalize hv3 : (((g.toUInt64 >>> ((12 : Int32) &&& 0x3f).toInt64.toUInt64).toInt64 &&& (4095 : Int64)) + (1 : Int64)) = v3
  refine W.lstore C m0_28 (L' := [.val (.int p0), .val (.int p1), .val (.long g), .second, .val (.int p3), .val (.int p4), .val (.int p5), .val (.int v1), .val (.long v2), .second, .val (.long v3), .second, .unset, .unset, .unset, .unset, .unset, .unset, .unset, .unset, .unset, .unset, .unset, .unset, .unset, .unset, .unset, .unset, .unset, .unset, .unset, .unset]) rfl ?_
  have hg10 := own_g12 hv3
  refine W.lloadN C m0_30 rfl ?_
  refine W.bipush C m0_31 (z := (24 : Int32)) rfl ?_
  refine W.lushr C m0_33 rfl ?_
  refine W.ldc2 C m0_34 (hw _ (List.mem_of_getElem? (i := 1) rfl)) ?_
  refine W.land C m0_37 rfl ?_
  refine W.lconst C m0_38 (z := (1 : Int64)) rfl ?_
  refine W.ladd C m0_39 rfl ?_
  generalize hv4 : (((g.toUInt64 >>> ((24 : Int32) &&& 0x3f).toInt64.toUInt64).toInt64 &&& (4095 : Int64)) + (1 : Int64)) = v4
  refine W.lstore C m0_40 (L' := [.val (.int p0), .val (.int p1), .val (.long g), .second, .val (.int p3), .val (.int p4), .val (.int p5), .val (.int v1), .val (.long v2), .second, .val (.long v3), .second, .val (.long v4), .second, .unset, .unset, .unset, .unset, .unset, .unset, .unset, .unset, .unset, .unset, .unset, .unset, .unset, .unset, .unset, .unset, .unset, .unset]) rfl ?_
  have hg12 := own_g24 hv4
  refine W.lloadN C m0_42 rfl ?_
  refine W.bipush C m0_43 (z := (36 : Int32)) rfl ?_
  refine W.lushr C m0_45 rfl ?_
  refine W.ldc2 C m0_46 (hw _ (List.mem_of_getElem? (i := 1) rfl)) ?_
  refine W.land C m0_49 rfl ?_
  refine W.lconst C m0_50 (z := (1 : Int64)) rfl ?_
  refine W.ladd C m0_51 rfl ?_
  generalize hv5 : (((g.toUInt64 >>> ((36 : Int32) &&& 0x3f).toInt64.toUInt64).toInt64 &&& (4095 : Int64)) + (1 : Int64)) = v5
  refine W.lstore C m0_52 (L' := [.val (.int p0), .val (.int p1), .val (.long g), .second, .val (.int p3), .val (.int p4), .val (.int p5), .val (.int v1), .val (.long v2), .second, .val (.long v3), .second, .val (.long v4), .second, .val (.long v5), .second, .unset, .unset, .unset, .unset, .unset, .unset, .unset, .unset, .unset, .unset, .unset, .unset, .unset, .unset, .unset, .unset]) rfl ?_
  have hg14 := own_g36 hv5
  refine W.lload C m0_54 rfl ?_
  refine W.lload C m0_56 rfl ?_
  refine W.ladd C m0_58 rfl ?_
  refine W.lload C m0_59 rfl ?_
  refine W.ladd C m0_61 rfl ?_
  refine W.lload C m0_62 rfl ?_
  refine W.ladd C m0_64 rfl ?_
  generalize hv6 : (((v2 + v3) + v4) + v5) = v6
  refine W.lstore C m0_65 (L' := [.val (.int p0), .val (.int p1), .val (.long g), .second, .val (.int p3), .val (.int p4), .val (.int p5), .val (.int v1), .val (.long v2), .second, .val (.long v3), .second, .val (.long v4), .second, .val (.long v5), .second, .val (.long v6), .second, .unset, .unset, .unset, .unset, .unset, .unset, .unset, .unset, .unset, .unset, .unset, .unset, .unset, .unset]) rfl ?_
  have htot := own_tot hg8 hg10 hg12 hg14 hv6
  have hT4 : 4 ≤ v6.toInt ∧ v6.toInt ≤ 16384 := by omega
  refine W.iloadN C m0_67 rfl ?_
  refine W.i2l C m0_68 rfl ?_
  generalize hv7 : p1.toInt64 = v7
  refine W.lstore C m0_69 (L' := [.val (.int p0), .val (.int p1), .val (.long g), .second, .val (.int p3), .val (.int p4), .val (.int p5), .val (.int v1), .val (.long v2), .second, .val (.long v3), .second, .val (.long v4), .second, .val (.long v5), .second, .val (.long v6), .second, .val (.long v7), .second, .unset, .unset, .unset, .unset, .unset, .unset, .unset, .unset, .unset, .unset, .unset, .unset]) rfl ?_
  refine W.lload C m0_71 rfl ?_
  refine W.lload C m0_73 rfl ?_
  refine W.ladd C m0_75 rfl ?_
  refine W.ldc2 C m0_76 (hw _ (List.mem_of_getElem? (i := 2) rfl)) ?_
  suffices J79 : ∀ b8 : Int64, (-2147483648 ≤ b8.toInt ∧ b8.toInt + v6.toInt ≤ 2147483647) → W κ n0 Qx h 0 0 91 [.val (.int p0), .val (.int p1), .val (.long g), .second, .val (.int p3), .val (.int p4), .val (.int p5), .val (.int v1), .val (.long v2), .second, .val (.long v3), .second, .val (.long v4), .second, .val (.long v5), .second, .val (.long v6), .second, .val (.long b8), .second, .unset, .unset, .unset, .unset, .unset, .unset, .unset, .unset, .unset, .unset, .unset, .unset] [] by
    have hb1 : v7.toInt = p1.toInt := by rw [← hv7]; exact c_i2l p1
    have hbs := own_bse hb1 hT4
    refine W.lc C m0_79 m0_80 ?_ ?_
    · intro (hc : (v7 + v6).toInt ≤ (2147483647 : Int))
      exact J79 _ (hbs.1 hc)
    · intro (hc : ¬ ((v7 + v6).toInt ≤ (2147483647 : Int)))
      refine W.ldc2 C m0_83 (hw _ (List.mem_of_getElem? (i := 2) rfl)) ?_
      refine W.lload C m0_86 rfl ?_
      refine W.lsub C m0_88 rfl ?_
      refine W.lstore C m0_89 (L' := [.val (.int p0), .val (.int p1), .val (.long g), .second, .val (.int p3), .val (.int p4), .val (.int p5), .val (.int v1), .val (.long v2), .second, .val (.long v3), .second, .val (.long v4), .second, .val (.long v5), .second, .val (.long v6), .second, .val (.long ((2147483647 : Int64) - v6)), .second, .unset, .unset, .unset, .unset, .unset, .unset, .unset, .unset, .unset, .unset, .unset, .unset]) rfl ?_
      exact J79 _ hbs.2
  intro b8 hb
  refine W.lload C m0_91 rfl ?_
  refine W.l2i C m0_93 rfl ?_
  generalize hv9 : b8.toInt32 = v9
  refine W.istore C m0_94 (L' := [.val (.int p0), .val (.int p1), .val (.long g), .second, .val (.int p3), .val (.int p4), .val (.int p5), .val (.int v1), .val (.long v2), .second, .val (.long v3), .second, .val (.long v4), .second, .val (.long v5), .second, .val (.long v6), .second, .val (.long b8), .second, .val (.int v9), .unset, .unset, .unset, .unset, .unset, .unset, .unset, .unset, .unset, .unset, .unset]) rfl ?_
  have hs20 := own_s0 hT4.1 hb hv9
  refine W.lload C m0_96 rfl ?_
  refine W.lload C m0_98 rfl ?_
  refine W.ladd C m0_100 rfl ?_
  refine W.l2i C m0_101 rfl ?_
  generalize hv10 : (b8 + v2).toInt32 = v10
  refine W.istore C m0_102 (L' := [.val (.int p0), .val (.int p1), .val (.long g), .second, .val (.int p3), .val (.int p4), .val (.int p5), .val (.int v1), .val (.long v2), .second, .val (.long v3), .second, .val (.long v4), .second, .val (.long v5), .second, .val (.long v6), .second, .val (.long b8), .second, .val (.int v9), .val (.int v10), .unset, .unset, .unset, .unset, .unset, .unset, .unset, .unset, .unset, .unset]) rfl ?_
  have hs21 := own_s1 ⟨hg8.1, by omega⟩ hT4.2 hb hv10
  refine W.lload C m0_104 rfl ?_
  refine W.lload C m0_106 rfl ?_
  refine W.ladd C m0_108 rfl ?_
  refine W.lload C m0_109 rfl ?_
  refine W.ladd C m0_111 rfl ?_
  refine W.l2i C m0_112 rfl ?_
  generalize hv11 : ((b8 + v2) + v3).toInt32 = v11
  refine W.istore C m0_113 (L' := [.val (.int p0), .val (.int p1), .val (.long g), .second, .val (.int p3), .val (.int p4), .val (.int p5), .val (.int v1), .val (.long v2), .second, .val (.long v3), .second, .val (.long v4), .second, .val (.long v5), .second, .val (.long v6), .second, .val (.long b8), .second, .val (.int v9), .val (.int v10), .val (.int v11), .unset, .unset, .unset, .unset, .unset, .unset, .unset, .unset, .unset]) rfl ?_
  have hs22 := own_s2 hg8.1 hg10.1 (by omega) hT4.2 hb hv11
  refine W.lload C m0_115 rfl ?_
  refine W.lload C m0_117 rfl ?_
  refine W.ladd C m0_119 rfl ?_
  refine W.lload C m0_120 rfl ?_
  refine W.ladd C m0_122 rfl ?_
  refine W.lload C m0_123 rfl ?_
  refine W.ladd C m0_125 rfl ?_
  refine W.l2i C m0_126 rfl ?_
  generalize hv12 : (((b8 + v2) + v3) + v4).toInt32 = v12
  refine W.istore C m0_127 (L' := [.val (.int p0), .val (.int p1), .val (.long g), .second, .val (.int p3), .val (.int p4), .val (.int p5), .val (.int v1), .val (.long v2), .second, .val (.long v3), .second, .val (.long v4), .second, .val (.long v5), .second, .val (.long v6), .second, .val (.long b8), .second, .val (.int v9), .val (.int v10), .val (.int v11), .val (.int v12), .unset, .unset, .unset, .unset, .unset, .unset, .unset, .unset]) rfl ?_
  have hs23 := own_s3 hg8.1 hg10.1 hg12.1 (by omega) hT4.2 hb hv12
  refine W.lload C m0_129 rfl ?_
  refine W.lload C m0_131 rfl ?_
  refine W.ladd C m0_133 rfl ?_
  refine W.l2i C m0_134 rfl ?_
  generalize hv13 : (b8 + v6).toInt32 = v13
  refine W.istore C m0_135 (L' := [.val (.int p0), .val (.int p1), .val (.long g), .second, .val (.int p3), .val (.int p4), .val (.int p5), .val (.int v1), .val (.long v2), .second, .val (.long v3), .second, .val (.long v4), .second, .val (.long v5), .second, .val (.long v6), .second, .val (.long b8), .second, .val (.int v9), .val (.int v10), .val (.int v11), .val (.int v12), .val (.int v13), .unset, .unset, .unset, .unset, .unset, .unset, .unset]) rfl ?_
  have hs24 := own_s1 (T := v6.toInt) ⟨by omega, Int.le_refl _⟩ hT4.2 hb hv13
  refine W.new (a0 := a0) C m0_137 (hw _ (List.mem_of_getElem? (i := 3) rfl)) (hw _ (List.mem_of_getElem? (i := 4) rfl)) (hw _ (List.mem_of_getElem? (i := 5) rfl)) (by decide) (by decide) ?_
  intro h14 a15 g16 E17 E18 D19
  have g20 : n0 ≤ a15 := Nat.le_trans z0 (Nat.le_of_eq g16)
  have z21 : n0 ≤ h14.size := Nat.le_trans z0 E17.1
  have F22 : Fld Z h14 a15 "com/example/principal/principal/engine/Row" "entries" "[I" .null := D19 (Or.inl (hw _ (List.mem_of_getElem? (i := 14) rfl))) (ty := (.array .int)) (by decide)
  have F23 : Fld Z h14 a15 "com/example/principal/principal/engine/Row" "size" "I" (.int (0 : Int32)) := D19 (Or.inl (hw _ (List.mem_of_getElem? (i := 21) rfl))) (ty := .int) (by decide)
  show W κ n0 Qx h14 1 2 140 [.val (.int p0), .val (.int p1), .val (.long g), .second, .val (.int p3), .val (.int p4), .val (.int p5), .val (.int v1), .val (.long v2), .second, .val (.long v3), .second, .val (.long v4), .second, .val (.long v5), .second, .val (.long v6), .second, .val (.long b8), .second, .val (.int v9), .val (.int v10), .val (.int v11), .val (.int v12), .val (.int v13), .unset, .unset, .unset, .unset, .unset, .unset, .unset] [(.ref a15)]
  refine W.dup C m0_140 rfl ?_
  refine W.callC (y := mY1) (wt := 1) C m0_141 rfl (hw _ (List.mem_of_getElem? (i := 6) rfl)) (hw _ (List.mem_of_getElem? (i := 7) rfl)) (hw _ (List.mem_of_getElem? (i := 5) rfl)) (hw _ (List.mem_of_getElem? (i := 8) rfl)) (by decide) pd1 rfl (own_init Z a0 hw a15 h14 n0 g20 z21 E18 F22 F23) (a := a15) (as' := []) (rest := [(.ref a15)]) rfl rfl (Nat.le_of_eq rfl) (by decide) (by decide) (by decide) (by decide) ?_
  intro r33 h31 q32
  obtain ⟨rfl, K24, E25, F27, e28, F26, g29, A30⟩ := q32
  have z34 : n0 ≤ h31.size := Nat.le_trans z21 K24.1
  have E35 := E18.keep K24
  have ne36 : a15 ≠ e28 := Nat.ne_of_lt (Nat.lt_of_lt_of_le E18.lt g29)
  have g37 : n0 ≤ e28 := Nat.le_trans z21 g29
  show W κ n0 Qx h31 2 6 144 [.val (.int p0), .val (.int p1), .val (.long g), .second, .val (.int p3), .val (.int p4), .val (.int p5), .val (.int v1), .val (.long v2), .second, .val (.long v3), .second, .val (.long v4), .second, .val (.long v5), .second, .val (.long v6), .second, .val (.long b8), .second, .val (.int v9), .val (.int v10), .val (.int v11), .val (.int v12), .val (.int v13), .unset, .unset, .unset, .unset, .unset, .unset, .unset] [(.ref a15)]
  refine W.astore C m0_144 (L' := [.val (.int p0), .val (.int p1), .val (.long g), .second, .val (.int p3), .val (.int p4), .val (.int p5), .val (.int v1), .val (.long v2), .second, .val (.long v3), .second, .val (.long v4), .second, .val (.long v5), .second, .val (.long v6), .second, .val (.long b8), .second, .val (.int v9), .val (.int v10), .val (.int v11), .val (.int v12), .val (.int v13), .val (.ref a15), .unset, .unset, .unset, .unset, .unset, .unset]) rfl rfl ?_
  have so0 : v9.toInt < v10.toInt := by omega
  have so1 : v10.toInt < v11.toInt := by omega
  have so2 : v11.toInt < v12.toInt := by omega
  have so3 : v12.toInt < v13.toInt := by omega
  have hnn := own_n6 hv1
  obtain hnn | hnn | hnn | hnn | hnn | hnn : v1.toInt = 0 ∨ v1.toInt = 1 ∨ v1.toInt = 2 ∨ v1.toInt = 3 ∨ v1.toInt = 4 ∨ v1.toInt = 5 := by omega
  · exact own_cs0 Z a0 hw p3 p4 p5 v1 v9 v10 v11 v12 v13 a15 e28 h31 n0 hnn so0 so1 so2 so3 z34 g20 g37 ne36 E25 F26 F27 A30 κ Qx hQ C
  · exact own_cs1 Z a0 hw p3 p4 p5 v1 v9 v10 v11 v12 v13 a15 e28 h31 n0 hnn so0 so1 so2 so3 z34 g20 g37 ne36 E25 F26 F27 A30 κ Qx hQ C
  · exact own_cs2 Z a0 hw p3 p4 p5 v1 v9 v10 v11 v12 v13 a15 e28 h31 n0 hnn so0 so1 so2 so3 z34 g20 g37 ne36 E25 F26 F27 A30 κ Qx hQ C
  · exact own_cs3 Z a0 hw p3 p4 p5 v1 v9 v10 v11 v12 v13 a15 e28 h31 n0 hnn so0 so1 so2 so3 z34 g20 g37 ne36 E25 F26 F27 A30 κ Qx hQ C
  · exact own_cs4 Z a0 hw p3 p4 p5 v1 v9 v10 v11 v12 v13 a15 e28 h31 n0 hnn so0 so1 so2 so3 z34 g20 g37 ne36 E25 F26 F27 A30 κ Qx hQ C
  · exact own_cs5 Z a0 hw p3 p4 p5 v1 v9 v10 v11 v12 v13 a15 e28 h31 n0 hnn so0 so1 so2 so3 z34 g20 g37 ne36 E25 F26 F27 A30 κ Qx hQ C
set_option maxRecDepth 65536 in
set_option maxHeartbeats 4000000 in
theorem comes_1 {Post : Tables → Env → Array Value → State → Outcome → State → Prop} (hpost : ∀ tb e args s v u, (limb_1_1.after args s (.returned v) u = true ∧ limb_1_2.after args s (.returned v) u = true ∧ True) → FrameEnd s (.returned v) u (Jvm.fieldLocs frame_1_writes args s ++ Jvm.arrayLocs frame_1_arrays args s ++ Jvm.staticLocs frame_1_statics s) 16 128 → Post tb e args s (.returned v) u) :
    ArmFor flags0 classFile x code maxLocals ret World_1 tables_1 room_1 Calls_1 rest_1 Pre_1 Post := by
  intro l hfl _ _ p e ha hc hk s m args below hf hA hF happ hP
  obtain ⟨hcalls, hrest, hpre⟩ := hP
  obtain ⟨-, -, -, hnamed, -, -, -, hat⟩ := (Spec.applies_iff hf).mp happ
  obtain ⟨hg, hn⟩ := and_e (Cond.before_iff.mp (show (Jvm.Cond.and given_1 narrow_1).before args s = true from hpre))
  obtain ⟨hcount, hg0⟩ := and_e hg
  obtain ⟨ha0, hg1⟩ := and_e hg0
  obtain ⟨ha1, hg2⟩ := and_e hg1
  obtain ⟨ha2, hg3⟩ := and_e hg2
  obtain ⟨ha3, hg4⟩ := and_e hg3
  obtain ⟨ha4, hg5⟩ := and_e hg4
  have ha5 := hg5
  obtain ⟨w0, w1, w2, w3, w4, w5, rfl⟩ : ∃ w0 w1 w2 w3 w4 w5 : Value, args = #[w0, w1, w2, w3, w4, w5] := by
    have hs : args.size = 6 := by simpa [Cond.value, given_1] using hcount
    obtain ⟨L⟩ := args
    match L, hs with
    | [w0, w1, w2, w3, w4, w5], _ => exact ⟨w0, w1, w2, w3, w4, w5, rfl⟩
  have hw := fun d (hd : d ∈ tables_1) => atoms_spec (ws := Jvm.Cond.code x code maxLocals ret :: tables_1) hat d (List.mem_cons_of_mem _ hd)
  obtain ⟨i0, ei0⟩ := is_v ha0
  obtain rfl : w0 = (.int i0) := Option.some.inj ei0
  obtain ⟨i1, ei1⟩ := is_v ha1
  obtain rfl : w1 = (.int i1) := Option.some.inj ei1
  obtain ⟨i2, ei2⟩ := isL_v ha2
  obtain rfl : w2 = (.long i2) := Option.some.inj ei2
  obtain ⟨i3, ei3⟩ := is_v ha3
  obtain rfl : w3 = (.int i3) := Option.some.inj ei3
  obtain ⟨i4, ei4⟩ := is_v ha4
  obtain rfl : w4 = (.int i4) := Option.some.inj ei4
  obtain ⟨i5, ei5⟩ := is_v ha5
  obtain rfl : w5 = (.int i5) := Option.some.inj ei5
  obtain ⟨n, o, h1, h2, h3, _, L, rfl, ⟨rfl, N⟩, hq⟩ := own_law s _ hw i0 i1 i2 i3 i4 i5 s.heap s.heap.size (Nat.le_refl _) l tables_1 p e ha hc hk s m _ below hf ((Spec.applies_iff_loose hf).mp happ).1 ⟨rfl, State.Warmed39.refl s, rfl⟩ trivial
  refine ⟨n, _, h1, h2, h3, hpost _ _ _ _ _ _ ⟨Cond.after_iff.mpr rfl, Cond.after_iff.mpr (eq_i res_at (Term.int_eval (1)) rfl), trivial⟩ ⟨hq.1, hq.2.1, (hq.2.2.sift fun y hy => Or.inr (N y hy)).mono (by decide) (by decide)⟩⟩
theorem main_1_1 : Claimed_1_1 := comes_1 fun _ _ _ _ _ _ h hF => ⟨h.1, hF⟩
theorem main_1_2 : Claimed_1_2 := comes_1 fun _ _ _ _ _ _ h hF => ⟨h.2.1, hF⟩
end Jvm.Pilot.@@N@@
namespace Jvm.Pilot.@@N@@
open Jvm Jvm.ClassFile Sem Op Lib Jvm.Free Jvm.Stand Jvm.Pilot.@@N@@.Jvm.D
/-! MADE BY PROGRAM (witnessworld.py) out of the Statement's table words and the real class files: 12 classes; the members and pool entries that the words name. The judged class is class 1, her method 1. -/
namespace start1
open Jvm.ClassFile
def u (s : String) : CpInfo := .utf8 (stringToUtf16 s)
/-- a pool by its gaps: so many unusable entries, then the entry; so many at the end -/
def gap : Nat → List CpInfo → List CpInfo
  | 0, r => r
  | n + 1, r => .unusable :: gap n r
def poolList (es : List (Nat × CpInfo)) (last : Nat) : List CpInfo := es.foldr (fun e r => gap e.1 (e.2 :: r)) (gap last [])
def pool (es : List (Nat × CpInfo)) (last : Nat) : Array CpInfo := ⟨poolList es last⟩
def fileOf (pool : Array CpInfo) (this : Nat) (attrs : Array Attribute := #[]) (ms : Array MethodInfo := #[]) (fl : Nat := 33) (sup : Nat := 0) (ifs : Array Nat := #[]) (fds : Array FieldInfo := #[]) : ClassFile where
  minorVersion := 0
  majorVersion := 65
  constantPool := pool
  accessFlags := fl
  thisClass := this
  superClass := sup
  interfaces := ifs
  fields := fds
  methods := ms
  attributes := attrs
def plain (name : String) (sup : Option ClassId) : Class where
  name := name
  kind := .ordinary
  loader := none
  accessFlags := 33
  super := sup
  interfaces := #[]
  cf := none
  fields := #[]
  methods := #[]
  instanceTypes := #[]
  staticTypes := #[]
  resolved := #[]
  callSites := []
  init := .initialized
  statics := none
  mirror := none

def pool0 : Array CpInfo := pool [(5, u "<init>"), (0, u "()V"), (1, .class_ 10), (1, u "java/lang/Object")] 113

def k0c0 : Code := { maxStack := 0, maxLocals := 1, code := object_method_1_code, exceptionTable := #[], attributes := #[] }
def k0m0 : Method := { name := "<init>", desc := "()V", sig := { parameters := [], returnType := none }, accessFlags := 1, code := some k0c0 }
/-- java/lang/Object -/
def k0 : Class := { plain "java/lang/Object" none with
  accessFlags := 33
  interfaces := #[]
  cf := some (fileOf pool0 8 #[] #[{ accessFlags := 1, nameIndex := 5, descriptorIndex := 6, attributes := #[] }] 33 0 #[] #[])
  fields := #[]
  methods := #[k0m0]
  instanceTypes := #[]
  staticTypes := #[]
  resolved := Array.replicate 124 none
  statics := none }

def pool1 : Array CpInfo := pool [(2, .class_ 4), (0, .nameAndType 5 6), (0, u "java/lang/Object"), (0, u "<init>"), (0, u "()V"), (0, .integer 2147483647), (0, .long 4095), (3, .long 2147483647), (1, .class_ 15), (0, u "com/example/principal/principal/engine/Row"), (0, .methodref 14 3), (0, .methodref 14 18), (0, .nameAndType 19 20), (0, u "add"), (0, u "(II)V"), (0, .integer 65535), (0, .long 18446744071562067968), (1, .methodref 14 25), (0, .nameAndType 26 27), (0, u "indexOfStamp"), (0, u "(I)I"), (0, .methodref 14 29), (0, .nameAndType 30 31), (0, u "size"), (0, u "()I"), (0, .class_ 33), (0, u "com/example/principal/principal/engine/RowIndexOfStampPinLaw"), (2, u "law"), (0, u "(IIJIII)Z")] 3

def k1m0 : Method := { name := "<init>", desc := "()V", sig := { parameters := [], returnType := none }, accessFlags := 1, code := none }
def k1c1 : Code := { maxStack := 4, maxLocals := 32, code := code, exceptionTable := #[], attributes := #[] }
def k1m1 : Method := { name := "law", desc := "(IIJIII)Z", sig := { parameters := [.int, .int, .long, .int, .int, .int], returnType := some .boolean }, accessFlags := 9, code := some k1c1 }
/-- com/example/principal/principal/engine/RowIndexOfStampPinLaw -/
def k1 : Class := { plain "com/example/principal/principal/engine/RowIndexOfStampPinLaw" (some 0) with
  accessFlags := 49
  interfaces := #[]
  cf := some (fileOf pool1 32 #[] #[{ accessFlags := 1, nameIndex := 5, descriptorIndex := 6, attributes := #[] }, { accessFlags := 9, nameIndex := 36, descriptorIndex := 37, attributes := #[] }] 49 2 #[] #[])
  fields := #[]
  methods := #[k1m0, k1m1]
  instanceTypes := #[]
  staticTypes := #[]
  resolved := Array.replicate 41 none
  statics := none }

def pool2 : Array CpInfo := pool [(1, .methodref 2 3), (0, .class_ 4), (0, .nameAndType 5 6), (0, u "java/lang/Object"), (0, u "<init>"), (0, u "()V"), (0, .fieldref 8 9), (0, .class_ 10), (0, .nameAndType 11 12), (0, u "com/example/principal/principal/engine/Row"), (0, u "entries"), (0, u "[I"), (0, .fieldref 8 14), (0, .nameAndType 15 16), (0, u "size"), (0, u "I"), (1, .methodref 19 20), (0, .class_ 21), (0, .nameAndType 22 23), (0, u "java/util/Arrays"), (0, u "copyOf"), (0, u "([II)[I"), (14, u "EMPTY"), (0, u "Lcom/example/principal/principal/engine/Row;"), (5, u "add"), (0, u "(II)V"), (0, u "()I"), (1, u "(I)I"), (1, u "indexOfStamp")] 4

def k2c0 : Code := { maxStack := 2, maxLocals := 1, code := prog_18_method_1_code, exceptionTable := #[], attributes := #[] }
def k2m0 : Method := { name := "<init>", desc := "()V", sig := { parameters := [], returnType := none }, accessFlags := 0, code := some k2c0 }
def k2c1 : Code := { maxStack := 4, maxLocals := 3, code := prog_18_method_3_code, exceptionTable := #[], attributes := #[] }
def k2m1 : Method := { name := "add", desc := "(II)V", sig := { parameters := [.int, .int], returnType := none }, accessFlags := 0, code := some k2c1 }
def k2c2 : Code := { maxStack := 1, maxLocals := 1, code := prog_18_method_4_code, exceptionTable := #[], attributes := #[] }
def k2m2 : Method := { name := "size", desc := "()I", sig := { parameters := [], returnType := some .int }, accessFlags := 0, code := some k2c2 }
def k2c3 : Code := { maxStack := 3, maxLocals := 5, code := prog_18_method_7_code, exceptionTable := #[], attributes := #[] }
def k2m3 : Method := { name := "indexOfStamp", desc := "(I)I", sig := { parameters := [.int], returnType := some .int }, accessFlags := 0, code := some k2c3 }
/-- com/example/principal/principal/engine/Row -/
def k2 : Class := { plain "com/example/principal/principal/engine/Row" (some 0) with
  accessFlags := 48
  interfaces := #[]
  cf := some (fileOf pool2 8 #[] #[{ accessFlags := 0, nameIndex := 5, descriptorIndex := 6, attributes := #[] }, { accessFlags := 0, nameIndex := 45, descriptorIndex := 46, attributes := #[] }, { accessFlags := 0, nameIndex := 15, descriptorIndex := 47, attributes := #[] }, { accessFlags := 0, nameIndex := 51, descriptorIndex := 49, attributes := #[] }] 48 2 #[] #[{ accessFlags := 24, nameIndex := 38, descriptorIndex := 39, attributes := #[] }, { accessFlags := 2, nameIndex := 11, descriptorIndex := 12, attributes := #[] }, { accessFlags := 2, nameIndex := 15, descriptorIndex := 16, attributes := #[] }])
  fields := #[{ name := "EMPTY", type := (.object "com/example/principal/principal/engine/Row"), accessFlags := 24, slot := 0, constantValue := 0 }, { name := "entries", type := (.array .int), accessFlags := 2, slot := 0, constantValue := 0 }, { name := "size", type := .int, accessFlags := 2, slot := 1, constantValue := 0 }]
  methods := #[k2m0, k2m1, k2m2, k2m3]
  instanceTypes := #[(.array .int), .int]
  staticTypes := #[(.object "com/example/principal/principal/engine/Row")]
  resolved := Array.replicate 56 none
  statics := none }

def pool3 : Array CpInfo := pool [(2, .class_ 4), (1, u "java/lang/Object"), (0, u "<init>"), (0, u "()V"), (7, .class_ 16), (1, u "java/util/Arrays"), (57, .class_ 76), (1, u "java/util/Arrays$NaturalOrder"), (36, .class_ 115), (1, u "java/util/Arrays$LegacyMergeSort"), (1, u "Z"), (32, .methodref 151 152), (0, .class_ 153), (0, .nameAndType 154 155), (0, u "java/lang/System"), (0, u "arraycopy"), (0, u "(Ljava/lang/Object;ILjava/lang/Object;II)V"), (146, u "copyOf"), (1, .methodref 305 306), (0, .class_ 307), (0, .nameAndType 308 309), (0, u "java/lang/Math"), (0, u "min"), (0, u "(II)I"), (65, .class_ 376), (0, u "java/util/Arrays$ArrayList"), (68, u "$assertionsDisabled"), (269, u "MIN_ARRAY_SORT_GRAN"), (0, u "I"), (2, u "INSERTIONSORT_THRESHOLD"), (151, u "([II)[I"), (103, .class_ 976), (0, u "java/util/Arrays$ArrayItr")] 52

def k3m0 : Method := { name := "<init>", desc := "()V", sig := { parameters := [], returnType := none }, accessFlags := 2, code := none }
def k3c1 : Code := { maxStack := 6, maxLocals := 3, code := jdk_65_method_123_code, exceptionTable := #[], attributes := #[] }
def k3m1 : Method := { name := "copyOf", desc := "([II)[I", sig := { parameters := [(.array .int), .int], returnType := some (.array .int) }, accessFlags := 9, code := some k3c1 }
/-- java/util/Arrays -/
def k3 : Class := { plain "java/util/Arrays" (some 0) with
  accessFlags := 49
  interfaces := #[]
  cf := some (fileOf pool3 14 #[.nestMembers #[975, 375, 113, 74]] #[{ accessFlags := 2, nameIndex := 5, descriptorIndex := 6, attributes := #[] }, { accessFlags := 9, nameIndex := 302, descriptorIndex := 871, attributes := #[] }] 49 2 #[] #[{ accessFlags := 26, nameIndex := 715, descriptorIndex := 716, attributes := #[] }, { accessFlags := 26, nameIndex := 719, descriptorIndex := 716, attributes := #[] }, { accessFlags := 4120, nameIndex := 445, descriptorIndex := 117, attributes := #[] }])
  fields := #[{ name := "MIN_ARRAY_SORT_GRAN", type := .int, accessFlags := 26, slot := 0, constantValue := 0 }, { name := "INSERTIONSORT_THRESHOLD", type := .int, accessFlags := 26, slot := 1, constantValue := 0 }, { name := "$assertionsDisabled", type := .boolean, accessFlags := 4120, slot := 2, constantValue := 0 }]
  methods := #[k3m0, k3m1]
  instanceTypes := #[]
  staticTypes := #[.int, .int, .boolean]
  resolved := Array.replicate 1029 none
  statics := none }

def pool4 : Array CpInfo := pool [(1, .class_ 2), (0, u "java/lang/Math"), (1, .class_ 6), (1, u "java/lang/Object"), (0, u "<init>"), (0, u "()V"), (89, .class_ 100), (1, u "java/lang/Math$RandomNumberGeneratorHolder"), (71, u "negativeZeroFloatBits"), (0, u "J"), (2, u "negativeZeroDoubleBits"), (24, u "min"), (43, u "$assertionsDisabled"), (0, u "Z"), (88, u "(II)I"), (2, u "twoToTheDoubleScaleDown"), (0, u "D"), (4, u "twoToTheDoubleScaleUp"), (9, u "E"), (3, u "PI"), (2, u "TAU"), (2, u "DEGREES_TO_RADIANS"), (0, u "RADIANS_TO_DEGREES")] 94

def k4m0 : Method := { name := "<init>", desc := "()V", sig := { parameters := [], returnType := none }, accessFlags := 2, code := none }
def k4c1 : Code := { maxStack := 2, maxLocals := 2, code := jdk_29_method_69_code, exceptionTable := #[], attributes := #[] }
def k4m1 : Method := { name := "min", desc := "(II)I", sig := { parameters := [.int, .int], returnType := some .int }, accessFlags := 9, code := some k4c1 }
/-- java/lang/Math -/
def k4 : Class := { plain "java/lang/Math" (some 0) with
  accessFlags := 49
  interfaces := #[]
  cf := some (fileOf pool4 1 #[.nestMembers #[98]] #[{ accessFlags := 2, nameIndex := 7, descriptorIndex := 8, attributes := #[] }, { accessFlags := 9, nameIndex := 201, descriptorIndex := 335, attributes := #[] }] 49 4 #[] #[{ accessFlags := 25, nameIndex := 354, descriptorIndex := 339, attributes := #[] }, { accessFlags := 25, nameIndex := 358, descriptorIndex := 339, attributes := #[] }, { accessFlags := 25, nameIndex := 361, descriptorIndex := 339, attributes := #[] }, { accessFlags := 26, nameIndex := 364, descriptorIndex := 339, attributes := #[] }, { accessFlags := 26, nameIndex := 365, descriptorIndex := 339, attributes := #[] }, { accessFlags := 26, nameIndex := 172, descriptorIndex := 173, attributes := #[] }, { accessFlags := 26, nameIndex := 176, descriptorIndex := 173, attributes := #[] }, { accessFlags := 8, nameIndex := 344, descriptorIndex := 339, attributes := #[] }, { accessFlags := 8, nameIndex := 338, descriptorIndex := 339, attributes := #[] }, { accessFlags := 4120, nameIndex := 245, descriptorIndex := 246, attributes := #[] }])
  fields := #[{ name := "E", type := .double, accessFlags := 25, slot := 0, constantValue := 0 }, { name := "PI", type := .double, accessFlags := 25, slot := 1, constantValue := 0 }, { name := "TAU", type := .double, accessFlags := 25, slot := 2, constantValue := 0 }, { name := "DEGREES_TO_RADIANS", type := .double, accessFlags := 26, slot := 3, constantValue := 0 }, { name := "RADIANS_TO_DEGREES", type := .double, accessFlags := 26, slot := 4, constantValue := 0 }, { name := "negativeZeroFloatBits", type := .long, accessFlags := 26, slot := 5, constantValue := 0 }, { name := "negativeZeroDoubleBits", type := .long, accessFlags := 26, slot := 6, constantValue := 0 }, { name := "twoToTheDoubleScaleUp", type := .double, accessFlags := 8, slot := 7, constantValue := 0 }, { name := "twoToTheDoubleScaleDown", type := .double, accessFlags := 8, slot := 8, constantValue := 0 }, { name := "$assertionsDisabled", type := .boolean, accessFlags := 4120, slot := 9, constantValue := 0 }]
  methods := #[k4m0, k4m1]
  instanceTypes := #[]
  staticTypes := #[.double, .double, .double, .double, .double, .long, .long, .double, .double, .boolean]
  resolved := Array.replicate 460 none
  statics := none }

def pool5 : Array CpInfo := pool [(2, .class_ 4), (1, u "java/lang/Object"), (0, u "<init>"), (0, u "()V"), (1, .class_ 10), (1, u "java/lang/System"), (0, u "allowSecurityManager"), (0, u "I"), (16, u "cons"), (0, u "Ljava/io/Console;"), (77, .class_ 110), (1, u "java/lang/System$CallersHolder"), (43, u "initialErrStream"), (0, u "Ljava/io/PrintStream;"), (19, u "security"), (0, u "Ljava/lang/SecurityManager;"), (31, .class_ 209), (0, u "java/lang/System$1"), (7, u "props"), (0, u "Ljava/util/Properties;"), (2, u "lineSeparator"), (0, u "Ljava/lang/String;"), (96, .class_ 321), (1, u "java/lang/System$LoggerFinder"), (5, .class_ 328), (0, u "java/lang/System$Logger"), (67, u "err"), (2, u "out"), (91, u "notSupportedJnuEncoding"), (15, u "in"), (17, u "initialIn"), (0, u "Ljava/io/InputStream;"), (35, u "bootLayer"), (0, u "Ljava/lang/ModuleLayer;"), (99, .class_ 664), (0, u "java/lang/System$2"), (9, u "NEVER"), (2, u "MAYBE"), (49, u "arraycopy"), (0, u "(Ljava/lang/Object;ILjava/lang/Object;II)V"), (72, .class_ 802), (0, u "java/lang/System$Logger$Level")] 31

def k5m0 : Method := { name := "<init>", desc := "()V", sig := { parameters := [], returnType := none }, accessFlags := 2, code := none }
def k5m1 : Method := { name := "arraycopy", desc := "(Ljava/lang/Object;ILjava/lang/Object;II)V", sig := { parameters := [(.object "java/lang/Object"), .int, (.object "java/lang/Object"), .int, .int], returnType := none }, accessFlags := 265, code := none }
/-- java/lang/System -/
def k5 : Class := { plain "java/lang/System" (some 0) with
  accessFlags := 49
  interfaces := #[]
  cf := some (fileOf pool5 8 #[.nestMembers #[319, 327, 801, 108, 663, 208]] #[{ accessFlags := 2, nameIndex := 5, descriptorIndex := 6, attributes := #[] }, { accessFlags := 265, nameIndex := 727, descriptorIndex := 728, attributes := #[] }] 49 2 #[] #[{ accessFlags := 25, nameIndex := 507, descriptorIndex := 526, attributes := #[] }, { accessFlags := 25, nameIndex := 399, descriptorIndex := 155, attributes := #[] }, { accessFlags := 25, nameIndex := 396, descriptorIndex := 155, attributes := #[] }, { accessFlags := 10, nameIndex := 525, descriptorIndex := 526, attributes := #[] }, { accessFlags := 26, nameIndex := 674, descriptorIndex := 12, attributes := #[] }, { accessFlags := 26, nameIndex := 677, descriptorIndex := 12, attributes := #[] }, { accessFlags := 10, nameIndex := 11, descriptorIndex := 12, attributes := #[] }, { accessFlags := 74, nameIndex := 175, descriptorIndex := 176, attributes := #[] }, { accessFlags := 10, nameIndex := 491, descriptorIndex := 222, attributes := #[] }, { accessFlags := 74, nameIndex := 29, descriptorIndex := 30, attributes := #[] }, { accessFlags := 74, nameIndex := 154, descriptorIndex := 155, attributes := #[] }, { accessFlags := 10, nameIndex := 217, descriptorIndex := 218, attributes := #[] }, { accessFlags := 10, nameIndex := 221, descriptorIndex := 222, attributes := #[] }, { accessFlags := 8, nameIndex := 562, descriptorIndex := 563, attributes := #[] }])
  fields := #[{ name := "in", type := (.object "java/io/InputStream"), accessFlags := 25, slot := 0, constantValue := 0 }, { name := "out", type := (.object "java/io/PrintStream"), accessFlags := 25, slot := 1, constantValue := 0 }, { name := "err", type := (.object "java/io/PrintStream"), accessFlags := 25, slot := 2, constantValue := 0 }, { name := "initialIn", type := (.object "java/io/InputStream"), accessFlags := 10, slot := 3, constantValue := 0 }, { name := "NEVER", type := .int, accessFlags := 26, slot := 4, constantValue := 0 }, { name := "MAYBE", type := .int, accessFlags := 26, slot := 5, constantValue := 0 }, { name := "allowSecurityManager", type := .int, accessFlags := 10, slot := 6, constantValue := 0 }, { name := "security", type := (.object "java/lang/SecurityManager"), accessFlags := 74, slot := 7, constantValue := 0 }, { name := "notSupportedJnuEncoding", type := (.object "java/lang/String"), accessFlags := 10, slot := 8, constantValue := 0 }, { name := "cons", type := (.object "java/io/Console"), accessFlags := 74, slot := 9, constantValue := 0 }, { name := "initialErrStream", type := (.object "java/io/PrintStream"), accessFlags := 74, slot := 10, constantValue := 0 }, { name := "props", type := (.object "java/util/Properties"), accessFlags := 10, slot := 11, constantValue := 0 }, { name := "lineSeparator", type := (.object "java/lang/String"), accessFlags := 10, slot := 12, constantValue := 0 }, { name := "bootLayer", type := (.object "java/lang/ModuleLayer"), accessFlags := 8, slot := 13, constantValue := 0 }]
  methods := #[k5m0, k5m1]
  instanceTypes := #[]
  staticTypes := #[(.object "java/io/InputStream"), (.object "java/io/PrintStream"), (.object "java/io/PrintStream"), (.object "java/io/InputStream"), .int, .int, .int, (.object "java/lang/SecurityManager"), (.object "java/lang/String"), (.object "java/io/Console"), (.object "java/io/PrintStream"), (.object "java/util/Properties"), (.object "java/lang/String"), (.object "java/lang/ModuleLayer")]
  resolved := Array.replicate 834 none
  statics := none }

def pool6 : Array CpInfo := pool [(1, u "java/lang/Cloneable"), (0, .class_ 1), (0, u "java/lang/Object"), (0, .class_ 3)] 3

/-- java/lang/Cloneable -/
def k6 : Class := { plain "java/lang/Cloneable" (some 0) with
  accessFlags := 1537
  interfaces := #[]
  cf := some (fileOf pool6 2 #[] #[] 1537 4 #[] #[])
  fields := #[]
  methods := #[]
  instanceTypes := #[]
  staticTypes := #[]
  resolved := Array.replicate 8 none
  statics := none }

def pool7 : Array CpInfo := pool [(1, u "java/io/Serializable"), (0, .class_ 1), (0, u "java/lang/Object"), (0, .class_ 3)] 3

/-- java/io/Serializable -/
def k7 : Class := { plain "java/io/Serializable" (some 0) with
  accessFlags := 1537
  interfaces := #[]
  cf := some (fileOf pool7 2 #[] #[] 1537 4 #[] #[])
  fields := #[]
  methods := #[]
  instanceTypes := #[]
  staticTypes := #[]
  resolved := Array.replicate 8 none
  statics := none }

/-- the primitive byte -/
def k8 : Class := { plain "byte" none with kind := .primitive 'B', accessFlags := 0x411 }
/-- [B -/
def k9 : Class := { plain "[B" (some 0) with kind := .array 8 .byte, interfaces := #[6, 7], accessFlags := 1041 }

/-- the primitive int -/
def k10 : Class := { plain "int" none with kind := .primitive 'I', accessFlags := 0x411 }
/-- [I -/
def k11 : Class := { plain "[I" (some 0) with kind := .array 10 .int, interfaces := #[6, 7], accessFlags := 1041 }

def heap : Heap := #[]
def classes : Array Class := #[k0, k1, k2, k3, k4, k5, k6, k7, k8, k9, k10, k11]
def interned : List (Array UInt16 × Addr) := []
def slotsUsed : Nat := 0
def theMethod : MethodId := ⟨1, 1⟩
def args0 : Array Value := #[.int 5, .int 2, .long 77, .int 3, .int 4, .int 9]
def aboutOver (below : List Frame) : State where
  vm := { classes := classes, interned := interned.toArray }
  heap := heap
  slotsUsed := slotsUsed
  threads := #[{ frames := .invoking theMethod args0 :: below }]
def below0 : List Frame := [.native { method := ⟨0, 0⟩, args := #[] }]
def about1 : State := aboutOver below0
def p0 : Program := .bare "" "" ""
def e0 : Env := launch0.env 0 0 0
theorem w_frames : about1.frames = Frame.invoking theMethod args0 :: below0 := rfl
set_option maxRecDepth 65536 in
theorem w_args : argsFit about1.vm theMethod args0 = true := by decide +kernel
set_option maxRecDepth 65536 in
theorem w_heap : heapFits about1 = true := by decide +kernel
set_option maxRecDepth 65536 in
theorem w_runnable : about1.curStatus? = some .runnable := by decide +kernel
set_option maxRecDepth 65536 in
theorem w_alone : about1.alone = true := by decide +kernel
set_option maxRecDepth 65536 in
theorem w_named : about1.methodNamed? x = some theMethod := by decide +kernel
set_option maxRecDepth 65536 in
theorem w_hears : about1.hears theMethod below0 = true := by decide +kernel
set_option maxRecDepth 65536 in
theorem w_ripe : about1.ripe theMethod args0 below0 = true := by decide +kernel
theorem w_running : about1.status = .running := rfl
set_option maxRecDepth 65536 in
theorem w_room : about1.hasRoom e0.platform room_1 = true :=
  launch0.hasRoom_least _ room_1 (by decide +kernel) (by decide +kernel) (by decide +kernel) (by decide +kernel) (by decide +kernel) (by decide +kernel)
theorem allAtoms_all (ts : List Jvm.Cond) (a : Array Jvm.Value) (st : Jvm.State) : (allAtoms ts).before a st = ts.all (fun c => c.before a st) := by
  induction ts with
  | nil => rfl
  | cons c t ih =>
    show (Jvm.Cond.and c (allAtoms t)).before a st = _
    rw [Jvm.Cond.before_and, ih, List.all_cons]
def words1 : List Jvm.Cond := Jvm.Cond.code x code maxLocals ret :: tables_1
/-- a 'code' word, met by the world's own term for the bytes: nothing is compared byte by byte -/
theorem code_word {y : MethodName} {bytes : ByteArray} {mx : Nat} {rt : Option FieldType} {a : Array Value} {s : State} {m : MethodId} {meth : Method} {c : Code} (h1 : s.methodNamed? y = some m) (h2 : s.vm.method? m = some meth) (h3 : meth.code = some c) (h4 : c.code = bytes)
    (h5 : (c.maxLocals == mx && c.exceptionTable.isEmpty && decide (c.maxStack ≤ mostOperands) && decide (meth.sig.returnType = rt) && !meth.locks && decide (parseMethodDescriptor y.desc = some meth.sig)) = true) : (Jvm.Cond.code y bytes mx rt).before a s = true := by
  simp only [Bool.and_eq_true, beq_iff_eq, Bool.not_eq_true', decide_eq_true_eq] at h5
  obtain ⟨⟨⟨⟨⟨g1, g2⟩, g3⟩, g4⟩, g5⟩, g6⟩ := h5
  simp [Cond.before, Cond.holds, Cond.value, h1, h2, h3, h4, g1, g2, g3, g4, g5, g6]
def isCode : Jvm.Cond → Bool
  | .code _ _ _ _ => true
  | _ => false
theorem all_split {L : List Jvm.Cond} {P : Jvm.Cond → Bool} (h1 : L.all (fun c => isCode c || P c) = true) (h2 : ∀ c ∈ L.filter isCode, P c = true) : L.all P = true := by
  refine List.all_eq_true.mpr fun c hc => ?_
  have h := List.all_eq_true.mp h1 c hc
  rcases Bool.eq_false_or_eq_true (isCode c) with hi | hi
  · exact h2 c (List.mem_filter.mpr ⟨hc, hi⟩)
  · simpa [hi] using h
set_option maxRecDepth 65536 in
theorem w_c0 : (Jvm.Cond.code x code maxLocals ret).before args0 about1 = true := code_word (m := ⟨1, 1⟩) (meth := k1m1) (c := k1c1) (by decide +kernel) rfl rfl rfl (by decide +kernel)
set_option maxRecDepth 65536 in
theorem w_c1 : (Jvm.Cond.code ({ cls := "com/example/principal/principal/engine/Row", name := "<init>", desc := "()V" } : Jvm.MethodName) prog_18_method_1_code (1 : Nat) (Option.none : Option Jvm.ClassFile.FieldType)).before args0 about1 = true := code_word (m := ⟨2, 0⟩) (meth := k2m0) (c := k2c0) (by decide +kernel) rfl rfl rfl (by decide +kernel)
set_option maxRecDepth 65536 in
theorem w_c2 : (Jvm.Cond.code ({ cls := "java/lang/Object", name := "<init>", desc := "()V" } : Jvm.MethodName) object_method_1_code (1 : Nat) (Option.none : Option Jvm.ClassFile.FieldType)).before args0 about1 = true := code_word (m := ⟨0, 0⟩) (meth := k0m0) (c := k0c0) (by decide +kernel) rfl rfl rfl (by decide +kernel)
set_option maxRecDepth 65536 in
theorem w_c3 : (Jvm.Cond.code ({ cls := "com/example/principal/principal/engine/Row", name := "indexOfStamp", desc := "(I)I" } : Jvm.MethodName) prog_18_method_7_code (5 : Nat) (Option.some Jvm.ClassFile.FieldType.int)).before args0 about1 = true := code_word (m := ⟨2, 3⟩) (meth := k2m3) (c := k2c3) (by decide +kernel) rfl rfl rfl (by decide +kernel)
set_option maxRecDepth 65536 in
theorem w_c4 : (Jvm.Cond.code ({ cls := "com/example/principal/principal/engine/Row", name := "size", desc := "()I" } : Jvm.MethodName) prog_18_method_4_code (1 : Nat) (Option.some Jvm.ClassFile.FieldType.int)).before args0 about1 = true := code_word (m := ⟨2, 2⟩) (meth := k2m2) (c := k2c2) (by decide +kernel) rfl rfl rfl (by decide +kernel)
set_option maxRecDepth 65536 in
theorem w_c5 : (Jvm.Cond.code ({ cls := "com/example/principal/principal/engine/Row", name := "add", desc := "(II)V" } : Jvm.MethodName) prog_18_method_3_code (3 : Nat) (Option.none : Option Jvm.ClassFile.FieldType)).before args0 about1 = true := code_word (m := ⟨2, 1⟩) (meth := k2m1) (c := k2c1) (by decide +kernel) rfl rfl rfl (by decide +kernel)
set_option maxRecDepth 65536 in
theorem w_c6 : (Jvm.Cond.code ({ cls := "java/util/Arrays", name := "copyOf", desc := "([II)[I" } : Jvm.MethodName) jdk_65_method_123_code (3 : Nat) (Option.some (Jvm.ClassFile.FieldType.array Jvm.ClassFile.FieldType.int))).before args0 about1 = true := code_word (m := ⟨3, 1⟩) (meth := k3m1) (c := k3c1) (by decide +kernel) rfl rfl rfl (by decide +kernel)
set_option maxRecDepth 65536 in
theorem w_c7 : (Jvm.Cond.code ({ cls := "java/lang/Math", name := "min", desc := "(II)I" } : Jvm.MethodName) jdk_29_method_69_code (2 : Nat) (Option.some Jvm.ClassFile.FieldType.int)).before args0 about1 = true := code_word (m := ⟨4, 1⟩) (meth := k4m1) (c := k4c1) (by decide +kernel) rfl rfl rfl (by decide +kernel)
def codes1 : List Jvm.Cond := [Jvm.Cond.code x code maxLocals ret, Jvm.Cond.code ({ cls := "com/example/principal/principal/engine/Row", name := "<init>", desc := "()V" } : Jvm.MethodName) prog_18_method_1_code (1 : Nat) (Option.none : Option Jvm.ClassFile.FieldType), Jvm.Cond.code ({ cls := "java/lang/Object", name := "<init>", desc := "()V" } : Jvm.MethodName) object_method_1_code (1 : Nat) (Option.none : Option Jvm.ClassFile.FieldType), Jvm.Cond.code ({ cls := "com/example/principal/principal/engine/Row", name := "indexOfStamp", desc := "(I)I" } : Jvm.MethodName) prog_18_method_7_code (5 : Nat) (Option.some Jvm.ClassFile.FieldType.int), Jvm.Cond.code ({ cls := "com/example/principal/principal/engine/Row", name := "size", desc := "()I" } : Jvm.MethodName) prog_18_method_4_code (1 : Nat) (Option.some Jvm.ClassFile.FieldType.int), Jvm.Cond.code ({ cls := "com/example/principal/principal/engine/Row", name := "add", desc := "(II)V" } : Jvm.MethodName) prog_18_method_3_code (3 : Nat) (Option.none : Option Jvm.ClassFile.FieldType), Jvm.Cond.code ({ cls := "java/util/Arrays", name := "copyOf", desc := "([II)[I" } : Jvm.MethodName) jdk_65_method_123_code (3 : Nat) (Option.some (Jvm.ClassFile.FieldType.array Jvm.ClassFile.FieldType.int)), Jvm.Cond.code ({ cls := "java/lang/Math", name := "min", desc := "(II)I" } : Jvm.MethodName) jdk_29_method_69_code (2 : Nat) (Option.some Jvm.ClassFile.FieldType.int)]
set_option maxRecDepth 65536 in
theorem codes_eq : words1.filter isCode = codes1 := rfl
theorem w_codes : ∀ c ∈ words1.filter isCode, c.before args0 about1 = true := by
  rw [codes_eq]
  intro c hc
  simp only [codes1, List.mem_cons, List.not_mem_nil, or_false] at hc
  rcases hc with rfl | rfl | rfl | rfl | rfl | rfl | rfl | rfl
  · exact w_c0
  · exact w_c1
  · exact w_c2
  · exact w_c3
  · exact w_c4
  · exact w_c5
  · exact w_c6
  · exact w_c7
set_option maxRecDepth 65536 in
theorem w_t1 : (words1.take 24).all (fun c => isCode c || c.before args0 about1) = true := by decide +kernel
set_option maxRecDepth 65536 in
theorem w_t2 : (words1.drop 24).all (fun c => isCode c || c.before args0 about1) = true := by decide +kernel
theorem w_tables : (allAtoms (Jvm.Cond.code x code maxLocals ret :: tables_1)).before args0 about1 = true := by
  rw [allAtoms_all]
  show words1.all (fun c => c.before args0 about1) = true
  refine all_split ?_ w_codes
  rw [← List.take_append_drop 24 words1, List.all_append, w_t1, w_t2]
  rfl
set_option maxRecDepth 65536 in
theorem w_case : (Jvm.Cond.and given_1 narrow_1).before args0 about1 = true := by decide +kernel
theorem w_applies : (headSpec (Jvm.Cond.code x code maxLocals ret :: tables_1) room_1).applies x e0.platform about1 = true :=
  (Spec.applies_iff w_frames).mpr ⟨w_running, w_runnable, w_alone, w_named, w_hears, w_ripe, w_room, w_tables⟩
theorem atStart : AtStart classFile x code maxLocals ret World_1 tables_1 room_1 Calls_1 rest_1 Pre_1 launch0 p0 e0 about1 theMethod args0 below0 :=
  ⟨lists_1, trivial, launch0.admits_env _ _ _, launch0.least_env, fairChoices_fair.cas, fairChoices_fair.clock, w_frames, w_args, w_heap, w_applies, trivial, trivial, w_case⟩
end start1
theorem witness_1 : WitnessClaimed_1 := ⟨start1.p0, start1.e0, start1.about1, start1.theMethod, start1.args0, start1.below0, start1.atStart⟩
end Jvm.Pilot.@@N@@
