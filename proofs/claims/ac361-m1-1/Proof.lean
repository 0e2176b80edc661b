import JvmDerived
import JvmDerived.Pilot.@@N@@Statement
import JvmDerived.Pilot.@@N@@Code
set_option linter.unusedVariables false
set_option linter.unusedSimpArgs false
namespace Jvm.Own
open Sem ClassFile Op Lib Jvm.Stand Jvm.Free Jvm.LawKit Jvm.RoadKit
abbrev Ctx := Program × Launch × Env × State × MethodId × Array Value × List Frame × Method × Code
def ushr (x y : Int32) : Int32 := (x.toUInt32 >>> (y &&& 31).toUInt32).toInt32
def ushrL (x : Int64) (y : Int32) : Int64 := (x.toUInt64 >>> (y &&& 63).toInt64.toUInt64).toInt64
/-- from here the body comes to its return, and Q holds of what it returns and of the heap -/
def Go (K : Ctx) (rm : Room) (Z : State) (n0 : Nat) (bs : ByteArray) (ml : Nat) (ret : Option FieldType) (own nm : String) (Q : Option Value → Heap → Prop) (kc ks : Nat) (h : Heap) (pc : Nat) (L : Array Slot) (S : List Value) : Prop :=
  match K with
  | (p, l, e, s, m, args, below, meth, c) =>
    p.tables.exec = Jvm.exec → c.code = bs → c.maxLocals = ml → s.vm.findClass own = some m.cls → Z.Warmed39 s.vm → meth.sig.returnType = ret → meth.locks = false → meth.name = nm →
    ∀ T locs, Stand p l e rm s m args below meth c T locs kc ks → Fr n0 locs → T.heap = h →
    ∃ s₂ v L', Steps p.tables e below (T.setTop (mkF m pc L S)) s₂ ∧ s₂.status = .running ∧ Ended s₂ below (.returned v) ∧ Q v s₂.heap ∧ Fr n0 L' ∧ FrameEnd s (.returned v) s₂ L' rm.cells rm.slots
/-- a body's contract -/
def Con (Z : State) (n0 : Nat) (y : MethodName) (bs : ByteArray) (ml : Nat) (ret : Option FieldType) (rm : Room) (as : List Value) (h : Heap) (Q : Option Value → Heap → Prop) : Prop :=
  ∀ l, MetFree l y (head1 [Jvm.Cond.code y bs ml ret] rm) (fun a U => a = as.toArray ∧ Z.Warmed39 U.vm ∧ U.heap = h) (fun _ _ _ _ _ => True) (fun _ U o U' => ∃ v L, o = .returned v ∧ (Q v U'.heap ∧ Fr n0 L) ∧ FrameEnd U o U' L rm.cells rm.slots)
section Laws
variable {K : Ctx} {rm : Room} {Z : State} {n0 : Nat} {bs : ByteArray} {ml : Nat} {ret : Option FieldType} {own nm : String} {Q : Option Value → Heap → Prop} {kc ks : Nat} {h : Heap} {pc pc' : Nat} {L : Array Slot} {S : List Value} {a0 : Array Value}
theorem enterW {l : Launch} {y : MethodName} {ws : List Jvm.Cond} {as : Array Value} {L0 : Array Slot} (hpl : plainFor y = true) (hL : ∀ m, entryFrame m as ml = mkF m 0 L0 [])
    (H : ∀ K, Go K rm Z n0 bs ml ret y.cls y.name Q 0 0 h 0 L0 []) :
    MetFree l y (head1 (Jvm.Cond.code y bs ml ret :: ws) rm) (fun a U => a = as ∧ Z.Warmed39 U.vm ∧ U.heap = h) (fun _ _ _ _ _ => True) (fun _ U o U' => ∃ v L, o = .returned v ∧ (Q v U'.heap ∧ Fr n0 L) ∧ FrameEnd U o U' L rm.cells rm.slots) := by
  refine MetFree.of_bodySF hpl hisR ?_
  intro p e s m args below meth c s₁ Bd hml0 hP hK
  obtain ⟨rfl, hZ, hh⟩ := hP
  have X0 : Stand p l e rm s m args below meth c s₁ [] 0 0 := Stand.of_body Bd
  obtain ⟨s₂, v, L', st, h1, h2, h3, h4, h5⟩ := H (p, l, e, s, m, args, below, meth, c) Bd.exec Bd.bytes hml0 (findClass_of_methodNamed Bd.named) hZ Bd.returns Bd.notSynchronized (name_of_methodNamed Bd.named Bd.method).1 s₁ [] X0 (Fr.nil n0) (by rw [← hh, Bd.state]; rfl)
  exact ⟨s₂, _, castTop (hL m) st, h1, h2, v, L', rfl, ⟨h3, h4⟩, h5⟩
theorem enter {y : MethodName} {as : List Value} {L0 : Array Slot} (hpl : plainFor y = true) (hL : ∀ m, entryFrame m as.toArray ml = mkF m 0 L0 [])
    (H : ∀ K, Go K rm Z n0 bs ml ret y.cls y.name Q 0 0 h 0 L0 []) : Con Z n0 y bs ml ret rm as h Q := fun _ => enterW hpl hL H
theorem iload {k : Nat} {v : Int32} (hd : decode bs pc = .ok (.iload k, 2)) (hl : L[k]? = some (.val (.int v))) (hp : pc + 2 = pc') (hr : Go K rm Z n0 bs ml ret own nm Q kc ks h pc' L (.int v :: S)) : Go K rm Z n0 bs ml ret own nm Q kc ks h pc L S := by
  subst hp
  obtain ⟨p, l, e, s, m, args, below, meth, c⟩ := K
  intro hx hby hml hown hZ hret hlk hnm T locs X hF hh
  obtain ⟨s₂, v, L', st, r⟩ := hr hx hby hml hown hZ hret hlk hnm T locs X hF hh
  exact ⟨s₂, v, L', XS.iload X.here hx rfl (hb hby hd) hl st, r⟩
theorem iloadN {k : Fin 4} {v : Int32} (hd : decode bs pc = .ok (.iload_n k, 1)) (hl : L[k.val]? = some (.val (.int v))) (hp : pc + 1 = pc') (hr : Go K rm Z n0 bs ml ret own nm Q kc ks h pc' L (.int v :: S)) : Go K rm Z n0 bs ml ret own nm Q kc ks h pc L S := by
  subst hp
  obtain ⟨p, l, e, s, m, args, below, meth, c⟩ := K
  intro hx hby hml hown hZ hret hlk hnm T locs X hF hh
  obtain ⟨s₂, v, L', st, r⟩ := hr hx hby hml hown hZ hret hlk hnm T locs X hF hh
  exact ⟨s₂, v, L', XS.iloadN X.here hx rfl (hb hby hd) hl st, r⟩
theorem lload {k : Nat} {v : Int64} (hd : decode bs pc = .ok (.lload k, 2)) (hl : L[k]? = some (.val (.long v))) (hp : pc + 2 = pc') (hr : Go K rm Z n0 bs ml ret own nm Q kc ks h pc' L (.long v :: S)) : Go K rm Z n0 bs ml ret own nm Q kc ks h pc L S := by
  subst hp
  obtain ⟨p, l, e, s, m, args, below, meth, c⟩ := K
  intro hx hby hml hown hZ hret hlk hnm T locs X hF hh
  obtain ⟨s₂, v, L', st, r⟩ := hr hx hby hml hown hZ hret hlk hnm T locs X hF hh
  exact ⟨s₂, v, L', XS.lload X.here hx rfl (hb hby hd) hl st, r⟩
theorem lloadN {k : Fin 4} {v : Int64} (hd : decode bs pc = .ok (.lload_n k, 1)) (hl : L[k.val]? = some (.val (.long v))) (hp : pc + 1 = pc') (hr : Go K rm Z n0 bs ml ret own nm Q kc ks h pc' L (.long v :: S)) : Go K rm Z n0 bs ml ret own nm Q kc ks h pc L S := by
  subst hp
  obtain ⟨p, l, e, s, m, args, below, meth, c⟩ := K
  intro hx hby hml hown hZ hret hlk hnm T locs X hF hh
  obtain ⟨s₂, v, L', st, r⟩ := hr hx hby hml hown hZ hret hlk hnm T locs X hF hh
  exact ⟨s₂, v, L', XS.lloadN X.here hx rfl (hb hby hd) hl st, r⟩
theorem aload {k : Nat} {v : Value} (hd : decode bs pc = .ok (.aload k, 2)) (hl : L[k]? = some (.val v)) (hv : v.isRef = true) (hp : pc + 2 = pc') (hr : Go K rm Z n0 bs ml ret own nm Q kc ks h pc' L (v :: S)) : Go K rm Z n0 bs ml ret own nm Q kc ks h pc L S := by
  subst hp
  obtain ⟨p, l, e, s, m, args, below, meth, c⟩ := K
  intro hx hby hml hown hZ hret hlk hnm T locs X hF hh
  obtain ⟨s₂, v, L', st, r⟩ := hr hx hby hml hown hZ hret hlk hnm T locs X hF hh
  exact ⟨s₂, v, L', XS.aload X.here hx rfl (hb hby hd) hl hv st, r⟩
theorem aloadN {k : Fin 4} {v : Value} (hd : decode bs pc = .ok (.aload_n k, 1)) (hl : L[k.val]? = some (.val v)) (hv : v.isRef = true) (hp : pc + 1 = pc') (hr : Go K rm Z n0 bs ml ret own nm Q kc ks h pc' L (v :: S)) : Go K rm Z n0 bs ml ret own nm Q kc ks h pc L S := by
  subst hp
  obtain ⟨p, l, e, s, m, args, below, meth, c⟩ := K
  intro hx hby hml hown hZ hret hlk hnm T locs X hF hh
  obtain ⟨s₂, v, L', st, r⟩ := hr hx hby hml hown hZ hret hlk hnm T locs X hF hh
  exact ⟨s₂, v, L', XS.aloadN X.here hx rfl (hb hby hd) hl hv st, r⟩
theorem istore {k : Nat} {x : Int32} {L1 : Array Slot} (hd : decode bs pc = .ok (.istore k, 2)) (hl : storeLocals L k (.int x) = some L1) (hp : pc + 2 = pc') (hr : Go K rm Z n0 bs ml ret own nm Q kc ks h pc' L1 S) : Go K rm Z n0 bs ml ret own nm Q kc ks h pc L (.int x :: S) := by
  subst hp
  obtain ⟨p, l, e, s, m, args, below, meth, c⟩ := K
  intro hx hby hml hown hZ hret hlk hnm T locs X hF hh
  obtain ⟨s₂, v, L', st, r⟩ := hr hx hby hml hown hZ hret hlk hnm T locs X hF hh
  exact ⟨s₂, v, L', XS.istore X.here hx rfl (hb hby hd) rfl hl st, r⟩
theorem istoreN {k : Fin 4} {x : Int32} {L1 : Array Slot} (hd : decode bs pc = .ok (.istore_n k, 1)) (hl : storeLocals L k.val (.int x) = some L1) (hp : pc + 1 = pc') (hr : Go K rm Z n0 bs ml ret own nm Q kc ks h pc' L1 S) : Go K rm Z n0 bs ml ret own nm Q kc ks h pc L (.int x :: S) := by
  subst hp
  obtain ⟨p, l, e, s, m, args, below, meth, c⟩ := K
  intro hx hby hml hown hZ hret hlk hnm T locs X hF hh
  obtain ⟨s₂, v, L', st, r⟩ := hr hx hby hml hown hZ hret hlk hnm T locs X hF hh
  exact ⟨s₂, v, L', XS.istoreN X.here hx rfl (hb hby hd) rfl hl st, r⟩
theorem lstore {k : Nat} {x : Int64} {L1 : Array Slot} (hd : decode bs pc = .ok (.lstore k, 2)) (hl : storeLocals L k (.long x) = some L1) (hp : pc + 2 = pc') (hr : Go K rm Z n0 bs ml ret own nm Q kc ks h pc' L1 S) : Go K rm Z n0 bs ml ret own nm Q kc ks h pc L (.long x :: S) := by
  subst hp
  obtain ⟨p, l, e, s, m, args, below, meth, c⟩ := K
  intro hx hby hml hown hZ hret hlk hnm T locs X hF hh
  obtain ⟨s₂, v, L', st, r⟩ := hr hx hby hml hown hZ hret hlk hnm T locs X hF hh
  exact ⟨s₂, v, L', XS.lstore X.here hx rfl (hb hby hd) rfl hl st, r⟩
theorem lstoreN {k : Fin 4} {x : Int64} {L1 : Array Slot} (hd : decode bs pc = .ok (.lstore_n k, 1)) (hl : storeLocals L k.val (.long x) = some L1) (hp : pc + 1 = pc') (hr : Go K rm Z n0 bs ml ret own nm Q kc ks h pc' L1 S) : Go K rm Z n0 bs ml ret own nm Q kc ks h pc L (.long x :: S) := by
  subst hp
  obtain ⟨p, l, e, s, m, args, below, meth, c⟩ := K
  intro hx hby hml hown hZ hret hlk hnm T locs X hF hh
  obtain ⟨s₂, v, L', st, r⟩ := hr hx hby hml hown hZ hret hlk hnm T locs X hF hh
  exact ⟨s₂, v, L', XS.lstoreN X.here hx rfl (hb hby hd) rfl hl st, r⟩
theorem astore {k : Nat} {x : Value} {L1 : Array Slot} (hd : decode bs pc = .ok (.astore k, 2)) (hv : x.isRef = true) (hl : storeLocals L k x = some L1) (hp : pc + 2 = pc') (hr : Go K rm Z n0 bs ml ret own nm Q kc ks h pc' L1 S) : Go K rm Z n0 bs ml ret own nm Q kc ks h pc L (x :: S) := by
  subst hp
  obtain ⟨p, l, e, s, m, args, below, meth, c⟩ := K
  intro hx hby hml hown hZ hret hlk hnm T locs X hF hh
  obtain ⟨s₂, v, L', st, r⟩ := hr hx hby hml hown hZ hret hlk hnm T locs X hF hh
  exact ⟨s₂, v, L', XS.astore X.here hx rfl (hb hby hd) rfl hv hl st, r⟩
theorem astoreN {k : Fin 4} {x : Value} {L1 : Array Slot} (hd : decode bs pc = .ok (.astore_n k, 1)) (hv : x.isRef = true) (hl : storeLocals L k.val x = some L1) (hp : pc + 1 = pc') (hr : Go K rm Z n0 bs ml ret own nm Q kc ks h pc' L1 S) : Go K rm Z n0 bs ml ret own nm Q kc ks h pc L (x :: S) := by
  subst hp
  obtain ⟨p, l, e, s, m, args, below, meth, c⟩ := K
  intro hx hby hml hown hZ hret hlk hnm T locs X hF hh
  obtain ⟨s₂, v, L', st, r⟩ := hr hx hby hml hown hZ hret hlk hnm T locs X hF hh
  exact ⟨s₂, v, L', XS.astoreN X.here hx rfl (hb hby hd) rfl hv hl st, r⟩
theorem iconst {i : Int} {v : Int32} (hd : decode bs pc = .ok (.iconst i, 1)) (hv : Int32.ofInt i = v) (hp : pc + 1 = pc') (hr : Go K rm Z n0 bs ml ret own nm Q kc ks h pc' L (.int v :: S)) : Go K rm Z n0 bs ml ret own nm Q kc ks h pc L S := by
  subst hp
  obtain ⟨p, l, e, s, m, args, below, meth, c⟩ := K
  intro hx hby hml hown hZ hret hlk hnm T locs X hF hh
  obtain ⟨s₂, v, L', st, r⟩ := hr hx hby hml hown hZ hret hlk hnm T locs X hF hh
  exact ⟨s₂, v, L', XS.iconst X.here hx rfl (hb hby hd) (hv ▸ st), r⟩
theorem bipush {i : Int} {v : Int32} (hd : decode bs pc = .ok (.bipush i, 2)) (hv : (Int8.ofInt i).toInt32 = v) (hp : pc + 2 = pc') (hr : Go K rm Z n0 bs ml ret own nm Q kc ks h pc' L (.int v :: S)) : Go K rm Z n0 bs ml ret own nm Q kc ks h pc L S := by
  subst hp
  obtain ⟨p, l, e, s, m, args, below, meth, c⟩ := K
  intro hx hby hml hown hZ hret hlk hnm T locs X hF hh
  obtain ⟨s₂, v, L', st, r⟩ := hr hx hby hml hown hZ hret hlk hnm T locs X hF hh
  exact ⟨s₂, v, L', XS.bipush X.here hx rfl (hb hby hd) (hv ▸ st), r⟩
theorem sipush {i : Int} {v : Int32} (hd : decode bs pc = .ok (.sipush i, 3)) (hv : (Int16.ofInt i).toInt32 = v) (hp : pc + 3 = pc') (hr : Go K rm Z n0 bs ml ret own nm Q kc ks h pc' L (.int v :: S)) : Go K rm Z n0 bs ml ret own nm Q kc ks h pc L S := by
  subst hp
  obtain ⟨p, l, e, s, m, args, below, meth, c⟩ := K
  intro hx hby hml hown hZ hret hlk hnm T locs X hF hh
  obtain ⟨s₂, v, L', st, r⟩ := hr hx hby hml hown hZ hret hlk hnm T locs X hF hh
  exact ⟨s₂, v, L', XS.sipush X.here hx rfl (hb hby hd) (hv ▸ st), r⟩
theorem aconstNull  (hd : decode bs pc = .ok (.aconst_null, 1)) (hp : pc + 1 = pc') (hr : Go K rm Z n0 bs ml ret own nm Q kc ks h pc' L (.null :: S)) : Go K rm Z n0 bs ml ret own nm Q kc ks h pc L S := by
  subst hp
  obtain ⟨p, l, e, s, m, args, below, meth, c⟩ := K
  intro hx hby hml hown hZ hret hlk hnm T locs X hF hh
  obtain ⟨s₂, v, L', st, r⟩ := hr hx hby hml hown hZ hret hlk hnm T locs X hF hh
  exact ⟨s₂, v, L', XS.aconstNull X.here hx rfl (hb hby hd) st, r⟩
theorem lconst0  (hd : decode bs pc = .ok (.lconst 0, 1)) (hp : pc + 1 = pc') (hr : Go K rm Z n0 bs ml ret own nm Q kc ks h pc' L (.long 0 :: S)) : Go K rm Z n0 bs ml ret own nm Q kc ks h pc L S := by
  subst hp
  obtain ⟨p, l, e, s, m, args, below, meth, c⟩ := K
  intro hx hby hml hown hZ hret hlk hnm T locs X hF hh
  obtain ⟨s₂, v, L', st, r⟩ := hr hx hby hml hown hZ hret hlk hnm T locs X hF hh
  exact ⟨s₂, v, L', XS.lconst X.here hx rfl (hb hby hd) st, r⟩
theorem lconst1  (hd : decode bs pc = .ok (.lconst 1, 1)) (hp : pc + 1 = pc') (hr : Go K rm Z n0 bs ml ret own nm Q kc ks h pc' L (.long 1 :: S)) : Go K rm Z n0 bs ml ret own nm Q kc ks h pc L S := by
  subst hp
  obtain ⟨p, l, e, s, m, args, below, meth, c⟩ := K
  intro hx hby hml hown hZ hret hlk hnm T locs X hF hh
  obtain ⟨s₂, v, L', st, r⟩ := hr hx hby hml hown hZ hret hlk hnm T locs X hF hh
  exact ⟨s₂, v, L', XS.lconst X.here hx rfl (hb hby hd) st, r⟩
theorem ldcInt {i : Nat} {v : Int32} (hd : decode bs pc = .ok (.ldc i, 2)) (w : (Jvm.Cond.constant own i v).before a0 Z = true) (hp : pc + 2 = pc') (hr : Go K rm Z n0 bs ml ret own nm Q kc ks h pc' L (.int v :: S)) : Go K rm Z n0 bs ml ret own nm Q kc ks h pc L S := by
  subst hp
  obtain ⟨p, l, e, s, m, args, below, meth, c⟩ := K
  intro hx hby hml hown hZ hret hlk hnm T locs X hF hh
  obtain ⟨s₂, v, L', st, r⟩ := hr hx hby hml hown hZ hret hlk hnm T locs X hF hh
  exact ⟨s₂, v, L', X.ldcInt hx hown (mvT hZ w) (g := mkF m pc L S) rfl (hb hby hd) _ st, r⟩
theorem ldc2Long {i : Nat} {v : Int64} (hd : decode bs pc = .ok (.ldc2_w i, 3)) (w : (Jvm.Cond.constantLong own i v).before a0 Z = true) (hp : pc + 3 = pc') (hr : Go K rm Z n0 bs ml ret own nm Q kc ks h pc' L (.long v :: S)) : Go K rm Z n0 bs ml ret own nm Q kc ks h pc L S := by
  subst hp
  obtain ⟨p, l, e, s, m, args, below, meth, c⟩ := K
  intro hx hby hml hown hZ hret hlk hnm T locs X hF hh
  obtain ⟨s₂, v, L', st, r⟩ := hr hx hby hml hown hZ hret hlk hnm T locs X hF hh
  exact ⟨s₂, v, L', X.ldc2Long hx hown (mvT hZ w) (g := mkF m pc L S) rfl (hb hby hd) _ st, r⟩
theorem iadd {x y : Int32} (hd : decode bs pc = .ok (.iadd, 1)) (hp : pc + 1 = pc') (hr : ∀ z, z = x + y → Go K rm Z n0 bs ml ret own nm Q kc ks h pc' L (.int z :: S)) : Go K rm Z n0 bs ml ret own nm Q kc ks h pc L (.int y :: .int x :: S) := by
  subst hp
  obtain ⟨p, l, e, s, m, args, below, meth, c⟩ := K
  intro hx hby hml hown hZ hret hlk hnm T locs X hF hh
  obtain ⟨s₂, v, L', st, r⟩ := hr _ rfl hx hby hml hown hZ hret hlk hnm T locs X hF hh
  exact ⟨s₂, v, L', XS.iadd X.here hx rfl (hb hby hd) rfl st, r⟩
theorem isub {x y : Int32} (hd : decode bs pc = .ok (.isub, 1)) (hp : pc + 1 = pc') (hr : ∀ z, z = x - y → Go K rm Z n0 bs ml ret own nm Q kc ks h pc' L (.int z :: S)) : Go K rm Z n0 bs ml ret own nm Q kc ks h pc L (.int y :: .int x :: S) := by
  subst hp
  obtain ⟨p, l, e, s, m, args, below, meth, c⟩ := K
  intro hx hby hml hown hZ hret hlk hnm T locs X hF hh
  obtain ⟨s₂, v, L', st, r⟩ := hr _ rfl hx hby hml hown hZ hret hlk hnm T locs X hF hh
  exact ⟨s₂, v, L', XS.isub X.here hx rfl (hb hby hd) rfl st, r⟩
theorem imul {x y : Int32} (hd : decode bs pc = .ok (.imul, 1)) (hp : pc + 1 = pc') (hr : ∀ z, z = x * y → Go K rm Z n0 bs ml ret own nm Q kc ks h pc' L (.int z :: S)) : Go K rm Z n0 bs ml ret own nm Q kc ks h pc L (.int y :: .int x :: S) := by
  subst hp
  obtain ⟨p, l, e, s, m, args, below, meth, c⟩ := K
  intro hx hby hml hown hZ hret hlk hnm T locs X hF hh
  obtain ⟨s₂, v, L', st, r⟩ := hr _ rfl hx hby hml hown hZ hret hlk hnm T locs X hF hh
  exact ⟨s₂, v, L', XS.imul X.here hx rfl (hb hby hd) rfl st, r⟩
theorem iand {x y : Int32} (hd : decode bs pc = .ok (.iand, 1)) (hp : pc + 1 = pc') (hr : ∀ z, z = x &&& y → Go K rm Z n0 bs ml ret own nm Q kc ks h pc' L (.int z :: S)) : Go K rm Z n0 bs ml ret own nm Q kc ks h pc L (.int y :: .int x :: S) := by
  subst hp
  obtain ⟨p, l, e, s, m, args, below, meth, c⟩ := K
  intro hx hby hml hown hZ hret hlk hnm T locs X hF hh
  obtain ⟨s₂, v, L', st, r⟩ := hr _ rfl hx hby hml hown hZ hret hlk hnm T locs X hF hh
  exact ⟨s₂, v, L', XS.iand X.here hx rfl (hb hby hd) rfl st, r⟩
theorem ior {x y : Int32} (hd : decode bs pc = .ok (.ior, 1)) (hp : pc + 1 = pc') (hr : ∀ z, z = x ||| y → Go K rm Z n0 bs ml ret own nm Q kc ks h pc' L (.int z :: S)) : Go K rm Z n0 bs ml ret own nm Q kc ks h pc L (.int y :: .int x :: S) := by
  subst hp
  obtain ⟨p, l, e, s, m, args, below, meth, c⟩ := K
  intro hx hby hml hown hZ hret hlk hnm T locs X hF hh
  obtain ⟨s₂, v, L', st, r⟩ := hr _ rfl hx hby hml hown hZ hret hlk hnm T locs X hF hh
  exact ⟨s₂, v, L', XS.ior X.here hx rfl (hb hby hd) rfl st, r⟩
theorem ixor {x y : Int32} (hd : decode bs pc = .ok (.ixor, 1)) (hp : pc + 1 = pc') (hr : ∀ z, z = x ^^^ y → Go K rm Z n0 bs ml ret own nm Q kc ks h pc' L (.int z :: S)) : Go K rm Z n0 bs ml ret own nm Q kc ks h pc L (.int y :: .int x :: S) := by
  subst hp
  obtain ⟨p, l, e, s, m, args, below, meth, c⟩ := K
  intro hx hby hml hown hZ hret hlk hnm T locs X hF hh
  obtain ⟨s₂, v, L', st, r⟩ := hr _ rfl hx hby hml hown hZ hret hlk hnm T locs X hF hh
  exact ⟨s₂, v, L', XS.ixor X.here hx rfl (hb hby hd) rfl st, r⟩
theorem ishl {x y : Int32} (hd : decode bs pc = .ok (.ishl, 1)) (hp : pc + 1 = pc') (hr : ∀ z, z = x <<< (y &&& 31) → Go K rm Z n0 bs ml ret own nm Q kc ks h pc' L (.int z :: S)) : Go K rm Z n0 bs ml ret own nm Q kc ks h pc L (.int y :: .int x :: S) := by
  subst hp
  obtain ⟨p, l, e, s, m, args, below, meth, c⟩ := K
  intro hx hby hml hown hZ hret hlk hnm T locs X hF hh
  obtain ⟨s₂, v, L', st, r⟩ := hr _ rfl hx hby hml hown hZ hret hlk hnm T locs X hF hh
  exact ⟨s₂, v, L', XS.ishl X.here hx rfl (hb hby hd) rfl st, r⟩
theorem ishr {x y : Int32} (hd : decode bs pc = .ok (.ishr, 1)) (hp : pc + 1 = pc') (hr : ∀ z, z = x >>> (y &&& 31) → Go K rm Z n0 bs ml ret own nm Q kc ks h pc' L (.int z :: S)) : Go K rm Z n0 bs ml ret own nm Q kc ks h pc L (.int y :: .int x :: S) := by
  subst hp
  obtain ⟨p, l, e, s, m, args, below, meth, c⟩ := K
  intro hx hby hml hown hZ hret hlk hnm T locs X hF hh
  obtain ⟨s₂, v, L', st, r⟩ := hr _ rfl hx hby hml hown hZ hret hlk hnm T locs X hF hh
  exact ⟨s₂, v, L', XS.ishr X.here hx rfl (hb hby hd) rfl st, r⟩
theorem iushr {x y : Int32} (hd : decode bs pc = .ok (.iushr, 1)) (hp : pc + 1 = pc') (hr : ∀ z, z = Jvm.Own.ushr x y → Go K rm Z n0 bs ml ret own nm Q kc ks h pc' L (.int z :: S)) : Go K rm Z n0 bs ml ret own nm Q kc ks h pc L (.int y :: .int x :: S) := by
  subst hp
  obtain ⟨p, l, e, s, m, args, below, meth, c⟩ := K
  intro hx hby hml hown hZ hret hlk hnm T locs X hF hh
  obtain ⟨s₂, v, L', st, r⟩ := hr _ rfl hx hby hml hown hZ hret hlk hnm T locs X hF hh
  exact ⟨s₂, v, L', XS.iushr X.here hx rfl (hb hby hd) rfl st, r⟩
theorem ladd {x y : Int64} (hd : decode bs pc = .ok (.ladd, 1)) (hp : pc + 1 = pc') (hr : ∀ z, z = x + y → Go K rm Z n0 bs ml ret own nm Q kc ks h pc' L (.long z :: S)) : Go K rm Z n0 bs ml ret own nm Q kc ks h pc L (.long y :: .long x :: S) := by
  subst hp
  obtain ⟨p, l, e, s, m, args, below, meth, c⟩ := K
  intro hx hby hml hown hZ hret hlk hnm T locs X hF hh
  obtain ⟨s₂, v, L', st, r⟩ := hr _ rfl hx hby hml hown hZ hret hlk hnm T locs X hF hh
  exact ⟨s₂, v, L', XS.ladd X.here hx rfl (hb hby hd) rfl st, r⟩
theorem lsub {x y : Int64} (hd : decode bs pc = .ok (.lsub, 1)) (hp : pc + 1 = pc') (hr : ∀ z, z = x - y → Go K rm Z n0 bs ml ret own nm Q kc ks h pc' L (.long z :: S)) : Go K rm Z n0 bs ml ret own nm Q kc ks h pc L (.long y :: .long x :: S) := by
  subst hp
  obtain ⟨p, l, e, s, m, args, below, meth, c⟩ := K
  intro hx hby hml hown hZ hret hlk hnm T locs X hF hh
  obtain ⟨s₂, v, L', st, r⟩ := hr _ rfl hx hby hml hown hZ hret hlk hnm T locs X hF hh
  exact ⟨s₂, v, L', XS.lsub X.here hx rfl (hb hby hd) rfl st, r⟩
theorem lmul {x y : Int64} (hd : decode bs pc = .ok (.lmul, 1)) (hp : pc + 1 = pc') (hr : ∀ z, z = x * y → Go K rm Z n0 bs ml ret own nm Q kc ks h pc' L (.long z :: S)) : Go K rm Z n0 bs ml ret own nm Q kc ks h pc L (.long y :: .long x :: S) := by
  subst hp
  obtain ⟨p, l, e, s, m, args, below, meth, c⟩ := K
  intro hx hby hml hown hZ hret hlk hnm T locs X hF hh
  obtain ⟨s₂, v, L', st, r⟩ := hr _ rfl hx hby hml hown hZ hret hlk hnm T locs X hF hh
  exact ⟨s₂, v, L', XS.lmul X.here hx rfl (hb hby hd) rfl st, r⟩
theorem land {x y : Int64} (hd : decode bs pc = .ok (.land, 1)) (hp : pc + 1 = pc') (hr : ∀ z, z = x &&& y → Go K rm Z n0 bs ml ret own nm Q kc ks h pc' L (.long z :: S)) : Go K rm Z n0 bs ml ret own nm Q kc ks h pc L (.long y :: .long x :: S) := by
  subst hp
  obtain ⟨p, l, e, s, m, args, below, meth, c⟩ := K
  intro hx hby hml hown hZ hret hlk hnm T locs X hF hh
  obtain ⟨s₂, v, L', st, r⟩ := hr _ rfl hx hby hml hown hZ hret hlk hnm T locs X hF hh
  exact ⟨s₂, v, L', XS.land X.here hx rfl (hb hby hd) rfl st, r⟩
theorem lor {x y : Int64} (hd : decode bs pc = .ok (.lor, 1)) (hp : pc + 1 = pc') (hr : ∀ z, z = x ||| y → Go K rm Z n0 bs ml ret own nm Q kc ks h pc' L (.long z :: S)) : Go K rm Z n0 bs ml ret own nm Q kc ks h pc L (.long y :: .long x :: S) := by
  subst hp
  obtain ⟨p, l, e, s, m, args, below, meth, c⟩ := K
  intro hx hby hml hown hZ hret hlk hnm T locs X hF hh
  obtain ⟨s₂, v, L', st, r⟩ := hr _ rfl hx hby hml hown hZ hret hlk hnm T locs X hF hh
  exact ⟨s₂, v, L', XS.lor X.here hx rfl (hb hby hd) rfl st, r⟩
theorem lxor {x y : Int64} (hd : decode bs pc = .ok (.lxor, 1)) (hp : pc + 1 = pc') (hr : ∀ z, z = x ^^^ y → Go K rm Z n0 bs ml ret own nm Q kc ks h pc' L (.long z :: S)) : Go K rm Z n0 bs ml ret own nm Q kc ks h pc L (.long y :: .long x :: S) := by
  subst hp
  obtain ⟨p, l, e, s, m, args, below, meth, c⟩ := K
  intro hx hby hml hown hZ hret hlk hnm T locs X hF hh
  obtain ⟨s₂, v, L', st, r⟩ := hr _ rfl hx hby hml hown hZ hret hlk hnm T locs X hF hh
  exact ⟨s₂, v, L', XS.lxor X.here hx rfl (hb hby hd) rfl st, r⟩
theorem lshl {x : Int64} {y : Int32} (hd : decode bs pc = .ok (.lshl, 1)) (hp : pc + 1 = pc') (hr : ∀ z, z = x <<< (y &&& 63).toInt64 → Go K rm Z n0 bs ml ret own nm Q kc ks h pc' L (.long z :: S)) : Go K rm Z n0 bs ml ret own nm Q kc ks h pc L (.int y :: .long x :: S) := by
  subst hp
  obtain ⟨p, l, e, s, m, args, below, meth, c⟩ := K
  intro hx hby hml hown hZ hret hlk hnm T locs X hF hh
  obtain ⟨s₂, v, L', st, r⟩ := hr _ rfl hx hby hml hown hZ hret hlk hnm T locs X hF hh
  exact ⟨s₂, v, L', XS.lshl X.here hx rfl (hb hby hd) rfl st, r⟩
theorem lshr {x : Int64} {y : Int32} (hd : decode bs pc = .ok (.lshr, 1)) (hp : pc + 1 = pc') (hr : ∀ z, z = x >>> (y &&& 63).toInt64 → Go K rm Z n0 bs ml ret own nm Q kc ks h pc' L (.long z :: S)) : Go K rm Z n0 bs ml ret own nm Q kc ks h pc L (.int y :: .long x :: S) := by
  subst hp
  obtain ⟨p, l, e, s, m, args, below, meth, c⟩ := K
  intro hx hby hml hown hZ hret hlk hnm T locs X hF hh
  obtain ⟨s₂, v, L', st, r⟩ := hr _ rfl hx hby hml hown hZ hret hlk hnm T locs X hF hh
  exact ⟨s₂, v, L', XS.lshr X.here hx rfl (hb hby hd) rfl st, r⟩
theorem lushr {x : Int64} {y : Int32} (hd : decode bs pc = .ok (.lushr, 1)) (hp : pc + 1 = pc') (hr : ∀ z, z = Jvm.Own.ushrL x y → Go K rm Z n0 bs ml ret own nm Q kc ks h pc' L (.long z :: S)) : Go K rm Z n0 bs ml ret own nm Q kc ks h pc L (.int y :: .long x :: S) := by
  subst hp
  obtain ⟨p, l, e, s, m, args, below, meth, c⟩ := K
  intro hx hby hml hown hZ hret hlk hnm T locs X hF hh
  obtain ⟨s₂, v, L', st, r⟩ := hr _ rfl hx hby hml hown hZ hret hlk hnm T locs X hF hh
  exact ⟨s₂, v, L', XS.lushr X.here hx rfl (hb hby hd) rfl st, r⟩
theorem idiv {x y : Int32} (hd : decode bs pc = .ok (.idiv, 1)) (hy : y ≠ 0) (hp : pc + 1 = pc') (hr : ∀ z, z = x / y → Go K rm Z n0 bs ml ret own nm Q kc ks h pc' L (.int z :: S)) : Go K rm Z n0 bs ml ret own nm Q kc ks h pc L (.int y :: .int x :: S) := by
  subst hp
  obtain ⟨p, l, e, s, m, args, below, meth, c⟩ := K
  intro hx hby hml hown hZ hret hlk hnm T locs X hF hh
  obtain ⟨s₂, v, L', st, r⟩ := hr _ rfl hx hby hml hown hZ hret hlk hnm T locs X hF hh
  exact ⟨s₂, v, L', XS.idiv X.here hx rfl (hb hby hd) rfl hy st, r⟩
theorem irem {x y : Int32} (hd : decode bs pc = .ok (.irem, 1)) (hy : y ≠ 0) (hp : pc + 1 = pc') (hr : ∀ z, z = x % y → Go K rm Z n0 bs ml ret own nm Q kc ks h pc' L (.int z :: S)) : Go K rm Z n0 bs ml ret own nm Q kc ks h pc L (.int y :: .int x :: S) := by
  subst hp
  obtain ⟨p, l, e, s, m, args, below, meth, c⟩ := K
  intro hx hby hml hown hZ hret hlk hnm T locs X hF hh
  obtain ⟨s₂, v, L', st, r⟩ := hr _ rfl hx hby hml hown hZ hret hlk hnm T locs X hF hh
  exact ⟨s₂, v, L', iremM X hx rfl (hb hby hd) rfl hy st, r⟩
theorem ldiv {x y : Int64} (hd : decode bs pc = .ok (.ldiv, 1)) (hy : y ≠ 0) (hp : pc + 1 = pc') (hr : ∀ z, z = x / y → Go K rm Z n0 bs ml ret own nm Q kc ks h pc' L (.long z :: S)) : Go K rm Z n0 bs ml ret own nm Q kc ks h pc L (.long y :: .long x :: S) := by
  subst hp
  obtain ⟨p, l, e, s, m, args, below, meth, c⟩ := K
  intro hx hby hml hown hZ hret hlk hnm T locs X hF hh
  obtain ⟨s₂, v, L', st, r⟩ := hr _ rfl hx hby hml hown hZ hret hlk hnm T locs X hF hh
  exact ⟨s₂, v, L', XS.ldiv X.here hx rfl (hb hby hd) rfl hy st, r⟩
theorem lrem {x y : Int64} (hd : decode bs pc = .ok (.lrem, 1)) (hy : y ≠ 0) (hp : pc + 1 = pc') (hr : ∀ z, z = x - (x / y) * y → Go K rm Z n0 bs ml ret own nm Q kc ks h pc' L (.long z :: S)) : Go K rm Z n0 bs ml ret own nm Q kc ks h pc L (.long y :: .long x :: S) := by
  subst hp
  obtain ⟨p, l, e, s, m, args, below, meth, c⟩ := K
  intro hx hby hml hown hZ hret hlk hnm T locs X hF hh
  obtain ⟨s₂, v, L', st, r⟩ := hr _ rfl hx hby hml hown hZ hret hlk hnm T locs X hF hh
  exact ⟨s₂, v, L', XS.lrem X.here hx rfl (hb hby hd) rfl hy st, r⟩
theorem ineg {x : Int32} (hd : decode bs pc = .ok (.ineg, 1)) (hp : pc + 1 = pc') (hr : ∀ z, z = -x → Go K rm Z n0 bs ml ret own nm Q kc ks h pc' L (.int z :: S)) : Go K rm Z n0 bs ml ret own nm Q kc ks h pc L (.int x :: S) := by
  subst hp
  obtain ⟨p, l, e, s, m, args, below, meth, c⟩ := K
  intro hx hby hml hown hZ hret hlk hnm T locs X hF hh
  obtain ⟨s₂, v, L', st, r⟩ := hr _ rfl hx hby hml hown hZ hret hlk hnm T locs X hF hh
  exact ⟨s₂, v, L', XS.ineg X.here hx rfl (hb hby hd) rfl st, r⟩
theorem lneg {x : Int64} (hd : decode bs pc = .ok (.lneg, 1)) (hp : pc + 1 = pc') (hr : ∀ z, z = -x → Go K rm Z n0 bs ml ret own nm Q kc ks h pc' L (.long z :: S)) : Go K rm Z n0 bs ml ret own nm Q kc ks h pc L (.long x :: S) := by
  subst hp
  obtain ⟨p, l, e, s, m, args, below, meth, c⟩ := K
  intro hx hby hml hown hZ hret hlk hnm T locs X hF hh
  obtain ⟨s₂, v, L', st, r⟩ := hr _ rfl hx hby hml hown hZ hret hlk hnm T locs X hF hh
  exact ⟨s₂, v, L', XS.lneg X.here hx rfl (hb hby hd) rfl st, r⟩
theorem i2l {x : Int32} (hd : decode bs pc = .ok (.i2l, 1)) (hp : pc + 1 = pc') (hr : ∀ z, z = x.toInt64 → Go K rm Z n0 bs ml ret own nm Q kc ks h pc' L (.long z :: S)) : Go K rm Z n0 bs ml ret own nm Q kc ks h pc L (.int x :: S) := by
  subst hp
  obtain ⟨p, l, e, s, m, args, below, meth, c⟩ := K
  intro hx hby hml hown hZ hret hlk hnm T locs X hF hh
  obtain ⟨s₂, v, L', st, r⟩ := hr _ rfl hx hby hml hown hZ hret hlk hnm T locs X hF hh
  exact ⟨s₂, v, L', XS.i2l X.here hx rfl (hb hby hd) rfl st, r⟩
theorem l2i {x : Int64} (hd : decode bs pc = .ok (.l2i, 1)) (hp : pc + 1 = pc') (hr : ∀ z, z = x.toInt32 → Go K rm Z n0 bs ml ret own nm Q kc ks h pc' L (.int z :: S)) : Go K rm Z n0 bs ml ret own nm Q kc ks h pc L (.long x :: S) := by
  subst hp
  obtain ⟨p, l, e, s, m, args, below, meth, c⟩ := K
  intro hx hby hml hown hZ hret hlk hnm T locs X hF hh
  obtain ⟨s₂, v, L', st, r⟩ := hr _ rfl hx hby hml hown hZ hret hlk hnm T locs X hF hh
  exact ⟨s₂, v, L', XS.l2i X.here hx rfl (hb hby hd) rfl st, r⟩
theorem i2b {x : Int32} (hd : decode bs pc = .ok (.i2b, 1)) (hp : pc + 1 = pc') (hr : ∀ z, z = x.toInt8.toInt32 → Go K rm Z n0 bs ml ret own nm Q kc ks h pc' L (.int z :: S)) : Go K rm Z n0 bs ml ret own nm Q kc ks h pc L (.int x :: S) := by
  subst hp
  obtain ⟨p, l, e, s, m, args, below, meth, c⟩ := K
  intro hx hby hml hown hZ hret hlk hnm T locs X hF hh
  obtain ⟨s₂, v, L', st, r⟩ := hr _ rfl hx hby hml hown hZ hret hlk hnm T locs X hF hh
  exact ⟨s₂, v, L', XS.i2b X.here hx rfl (hb hby hd) rfl st, r⟩
theorem i2c {x : Int32} (hd : decode bs pc = .ok (.i2c, 1)) (hp : pc + 1 = pc') (hr : ∀ z, z = x.toUInt32.toUInt16.toUInt32.toInt32 → Go K rm Z n0 bs ml ret own nm Q kc ks h pc' L (.int z :: S)) : Go K rm Z n0 bs ml ret own nm Q kc ks h pc L (.int x :: S) := by
  subst hp
  obtain ⟨p, l, e, s, m, args, below, meth, c⟩ := K
  intro hx hby hml hown hZ hret hlk hnm T locs X hF hh
  obtain ⟨s₂, v, L', st, r⟩ := hr _ rfl hx hby hml hown hZ hret hlk hnm T locs X hF hh
  exact ⟨s₂, v, L', XS.i2c X.here hx rfl (hb hby hd) rfl st, r⟩
theorem iinc {k : Nat} {i : Int} {x : Int32} {L1 : Int32 → Array Slot} (hd : decode bs pc = .ok (.iinc k i, 3)) (hl : L[k]? = some (.val (.int x))) (hl1 : ∀ z : Int32, storeLocals L k (.int z) = some (L1 z)) (hp : pc + 3 = pc') (hr : ∀ z, z = x + Int32.ofInt i → Go K rm Z n0 bs ml ret own nm Q kc ks h pc' (L1 z) S) : Go K rm Z n0 bs ml ret own nm Q kc ks h pc L S := by
  subst hp
  obtain ⟨p, l, e, s, m, args, below, meth, c⟩ := K
  intro hx hby hml hown hZ hret hlk hnm T locs X hF hh
  obtain ⟨s₂, v, L', st, r⟩ := hr _ rfl hx hby hml hown hZ hret hlk hnm T locs X hF hh
  exact ⟨s₂, v, L', XS.iinc X.here hx rfl (hb hby hd) hl (hl1 _) st, r⟩
theorem dup {x : Value} (hd : decode bs pc = .ok (.dup, 1)) (hc : x.category = 1) (hp : pc + 1 = pc') (hr : Go K rm Z n0 bs ml ret own nm Q kc ks h pc' L (x :: x :: S)) : Go K rm Z n0 bs ml ret own nm Q kc ks h pc L (x :: S) := by
  subst hp
  obtain ⟨p, l, e, s, m, args, below, meth, c⟩ := K
  intro hx hby hml hown hZ hret hlk hnm T locs X hF hh
  obtain ⟨s₂, v, L', st, r⟩ := hr hx hby hml hown hZ hret hlk hnm T locs X hF hh
  exact ⟨s₂, v, L', XS.dup X.here hx rfl (hb hby hd) rfl hc st, r⟩
theorem pop {x : Value} (hd : decode bs pc = .ok (.pop, 1)) (hc : x.category = 1) (hp : pc + 1 = pc') (hr : Go K rm Z n0 bs ml ret own nm Q kc ks h pc' L S) : Go K rm Z n0 bs ml ret own nm Q kc ks h pc L (x :: S) := by
  subst hp
  obtain ⟨p, l, e, s, m, args, below, meth, c⟩ := K
  intro hx hby hml hown hZ hret hlk hnm T locs X hF hh
  obtain ⟨s₂, v, L', st, r⟩ := hr hx hby hml hown hZ hret hlk hnm T locs X hF hh
  exact ⟨s₂, v, L', XS.pop X.here hx rfl (hb hby hd) rfl hc st, r⟩
theorem dupX1 {x y : Value} (hd : decode bs pc = .ok (.dup_x1, 1)) (hc : x.category = 1) (hc2 : y.category = 1) (hp : pc + 1 = pc') (hr : Go K rm Z n0 bs ml ret own nm Q kc ks h pc' L (x :: y :: x :: S)) : Go K rm Z n0 bs ml ret own nm Q kc ks h pc L (x :: y :: S) := by
  subst hp
  obtain ⟨p, l, e, s, m, args, below, meth, c⟩ := K
  intro hx hby hml hown hZ hret hlk hnm T locs X hF hh
  obtain ⟨s₂, v, L', st, r⟩ := hr hx hby hml hown hZ hret hlk hnm T locs X hF hh
  exact ⟨s₂, v, L', XS.dupX1 X.here hx rfl (hb hby hd) rfl hc hc2 st, r⟩
theorem goto {o : Int} (hd : decode bs pc = .ok (.goto o, 3)) (ho : 0 ≤ (pc : Int) + o) (hp : ((pc : Int) + o).toNat = pc') (hr : Go K rm Z n0 bs ml ret own nm Q kc ks h pc' L S) : Go K rm Z n0 bs ml ret own nm Q kc ks h pc L S := by
  obtain ⟨p, l, e, s, m, args, below, meth, c⟩ := K
  intro hx hby hml hown hZ hret hlk hnm T locs X hF hh
  obtain ⟨s₂, v, L', st, r⟩ := hr hx hby hml hown hZ hret hlk hnm T locs X hF hh
  exact ⟨s₂, v, L', XS.goto X.here hx rfl (pc0 := pc) (pc' := pc') rfl (hb hby hd) ho hp st, r⟩
theorem holds_iff (cd : ClassFile.Cond) (x y : Int32) : if_icmp.holds cd x y = true ↔ (match cd with | .lt => x.toInt < y.toInt | .ge => y.toInt ≤ x.toInt | .gt => y.toInt < x.toInt | .le => x.toInt ≤ y.toInt | .eq => x = y | .ne => x ≠ y) := by
  cases cd <;> simp [if_icmp.holds, Int32.lt_iff_toInt_lt, Int32.le_iff_toInt_le]
theorem icmp_lt {x y : Int32} {o : Int} {pc2 : Nat} (hd : decode bs pc = .ok (.if_icmp .lt o, 3)) (ho : 0 ≤ (pc : Int) + o) (hp : ((pc : Int) + o).toNat = pc') (hp2 : pc + 3 = pc2)
    (hy : x.toInt < y.toInt → Go K rm Z n0 bs ml ret own nm Q kc ks h pc' L S) (hn : ¬ (x.toInt < y.toInt) → Go K rm Z n0 bs ml ret own nm Q kc ks h pc2 L S) : Go K rm Z n0 bs ml ret own nm Q kc ks h pc L (.int y :: .int x :: S) := by
  subst hp2
  by_cases q : x.toInt < y.toInt
  · have q2 := (holds_iff .lt x y).mpr q
    replace hy := hy q
    obtain ⟨p, l, e, s, m, args, below, meth, c⟩ := K
    intro hx hby hml hown hZ hret hlk hnm T locs X hF hh
    obtain ⟨s₂, v, L', st, r⟩ := hy hx hby hml hown hZ hret hlk hnm T locs X hF hh
    exact ⟨s₂, v, L', XS.icmpYes X.here hx rfl (pc0 := pc) (pc' := pc') rfl (hb hby hd) rfl q2 ho hp st, r⟩
  · have q2 : if_icmp.holds .lt x y = false := by rw [← Bool.not_eq_true]; exact fun t => q ((holds_iff .lt x y).mp t)
    replace hn := hn q
    obtain ⟨p, l, e, s, m, args, below, meth, c⟩ := K
    intro hx hby hml hown hZ hret hlk hnm T locs X hF hh
    obtain ⟨s₂, v, L', st, r⟩ := hn hx hby hml hown hZ hret hlk hnm T locs X hF hh
    exact ⟨s₂, v, L', XS.icmpNo X.here hx rfl (hb hby hd) rfl q2 st, r⟩
theorem icmp_ge {x y : Int32} {o : Int} {pc2 : Nat} (hd : decode bs pc = .ok (.if_icmp .ge o, 3)) (ho : 0 ≤ (pc : Int) + o) (hp : ((pc : Int) + o).toNat = pc') (hp2 : pc + 3 = pc2)
    (hy : y.toInt ≤ x.toInt → Go K rm Z n0 bs ml ret own nm Q kc ks h pc' L S) (hn : ¬ (y.toInt ≤ x.toInt) → Go K rm Z n0 bs ml ret own nm Q kc ks h pc2 L S) : Go K rm Z n0 bs ml ret own nm Q kc ks h pc L (.int y :: .int x :: S) := by
  subst hp2
  by_cases q : y.toInt ≤ x.toInt
  · have q2 := (holds_iff .ge x y).mpr q
    replace hy := hy q
    obtain ⟨p, l, e, s, m, args, below, meth, c⟩ := K
    intro hx hby hml hown hZ hret hlk hnm T locs X hF hh
    obtain ⟨s₂, v, L', st, r⟩ := hy hx hby hml hown hZ hret hlk hnm T locs X hF hh
    exact ⟨s₂, v, L', XS.icmpYes X.here hx rfl (pc0 := pc) (pc' := pc') rfl (hb hby hd) rfl q2 ho hp st, r⟩
  · have q2 : if_icmp.holds .ge x y = false := by rw [← Bool.not_eq_true]; exact fun t => q ((holds_iff .ge x y).mp t)
    replace hn := hn q
    obtain ⟨p, l, e, s, m, args, below, meth, c⟩ := K
    intro hx hby hml hown hZ hret hlk hnm T locs X hF hh
    obtain ⟨s₂, v, L', st, r⟩ := hn hx hby hml hown hZ hret hlk hnm T locs X hF hh
    exact ⟨s₂, v, L', XS.icmpNo X.here hx rfl (hb hby hd) rfl q2 st, r⟩
theorem icmp_gt {x y : Int32} {o : Int} {pc2 : Nat} (hd : decode bs pc = .ok (.if_icmp .gt o, 3)) (ho : 0 ≤ (pc : Int) + o) (hp : ((pc : Int) + o).toNat = pc') (hp2 : pc + 3 = pc2)
    (hy : y.toInt < x.toInt → Go K rm Z n0 bs ml ret own nm Q kc ks h pc' L S) (hn : ¬ (y.toInt < x.toInt) → Go K rm Z n0 bs ml ret own nm Q kc ks h pc2 L S) : Go K rm Z n0 bs ml ret own nm Q kc ks h pc L (.int y :: .int x :: S) := by
  subst hp2
  by_cases q : y.toInt < x.toInt
  · have q2 := (holds_iff .gt x y).mpr q
    replace hy := hy q
    obtain ⟨p, l, e, s, m, args, below, meth, c⟩ := K
    intro hx hby hml hown hZ hret hlk hnm T locs X hF hh
    obtain ⟨s₂, v, L', st, r⟩ := hy hx hby hml hown hZ hret hlk hnm T locs X hF hh
    exact ⟨s₂, v, L', XS.icmpYes X.here hx rfl (pc0 := pc) (pc' := pc') rfl (hb hby hd) rfl q2 ho hp st, r⟩
  · have q2 : if_icmp.holds .gt x y = false := by rw [← Bool.not_eq_true]; exact fun t => q ((holds_iff .gt x y).mp t)
    replace hn := hn q
    obtain ⟨p, l, e, s, m, args, below, meth, c⟩ := K
    intro hx hby hml hown hZ hret hlk hnm T locs X hF hh
    obtain ⟨s₂, v, L', st, r⟩ := hn hx hby hml hown hZ hret hlk hnm T locs X hF hh
    exact ⟨s₂, v, L', XS.icmpNo X.here hx rfl (hb hby hd) rfl q2 st, r⟩
theorem icmp_le {x y : Int32} {o : Int} {pc2 : Nat} (hd : decode bs pc = .ok (.if_icmp .le o, 3)) (ho : 0 ≤ (pc : Int) + o) (hp : ((pc : Int) + o).toNat = pc') (hp2 : pc + 3 = pc2)
    (hy : x.toInt ≤ y.toInt → Go K rm Z n0 bs ml ret own nm Q kc ks h pc' L S) (hn : ¬ (x.toInt ≤ y.toInt) → Go K rm Z n0 bs ml ret own nm Q kc ks h pc2 L S) : Go K rm Z n0 bs ml ret own nm Q kc ks h pc L (.int y :: .int x :: S) := by
  subst hp2
  by_cases q : x.toInt ≤ y.toInt
  · have q2 := (holds_iff .le x y).mpr q
    replace hy := hy q
    obtain ⟨p, l, e, s, m, args, below, meth, c⟩ := K
    intro hx hby hml hown hZ hret hlk hnm T locs X hF hh
    obtain ⟨s₂, v, L', st, r⟩ := hy hx hby hml hown hZ hret hlk hnm T locs X hF hh
    exact ⟨s₂, v, L', XS.icmpYes X.here hx rfl (pc0 := pc) (pc' := pc') rfl (hb hby hd) rfl q2 ho hp st, r⟩
  · have q2 : if_icmp.holds .le x y = false := by rw [← Bool.not_eq_true]; exact fun t => q ((holds_iff .le x y).mp t)
    replace hn := hn q
    obtain ⟨p, l, e, s, m, args, below, meth, c⟩ := K
    intro hx hby hml hown hZ hret hlk hnm T locs X hF hh
    obtain ⟨s₂, v, L', st, r⟩ := hn hx hby hml hown hZ hret hlk hnm T locs X hF hh
    exact ⟨s₂, v, L', XS.icmpNo X.here hx rfl (hb hby hd) rfl q2 st, r⟩
theorem icmp_eq {x y : Int32} {o : Int} {pc2 : Nat} (hd : decode bs pc = .ok (.if_icmp .eq o, 3)) (ho : 0 ≤ (pc : Int) + o) (hp : ((pc : Int) + o).toNat = pc') (hp2 : pc + 3 = pc2)
    (hy : x = y → Go K rm Z n0 bs ml ret own nm Q kc ks h pc' L S) (hn : ¬ (x = y) → Go K rm Z n0 bs ml ret own nm Q kc ks h pc2 L S) : Go K rm Z n0 bs ml ret own nm Q kc ks h pc L (.int y :: .int x :: S) := by
  subst hp2
  by_cases q : x = y
  · have q2 := (holds_iff .eq x y).mpr q
    replace hy := hy q
    obtain ⟨p, l, e, s, m, args, below, meth, c⟩ := K
    intro hx hby hml hown hZ hret hlk hnm T locs X hF hh
    obtain ⟨s₂, v, L', st, r⟩ := hy hx hby hml hown hZ hret hlk hnm T locs X hF hh
    exact ⟨s₂, v, L', XS.icmpYes X.here hx rfl (pc0 := pc) (pc' := pc') rfl (hb hby hd) rfl q2 ho hp st, r⟩
  · have q2 : if_icmp.holds .eq x y = false := by rw [← Bool.not_eq_true]; exact fun t => q ((holds_iff .eq x y).mp t)
    replace hn := hn q
    obtain ⟨p, l, e, s, m, args, below, meth, c⟩ := K
    intro hx hby hml hown hZ hret hlk hnm T locs X hF hh
    obtain ⟨s₂, v, L', st, r⟩ := hn hx hby hml hown hZ hret hlk hnm T locs X hF hh
    exact ⟨s₂, v, L', XS.icmpNo X.here hx rfl (hb hby hd) rfl q2 st, r⟩
theorem icmp_ne {x y : Int32} {o : Int} {pc2 : Nat} (hd : decode bs pc = .ok (.if_icmp .ne o, 3)) (ho : 0 ≤ (pc : Int) + o) (hp : ((pc : Int) + o).toNat = pc') (hp2 : pc + 3 = pc2)
    (hy : x ≠ y → Go K rm Z n0 bs ml ret own nm Q kc ks h pc' L S) (hn : ¬ (x ≠ y) → Go K rm Z n0 bs ml ret own nm Q kc ks h pc2 L S) : Go K rm Z n0 bs ml ret own nm Q kc ks h pc L (.int y :: .int x :: S) := by
  subst hp2
  by_cases q : x ≠ y
  · have q2 := (holds_iff .ne x y).mpr q
    replace hy := hy q
    obtain ⟨p, l, e, s, m, args, below, meth, c⟩ := K
    intro hx hby hml hown hZ hret hlk hnm T locs X hF hh
    obtain ⟨s₂, v, L', st, r⟩ := hy hx hby hml hown hZ hret hlk hnm T locs X hF hh
    exact ⟨s₂, v, L', XS.icmpYes X.here hx rfl (pc0 := pc) (pc' := pc') rfl (hb hby hd) rfl q2 ho hp st, r⟩
  · have q2 : if_icmp.holds .ne x y = false := by rw [← Bool.not_eq_true]; exact fun t => q ((holds_iff .ne x y).mp t)
    replace hn := hn q
    obtain ⟨p, l, e, s, m, args, below, meth, c⟩ := K
    intro hx hby hml hown hZ hret hlk hnm T locs X hF hh
    obtain ⟨s₂, v, L', st, r⟩ := hn hx hby hml hown hZ hret hlk hnm T locs X hF hh
    exact ⟨s₂, v, L', XS.icmpNo X.here hx rfl (hb hby hd) rfl q2 st, r⟩
theorem if_lt {x : Int32} {o : Int} {pc2 : Nat} (hd : decode bs pc = .ok (.ifCond .lt o, 3)) (ho : 0 ≤ (pc : Int) + o) (hp : ((pc : Int) + o).toNat = pc') (hp2 : pc + 3 = pc2)
    (hy : x.toInt < 0 → Go K rm Z n0 bs ml ret own nm Q kc ks h pc' L S) (hn : ¬ (x.toInt < 0) → Go K rm Z n0 bs ml ret own nm Q kc ks h pc2 L S) : Go K rm Z n0 bs ml ret own nm Q kc ks h pc L (.int x :: S) := by
  subst hp2
  by_cases q : x.toInt < 0
  · have q2 : ifCond.holds .lt x = true := (if0 _ _).trans ((holds_iff .lt x 0).mpr (by simpa using q))
    replace hy := hy q
    obtain ⟨p, l, e, s, m, args, below, meth, c⟩ := K
    intro hx hby hml hown hZ hret hlk hnm T locs X hF hh
    obtain ⟨s₂, v, L', st, r⟩ := hy hx hby hml hown hZ hret hlk hnm T locs X hF hh
    exact ⟨s₂, v, L', XS.ifYes X.here hx rfl (pc0 := pc) (pc' := pc') rfl (hb hby hd) rfl q2 ho hp st, r⟩
  · have q2 : ifCond.holds .lt x = false := by rw [← Bool.not_eq_true, if0]; exact fun t => q (by simpa using (holds_iff .lt x 0).mp t)
    replace hn := hn q
    obtain ⟨p, l, e, s, m, args, below, meth, c⟩ := K
    intro hx hby hml hown hZ hret hlk hnm T locs X hF hh
    obtain ⟨s₂, v, L', st, r⟩ := hn hx hby hml hown hZ hret hlk hnm T locs X hF hh
    exact ⟨s₂, v, L', XS.ifNo X.here hx rfl (hb hby hd) rfl q2 st, r⟩
theorem if_ge {x : Int32} {o : Int} {pc2 : Nat} (hd : decode bs pc = .ok (.ifCond .ge o, 3)) (ho : 0 ≤ (pc : Int) + o) (hp : ((pc : Int) + o).toNat = pc') (hp2 : pc + 3 = pc2)
    (hy : 0 ≤ x.toInt → Go K rm Z n0 bs ml ret own nm Q kc ks h pc' L S) (hn : ¬ (0 ≤ x.toInt) → Go K rm Z n0 bs ml ret own nm Q kc ks h pc2 L S) : Go K rm Z n0 bs ml ret own nm Q kc ks h pc L (.int x :: S) := by
  subst hp2
  by_cases q : 0 ≤ x.toInt
  · have q2 : ifCond.holds .ge x = true := (if0 _ _).trans ((holds_iff .ge x 0).mpr (by simpa using q))
    replace hy := hy q
    obtain ⟨p, l, e, s, m, args, below, meth, c⟩ := K
    intro hx hby hml hown hZ hret hlk hnm T locs X hF hh
    obtain ⟨s₂, v, L', st, r⟩ := hy hx hby hml hown hZ hret hlk hnm T locs X hF hh
    exact ⟨s₂, v, L', XS.ifYes X.here hx rfl (pc0 := pc) (pc' := pc') rfl (hb hby hd) rfl q2 ho hp st, r⟩
  · have q2 : ifCond.holds .ge x = false := by rw [← Bool.not_eq_true, if0]; exact fun t => q (by simpa using (holds_iff .ge x 0).mp t)
    replace hn := hn q
    obtain ⟨p, l, e, s, m, args, below, meth, c⟩ := K
    intro hx hby hml hown hZ hret hlk hnm T locs X hF hh
    obtain ⟨s₂, v, L', st, r⟩ := hn hx hby hml hown hZ hret hlk hnm T locs X hF hh
    exact ⟨s₂, v, L', XS.ifNo X.here hx rfl (hb hby hd) rfl q2 st, r⟩
theorem if_gt {x : Int32} {o : Int} {pc2 : Nat} (hd : decode bs pc = .ok (.ifCond .gt o, 3)) (ho : 0 ≤ (pc : Int) + o) (hp : ((pc : Int) + o).toNat = pc') (hp2 : pc + 3 = pc2)
    (hy : 0 < x.toInt → Go K rm Z n0 bs ml ret own nm Q kc ks h pc' L S) (hn : ¬ (0 < x.toInt) → Go K rm Z n0 bs ml ret own nm Q kc ks h pc2 L S) : Go K rm Z n0 bs ml ret own nm Q kc ks h pc L (.int x :: S) := by
  subst hp2
  by_cases q : 0 < x.toInt
  · have q2 : ifCond.holds .gt x = true := (if0 _ _).trans ((holds_iff .gt x 0).mpr (by simpa using q))
    replace hy := hy q
    obtain ⟨p, l, e, s, m, args, below, meth, c⟩ := K
    intro hx hby hml hown hZ hret hlk hnm T locs X hF hh
    obtain ⟨s₂, v, L', st, r⟩ := hy hx hby hml hown hZ hret hlk hnm T locs X hF hh
    exact ⟨s₂, v, L', XS.ifYes X.here hx rfl (pc0 := pc) (pc' := pc') rfl (hb hby hd) rfl q2 ho hp st, r⟩
  · have q2 : ifCond.holds .gt x = false := by rw [← Bool.not_eq_true, if0]; exact fun t => q (by simpa using (holds_iff .gt x 0).mp t)
    replace hn := hn q
    obtain ⟨p, l, e, s, m, args, below, meth, c⟩ := K
    intro hx hby hml hown hZ hret hlk hnm T locs X hF hh
    obtain ⟨s₂, v, L', st, r⟩ := hn hx hby hml hown hZ hret hlk hnm T locs X hF hh
    exact ⟨s₂, v, L', XS.ifNo X.here hx rfl (hb hby hd) rfl q2 st, r⟩
theorem if_le {x : Int32} {o : Int} {pc2 : Nat} (hd : decode bs pc = .ok (.ifCond .le o, 3)) (ho : 0 ≤ (pc : Int) + o) (hp : ((pc : Int) + o).toNat = pc') (hp2 : pc + 3 = pc2)
    (hy : x.toInt ≤ 0 → Go K rm Z n0 bs ml ret own nm Q kc ks h pc' L S) (hn : ¬ (x.toInt ≤ 0) → Go K rm Z n0 bs ml ret own nm Q kc ks h pc2 L S) : Go K rm Z n0 bs ml ret own nm Q kc ks h pc L (.int x :: S) := by
  subst hp2
  by_cases q : x.toInt ≤ 0
  · have q2 : ifCond.holds .le x = true := (if0 _ _).trans ((holds_iff .le x 0).mpr (by simpa using q))
    replace hy := hy q
    obtain ⟨p, l, e, s, m, args, below, meth, c⟩ := K
    intro hx hby hml hown hZ hret hlk hnm T locs X hF hh
    obtain ⟨s₂, v, L', st, r⟩ := hy hx hby hml hown hZ hret hlk hnm T locs X hF hh
    exact ⟨s₂, v, L', XS.ifYes X.here hx rfl (pc0 := pc) (pc' := pc') rfl (hb hby hd) rfl q2 ho hp st, r⟩
  · have q2 : ifCond.holds .le x = false := by rw [← Bool.not_eq_true, if0]; exact fun t => q (by simpa using (holds_iff .le x 0).mp t)
    replace hn := hn q
    obtain ⟨p, l, e, s, m, args, below, meth, c⟩ := K
    intro hx hby hml hown hZ hret hlk hnm T locs X hF hh
    obtain ⟨s₂, v, L', st, r⟩ := hn hx hby hml hown hZ hret hlk hnm T locs X hF hh
    exact ⟨s₂, v, L', XS.ifNo X.here hx rfl (hb hby hd) rfl q2 st, r⟩
theorem if_eq {x : Int32} {o : Int} {pc2 : Nat} (hd : decode bs pc = .ok (.ifCond .eq o, 3)) (ho : 0 ≤ (pc : Int) + o) (hp : ((pc : Int) + o).toNat = pc') (hp2 : pc + 3 = pc2)
    (hy : x = 0 → Go K rm Z n0 bs ml ret own nm Q kc ks h pc' L S) (hn : ¬ (x = 0) → Go K rm Z n0 bs ml ret own nm Q kc ks h pc2 L S) : Go K rm Z n0 bs ml ret own nm Q kc ks h pc L (.int x :: S) := by
  subst hp2
  by_cases q : x = 0
  · have q2 : ifCond.holds .eq x = true := (if0 _ _).trans ((holds_iff .eq x 0).mpr (by simpa using q))
    replace hy := hy q
    obtain ⟨p, l, e, s, m, args, below, meth, c⟩ := K
    intro hx hby hml hown hZ hret hlk hnm T locs X hF hh
    obtain ⟨s₂, v, L', st, r⟩ := hy hx hby hml hown hZ hret hlk hnm T locs X hF hh
    exact ⟨s₂, v, L', XS.ifYes X.here hx rfl (pc0 := pc) (pc' := pc') rfl (hb hby hd) rfl q2 ho hp st, r⟩
  · have q2 : ifCond.holds .eq x = false := by rw [← Bool.not_eq_true, if0]; exact fun t => q (by simpa using (holds_iff .eq x 0).mp t)
    replace hn := hn q
    obtain ⟨p, l, e, s, m, args, below, meth, c⟩ := K
    intro hx hby hml hown hZ hret hlk hnm T locs X hF hh
    obtain ⟨s₂, v, L', st, r⟩ := hn hx hby hml hown hZ hret hlk hnm T locs X hF hh
    exact ⟨s₂, v, L', XS.ifNo X.here hx rfl (hb hby hd) rfl q2 st, r⟩
theorem if_ne {x : Int32} {o : Int} {pc2 : Nat} (hd : decode bs pc = .ok (.ifCond .ne o, 3)) (ho : 0 ≤ (pc : Int) + o) (hp : ((pc : Int) + o).toNat = pc') (hp2 : pc + 3 = pc2)
    (hy : x ≠ 0 → Go K rm Z n0 bs ml ret own nm Q kc ks h pc' L S) (hn : ¬ (x ≠ 0) → Go K rm Z n0 bs ml ret own nm Q kc ks h pc2 L S) : Go K rm Z n0 bs ml ret own nm Q kc ks h pc L (.int x :: S) := by
  subst hp2
  by_cases q : x ≠ 0
  · have q2 : ifCond.holds .ne x = true := (if0 _ _).trans ((holds_iff .ne x 0).mpr (by simpa using q))
    replace hy := hy q
    obtain ⟨p, l, e, s, m, args, below, meth, c⟩ := K
    intro hx hby hml hown hZ hret hlk hnm T locs X hF hh
    obtain ⟨s₂, v, L', st, r⟩ := hy hx hby hml hown hZ hret hlk hnm T locs X hF hh
    exact ⟨s₂, v, L', XS.ifYes X.here hx rfl (pc0 := pc) (pc' := pc') rfl (hb hby hd) rfl q2 ho hp st, r⟩
  · have q2 : ifCond.holds .ne x = false := by rw [← Bool.not_eq_true, if0]; exact fun t => q (by simpa using (holds_iff .ne x 0).mp t)
    replace hn := hn q
    obtain ⟨p, l, e, s, m, args, below, meth, c⟩ := K
    intro hx hby hml hown hZ hret hlk hnm T locs X hF hh
    obtain ⟨s₂, v, L', st, r⟩ := hn hx hby hml hown hZ hret hlk hnm T locs X hF hh
    exact ⟨s₂, v, L', XS.ifNo X.here hx rfl (hb hby hd) rfl q2 st, r⟩
theorem lcmp0 {x y : Int64} (hd : decode bs pc = .ok (.lcmp, 1)) (hp : pc + 1 = pc') (hr : Go K rm Z n0 bs ml ret own nm Q kc ks h pc' L (.int (lcmpW x y) :: S)) : Go K rm Z n0 bs ml ret own nm Q kc ks h pc L (.long y :: .long x :: S) := by
  subst hp
  obtain ⟨p, l, e, s, m, args, below, meth, c⟩ := K
  intro hx hby hml hown hZ hret hlk hnm T locs X hF hh
  obtain ⟨s₂, v, L', st, r⟩ := hr hx hby hml hown hZ hret hlk hnm T locs X hF hh
  exact ⟨s₂, v, L', XS.lcmp X.here hx rfl (hb hby hd) rfl st, r⟩
theorem lw_pos (x y : Int64) : (lcmpW x y).toInt < 0 ↔ x.toInt < y.toInt := by
  have := lw_lt x y; rw [Int32.lt_iff_toInt_lt, Int64.lt_iff_toInt_lt] at this; simpa using this
theorem lw_neg (x y : Int64) : 0 < (lcmpW x y).toInt ↔ y.toInt < x.toInt := by
  have := lw_gt x y; rw [Int32.lt_iff_toInt_lt, Int64.lt_iff_toInt_lt] at this; simpa using this
theorem lcmp_lt {x y : Int64} {o : Int} {pc1 pc2 : Nat} (hd : decode bs pc = .ok (.lcmp, 1)) (hp1 : pc + 1 = pc1) (hd1 : decode bs pc1 = .ok (.ifCond .lt o, 3)) (ho : 0 ≤ (pc1 : Int) + o) (hp : ((pc1 : Int) + o).toNat = pc') (hp2 : pc1 + 3 = pc2)
    (hy : x.toInt < y.toInt → Go K rm Z n0 bs ml ret own nm Q kc ks h pc' L S) (hn : ¬ (x.toInt < y.toInt) → Go K rm Z n0 bs ml ret own nm Q kc ks h pc2 L S) : Go K rm Z n0 bs ml ret own nm Q kc ks h pc L (.long y :: .long x :: S) := by
  have e : ((lcmpW x y).toInt < 0) ↔ (x.toInt < y.toInt) := lw_pos x y
  exact lcmp0 hd hp1 (if_lt hd1 ho hp hp2 (fun q => hy (e.mp q)) (fun q => hn (fun t => q (e.mpr t))))
theorem lcmp_ge {x y : Int64} {o : Int} {pc1 pc2 : Nat} (hd : decode bs pc = .ok (.lcmp, 1)) (hp1 : pc + 1 = pc1) (hd1 : decode bs pc1 = .ok (.ifCond .ge o, 3)) (ho : 0 ≤ (pc1 : Int) + o) (hp : ((pc1 : Int) + o).toNat = pc') (hp2 : pc1 + 3 = pc2)
    (hy : y.toInt ≤ x.toInt → Go K rm Z n0 bs ml ret own nm Q kc ks h pc' L S) (hn : ¬ (y.toInt ≤ x.toInt) → Go K rm Z n0 bs ml ret own nm Q kc ks h pc2 L S) : Go K rm Z n0 bs ml ret own nm Q kc ks h pc L (.long y :: .long x :: S) := by
  have e : (0 ≤ (lcmpW x y).toInt) ↔ (y.toInt ≤ x.toInt) := (by rw [← Int.not_lt, ← Int.not_lt, lw_pos])
  exact lcmp0 hd hp1 (if_ge hd1 ho hp hp2 (fun q => hy (e.mp q)) (fun q => hn (fun t => q (e.mpr t))))
theorem lcmp_gt {x y : Int64} {o : Int} {pc1 pc2 : Nat} (hd : decode bs pc = .ok (.lcmp, 1)) (hp1 : pc + 1 = pc1) (hd1 : decode bs pc1 = .ok (.ifCond .gt o, 3)) (ho : 0 ≤ (pc1 : Int) + o) (hp : ((pc1 : Int) + o).toNat = pc') (hp2 : pc1 + 3 = pc2)
    (hy : y.toInt < x.toInt → Go K rm Z n0 bs ml ret own nm Q kc ks h pc' L S) (hn : ¬ (y.toInt < x.toInt) → Go K rm Z n0 bs ml ret own nm Q kc ks h pc2 L S) : Go K rm Z n0 bs ml ret own nm Q kc ks h pc L (.long y :: .long x :: S) := by
  have e : (0 < (lcmpW x y).toInt) ↔ (y.toInt < x.toInt) := lw_neg x y
  exact lcmp0 hd hp1 (if_gt hd1 ho hp hp2 (fun q => hy (e.mp q)) (fun q => hn (fun t => q (e.mpr t))))
theorem lcmp_le {x y : Int64} {o : Int} {pc1 pc2 : Nat} (hd : decode bs pc = .ok (.lcmp, 1)) (hp1 : pc + 1 = pc1) (hd1 : decode bs pc1 = .ok (.ifCond .le o, 3)) (ho : 0 ≤ (pc1 : Int) + o) (hp : ((pc1 : Int) + o).toNat = pc') (hp2 : pc1 + 3 = pc2)
    (hy : x.toInt ≤ y.toInt → Go K rm Z n0 bs ml ret own nm Q kc ks h pc' L S) (hn : ¬ (x.toInt ≤ y.toInt) → Go K rm Z n0 bs ml ret own nm Q kc ks h pc2 L S) : Go K rm Z n0 bs ml ret own nm Q kc ks h pc L (.long y :: .long x :: S) := by
  have e : ((lcmpW x y).toInt ≤ 0) ↔ (x.toInt ≤ y.toInt) := (by rw [← Int.not_lt, ← Int.not_lt, lw_neg])
  exact lcmp0 hd hp1 (if_le hd1 ho hp hp2 (fun q => hy (e.mp q)) (fun q => hn (fun t => q (e.mpr t))))
theorem lcmp_eq {x y : Int64} {o : Int} {pc1 pc2 : Nat} (hd : decode bs pc = .ok (.lcmp, 1)) (hp1 : pc + 1 = pc1) (hd1 : decode bs pc1 = .ok (.ifCond .eq o, 3)) (ho : 0 ≤ (pc1 : Int) + o) (hp : ((pc1 : Int) + o).toNat = pc') (hp2 : pc1 + 3 = pc2)
    (hy : x = y → Go K rm Z n0 bs ml ret own nm Q kc ks h pc' L S) (hn : ¬ (x = y) → Go K rm Z n0 bs ml ret own nm Q kc ks h pc2 L S) : Go K rm Z n0 bs ml ret own nm Q kc ks h pc L (.long y :: .long x :: S) := by
  have e : ((lcmpW x y) = 0) ↔ (x = y) := lw_eq x y
  exact lcmp0 hd hp1 (if_eq hd1 ho hp hp2 (fun q => hy (e.mp q)) (fun q => hn (fun t => q (e.mpr t))))
theorem lcmp_ne {x y : Int64} {o : Int} {pc1 pc2 : Nat} (hd : decode bs pc = .ok (.lcmp, 1)) (hp1 : pc + 1 = pc1) (hd1 : decode bs pc1 = .ok (.ifCond .ne o, 3)) (ho : 0 ≤ (pc1 : Int) + o) (hp : ((pc1 : Int) + o).toNat = pc') (hp2 : pc1 + 3 = pc2)
    (hy : x ≠ y → Go K rm Z n0 bs ml ret own nm Q kc ks h pc' L S) (hn : ¬ (x ≠ y) → Go K rm Z n0 bs ml ret own nm Q kc ks h pc2 L S) : Go K rm Z n0 bs ml ret own nm Q kc ks h pc L (.long y :: .long x :: S) := by
  have e : ((lcmpW x y) ≠ 0) ↔ (x ≠ y) := not_congr (lw_eq x y)
  exact lcmp0 hd hp1 (if_ne hd1 ho hp hp2 (fun q => hy (e.mp q)) (fun q => hn (fun t => q (e.mpr t))))
theorem ifnull_yes {o : Int} (hd : decode bs pc = .ok (.ifnull o, 3)) (ho : 0 ≤ (pc : Int) + o) (hp : ((pc : Int) + o).toNat = pc') (hr : Go K rm Z n0 bs ml ret own nm Q kc ks h pc' L S) : Go K rm Z n0 bs ml ret own nm Q kc ks h pc L (.null :: S) := by
  obtain ⟨p, l, e, s, m, args, below, meth, c⟩ := K
  intro hx hby hml hown hZ hret hlk hnm T locs X hF hh
  obtain ⟨s₂, v, L', st, r⟩ := hr hx hby hml hown hZ hret hlk hnm T locs X hF hh
  exact ⟨s₂, v, L', XS.ifnullYes X.here hx rfl (pc0 := pc) (pc' := pc') rfl (hb hby hd) rfl ho hp st, r⟩
theorem ifnull_no {o : Int} {b : Addr} (hd : decode bs pc = .ok (.ifnull o, 3)) (hp : pc + 3 = pc') (hr : Go K rm Z n0 bs ml ret own nm Q kc ks h pc' L S) : Go K rm Z n0 bs ml ret own nm Q kc ks h pc L (.ref b :: S) := by
  subst hp
  obtain ⟨p, l, e, s, m, args, below, meth, c⟩ := K
  intro hx hby hml hown hZ hret hlk hnm T locs X hF hh
  obtain ⟨s₂, v, L', st, r⟩ := hr hx hby hml hown hZ hret hlk hnm T locs X hF hh
  exact ⟨s₂, v, L', XS.ifnullNo X.here hx rfl (hb hby hd) rfl st, r⟩
theorem getfield {R0 O n d host : String} {idx : Nat} {a : Addr} {v : Value} (hd : decode bs pc = .ok (.getfield idx, 3)) (hp : pc + 3 = pc') (w : (Jvm.Cond.fieldLink own idx R0 n d).before a0 Z = true ∨ (Jvm.Cond.fieldLinkNest own idx R0 n d host).before a0 Z = true) (via : Via Z R0 O n d) (F : Fld Z h a O n d v) (hr : Go K rm Z n0 bs ml ret own nm Q kc ks h pc' L (v :: S)) : Go K rm Z n0 bs ml ret own nm Q kc ks h pc L (.ref a :: S) := by
  subst hp
  obtain ⟨p, l, e, s, m, args, below, meth, c⟩ := K
  intro hx hby hml hown hZ hret hlk hnm T locs X hF hh
  obtain ⟨T', X', e', st'⟩ := getF X hx hZ hown w via hh F (g := mkF m pc L (.ref a :: S)) rfl rfl (hb hby hd)
  obtain ⟨s₂, v, L', st, r⟩ := hr hx hby hml hown hZ hret hlk hnm T' locs X' hF e'
  exact ⟨s₂, v, L', st' _ st, r⟩
theorem getstatic {R0 O n d : String} {idx : Nat} {v : Value} (hd : decode bs pc = .ok (.getstatic idx, 3)) (hp : pc + 3 = pc') (w : (Jvm.Cond.fieldLink own idx R0 n d).before a0 Z = true) (via : Via Z R0 O n d) (F : Sta Z h O n d v) (hr : Go K rm Z n0 bs ml ret own nm Q kc ks h pc' L (v :: S)) : Go K rm Z n0 bs ml ret own nm Q kc ks h pc L S := by
  subst hp
  obtain ⟨p, l, e, s, m, args, below, meth, c⟩ := K
  intro hx hby hml hown hZ hret hlk hnm T locs X hF hh
  obtain ⟨T', X', e', st'⟩ := getS (host := "") X hx hZ hown w via hh F (g := mkF m pc L S) rfl (hb hby hd)
  obtain ⟨s₂, v, L', st, r⟩ := hr hx hby hml hown hZ hret hlk hnm T' locs X' hF e'
  exact ⟨s₂, v, L', st' _ st, r⟩
theorem putfield {R0 O n d host C : String} {idx kk : Nat} {ty : FieldType} {a : Addr} {v old : Value} (hd : decode bs pc = .ok (.putfield idx, 3)) (hp : pc + 3 = pc') (w : (Jvm.Cond.fieldLink own idx R0 n d).before a0 Z = true ∨ (Jvm.Cond.fieldLinkNest own idx R0 n d host).before a0 Z = true) (via : Via Z R0 O n d)
    (F : Fld Z h a O n d old) (E : Exa Z h a C) (Lw : (Jvm.Cond.lays C O n d).before a0 Z = true ∨ ((Jvm.Cond.laysFinal C O n d).before a0 Z = true ∧ own = O ∧ nm = "<init>")) (wi : (Jvm.Cond.instantiable C kk).before a0 Z = true)
    (hty : parseFieldDescriptor d = some ty) (hn : narrow ty v = v) (hf : fits ty v = true) (hg : n0 ≤ a) (hr : ∀ h', Wr h h' a (Jvm.RoadKit.slotOf Z O n d) v → Go K rm Z n0 bs ml ret own nm Q kc ks h' pc' L S) : Go K rm Z n0 bs ml ret own nm Q kc ks h pc L (v :: .ref a :: S) := by
  subst hp
  obtain ⟨p, l, e, s, m, args, below, meth, c⟩ := K
  intro hx hby hml hown hZ hret hlk hnm T locs X hF hh
  obtain ⟨T', h', X', e', W', st'⟩ := putF X hx hZ hown w via hh F E (Lw.imp id fun q => ⟨q.1, q.2.1, hnm.trans q.2.2⟩) wi hty hn hf (g := mkF m pc L (v :: .ref a :: S)) rfl rfl (hb hby hd)
  obtain ⟨s₂, v, L', st, r⟩ := hr h' W' hx hby hml hown hZ hret hlk hnm T' _ X' (Fr.snoc X' hF hg) e'
  exact ⟨s₂, v, L', st' _ st, r⟩
theorem newobj {C : String} {idx n : Nat} (hd : decode bs pc = .ok (.new idx, 3)) (hp : pc + 3 = pc') (w : (Jvm.Cond.classLink own idx C).before a0 Z = true) (wi : (Jvm.Cond.instantiable C n).before a0 Z = true) (wz : (Jvm.Cond.initialized C).before a0 Z = true) (hc : kc + 1 ≤ rm.cells) (hs : ks + n ≤ rm.slots)
    (hr : ∀ a h', a = h.size → Ext h h' → Exa Z h' a C → (∀ {O nm d : String} {ty : FieldType}, Laid Z a0 C O nm d → parseFieldDescriptor d = some ty → Fld Z h' a O nm d (defaultValue ty)) → Go K rm Z n0 bs ml ret own nm Q (kc + 1) (ks + n) h' pc' L (.ref a :: S)) : Go K rm Z n0 bs ml ret own nm Q kc ks h pc L S := by
  subst hp
  obtain ⟨p, l, e, s, m, args, below, meth, c⟩ := K
  intro hx hby hml hown hZ hret hlk hnm T locs X hF hh
  obtain ⟨T', h', X', e', E', A', D', -, st'⟩ := newO X hx hZ hown w wi wz hh (g := mkF m pc L S) rfl (hb hby hd) hc hs
  obtain ⟨s₂, v, L', st, r⟩ := hr _ h' rfl E' A' D' hx hby hml hown hZ hret hlk hnm T' _ X' hF e'
  exact ⟨s₂, v, L', st' _ st, r⟩
theorem objinit {idx : Nat} {a : Addr} (hd : decode bs pc = .ok (.invokespecial idx, 3)) (hp : pc + 3 = pc') (w1 : (Jvm.Cond.methodLink own idx Lib.objectInit).before a0 Z = true) (w2 : (Jvm.Cond.instanceMethod Lib.objectInit).before a0 Z = true) (w3 : (Jvm.Cond.code Lib.objectInit ⟨#[0xb1]⟩ 1 none).before a0 Z = true)
    (hL : L.size = ml) (hf : 1 ≤ rm.frames) {W : Nat} (hW : (S.map fun v => v.category).sum = W) (hl : W + 12 ≤ rm.locals) (hr : Go K rm Z n0 bs ml ret own nm Q kc ks h pc' L S) : Go K rm Z n0 bs ml ret own nm Q kc ks h pc L (.ref a :: S) := by
  subst hp
  obtain ⟨p, l, e, s, m, args, below, meth, c⟩ := K
  intro hx hby hml hown hZ hret hlk hnm T locs X hF hh
  obtain ⟨T', X', e', st'⟩ := initO X hx hZ hown w1 w2 w3 hh (g := mkF m pc L (.ref a :: S)) rfl (by rw [hml]; exact hL) rfl (hb hby hd) hf (W := W) (by show 2 * 0 + _ ≤ _; omega) hl
  obtain ⟨s₂, v, L', st, r⟩ := hr hx hby hml hown hZ hret hlk hnm T' locs X' hF e'
  exact ⟨s₂, v, L', st' _ st, r⟩
theorem static {W : Nat} {y : MethodName} {bs' : ByteArray} {ml' idx : Nat} {ret' : Option FieldType} {rm' : Room} {as rest : List Value} {Q' : Option Value → Heap → Prop} (hd : decode bs pc = .ok (.invokestatic idx, 3)) (hp : pc + 3 = pc') (w1 : (Jvm.Cond.methodLink own idx y).before a0 Z = true) (w2 : (Jvm.Cond.static y).before a0 Z = true) (w3 : (Jvm.Cond.initialized y.cls).before a0 Z = true) (w4 : (Jvm.Cond.code y bs' ml' ret').before a0 Z = true)
    (hy : y.cls ≠ "java/lang/invoke/MethodHandle" ∧ y.cls ≠ "java/lang/invoke/VarHandle") (C : Con Z n0 y bs' ml' ret' rm' as h Q') (hst : S = as.reverse ++ rest) (hL : L.size = ml) (hlen : ∀ sig, parseMethodDescriptor y.desc = some sig → as.length = sig.parameters.length)
    (hf : rm'.frames + 1 ≤ rm.frames) (hW : (rest.map fun v => v.category).sum = W) (hl : W + (ml' + 11) + rm'.locals ≤ rm.locals) (hc : kc + rm'.cells ≤ rm.cells) (hs : ks + rm'.slots ≤ rm.slots)
    (hr : ∀ v h', Q' v h' → Go K rm Z n0 bs ml ret own nm Q (kc + rm'.cells) (ks + rm'.slots) h' pc' L (v.toList ++ rest)) : Go K rm Z n0 bs ml ret own nm Q kc ks h pc L S := by
  subst hp
  obtain ⟨p, l, e, s, m, args, below, meth, c⟩ := K
  intro hx hby hml hown hZ hret hlk hnm T locs X hF hh
  obtain ⟨_, _, ⟨T', L1, k1, n1⟩, -, X', ⟨Lc, hQ, l1, y1, z1⟩, st'⟩ := Jvm.LawKit.callS X hx hown (mvT hZ w1) (mvT hZ w2) (mvT hZ w3) (mvT hZ w4) hy (backOf (Q := fun v h L => Q' v h ∧ Fr n0 L) (W := W) (C l) hZ w4 w3 hf hl) (g := mkF m pc L S) rfl (by rw [hml]; exact hL) (argsL := as) (rest := rest) hlen hst (by show 2 * 0 + _ ≤ _; omega) (hb hby hd) (fun _ _ => ⟨rfl, hh, hc, hs⟩)
  dsimp only [Pt.U, Pt.locs, Pt.cells, Pt.slots] at X' l1 y1 z1 st' hQ
  subst l1 y1 z1
  obtain ⟨s₂, v, L', st, r⟩ := hr _ _ hQ.1 hx hby hml hown hZ hret hlk hnm T' _ X' (Fr.app hF hQ.2) rfl
  exact ⟨s₂, v, L', st' _ st, r⟩
theorem special {W : Nat} {y : MethodName} {bs' : ByteArray} {ml' idx : Nat} {rm' : Room} {as rest : List Value} {Q' : Option Value → Heap → Prop} {a : Addr} (hd : decode bs pc = .ok (.invokespecial idx, 3)) (hp : pc + 3 = pc') (hy1 : y.name = "<init>") (w1 : (Jvm.Cond.methodLink own idx y).before a0 Z = true) (w2 : (Jvm.Cond.instanceMethod y).before a0 Z = true) (w3 : (Jvm.Cond.initialized y.cls).before a0 Z = true) (w4 : (Jvm.Cond.code y bs' ml' none).before a0 Z = true)
    (hy : y.cls ≠ "java/lang/invoke/MethodHandle" ∧ y.cls ≠ "java/lang/invoke/VarHandle") (C : Con Z n0 y bs' ml' none rm' (.ref a :: as) h Q') (hst : S = as.reverse ++ .ref a :: rest) (hL : L.size = ml) (hlen : ∀ sig, parseMethodDescriptor y.desc = some sig → as.length = sig.parameters.length)
    (hf : rm'.frames + 1 ≤ rm.frames) (hW : (rest.map fun v => v.category).sum = W) (hl : W + (ml' + 11) + rm'.locals ≤ rm.locals) (hc : kc + rm'.cells ≤ rm.cells) (hs : ks + rm'.slots ≤ rm.slots)
    (hr : ∀ v h', Q' v h' → Go K rm Z n0 bs ml ret own nm Q (kc + rm'.cells) (ks + rm'.slots) h' pc' L (v.toList ++ rest)) : Go K rm Z n0 bs ml ret own nm Q kc ks h pc L S := by
  subst hp
  obtain ⟨p, l, e, s, m, args, below, meth, c⟩ := K
  intro hx hby hml hown hZ hret hlk hnm T locs X hF hh
  obtain ⟨_, _, ⟨T', L1, k1, n1⟩, -, X', ⟨Lc, hQ, l1, y1, z1⟩, st'⟩ := X.specialBack hx hy1 hown (mvT hZ w1) (mvT hZ w2) (mvT hZ w4) hy (backOf (Q := fun v h L => Q' v h ∧ Fr n0 L) (W := W) (C l) hZ w4 w3 hf hl) (g := mkF m pc L S) rfl (by rw [hml]; exact hL) (Steps.refl _) (a := a) (argsL := as) (rest := rest) hlen hst (by show 2 * 0 + _ ≤ _; omega) (hb hby hd) (fun _ _ => ⟨rfl, hh, hc, hs⟩)
  dsimp only [Pt.U, Pt.locs, Pt.cells, Pt.slots] at X' l1 y1 z1 st' hQ
  subst l1 y1 z1
  obtain ⟨s₂, v, L', st, r⟩ := hr _ _ hQ.1 hx hby hml hown hZ hret hlk hnm T' _ X' (Fr.app hF hQ.2) rfl
  exact ⟨s₂, v, L', st'.trans st, r⟩
theorem virtual {W : Nat} {y : MethodName} {bs' : ByteArray} {ml' idx : Nat} {ret' : Option FieldType} {rm' : Room} {as rest : List Value} {Q' : Option Value → Heap → Prop} {C' : String} {a : Addr} (hd : decode bs pc = .ok (.invokevirtual idx, 3)) (hp : pc + 3 = pc') (w1 : (Jvm.Cond.methodLink own idx y).before a0 Z = true) (w2 : (Jvm.Cond.declares y).before a0 Z = true) (w5 : (Jvm.Cond.selects C' y y).before a0 Z = true) (w6 : (Jvm.Cond.instanceMethod y).before a0 Z = true) (w3 : (Jvm.Cond.initialized y.cls).before a0 Z = true) (w4 : (Jvm.Cond.code y bs' ml' ret').before a0 Z = true)
    (hy : y.cls ≠ "java/lang/invoke/MethodHandle" ∧ y.cls ≠ "java/lang/invoke/VarHandle") (E : Exa Z h a C') (C : Con Z n0 y bs' ml' ret' rm' (.ref a :: as) h Q') (hst : S = as.reverse ++ .ref a :: rest) (hL : L.size = ml) (hlen : ∀ sig, parseMethodDescriptor y.desc = some sig → as.length = sig.parameters.length)
    (hf : rm'.frames + 1 ≤ rm.frames) (hW : (rest.map fun v => v.category).sum = W) (hl : W + (ml' + 11) + rm'.locals ≤ rm.locals) (hc : kc + rm'.cells ≤ rm.cells) (hs : ks + rm'.slots ≤ rm.slots)
    (hr : ∀ v h', Q' v h' → Go K rm Z n0 bs ml ret own nm Q (kc + rm'.cells) (ks + rm'.slots) h' pc' L (v.toList ++ rest)) : Go K rm Z n0 bs ml ret own nm Q kc ks h pc L S := by
  subst hp
  obtain ⟨p, l, e, s, m, args, below, meth, c⟩ := K
  intro hx hby hml hown hZ hret hlk hnm T locs X hF hh
  obtain ⟨cq, kq, qa, qb, qc⟩ := isOf (T := T) hZ hh E
  obtain ⟨_, _, ⟨T', L1, k1, n1⟩, -, X', ⟨Lc, hQ, l1, y1, z1⟩, st'⟩ := X.virtualBack hx (y := y) (z := y) hown (mvT hZ w1) (mvT hZ w2) (notFace_of_selects (args := #[]) (mvT hZ w5)) (mvT hZ w5) (mvT hZ w6) hy (backOf (Q := fun v h L => Q' v h ∧ Fr n0 L) (W := W) (C l) hZ w4 w3 hf hl) qa qc (g := mkF m pc L S) rfl (by rw [hml]; exact hL) (Steps.refl _) (argsL := as) (rest := rest) hlen hst (by show 2 * 0 + _ ≤ _; omega) (hb hby hd) (fun _ _ => ⟨rfl, hh, hc, hs⟩)
  dsimp only [Pt.U, Pt.locs, Pt.cells, Pt.slots] at X' l1 y1 z1 st' hQ
  subst l1 y1 z1
  obtain ⟨s₂, v, L', st, r⟩ := hr _ _ hQ.1 hx hby hml hown hZ hret hlk hnm T' _ X' (Fr.app hF hQ.2) rfl
  exact ⟨s₂, v, L', st'.trans st, r⟩
theorem privat {W : Nat} {y : MethodName} {bs' : ByteArray} {ml' idx : Nat} {ret' : Option FieldType} {rm' : Room} {as rest : List Value} {Q' : Option Value → Heap → Prop} {a : Addr} (hd : decode bs pc = .ok (.invokevirtual idx, 3)) (hp : pc + 3 = pc') (w1 : (Jvm.Cond.methodLink own idx y).before a0 Z = true) (w6 : (Jvm.Cond.instanceMethod y).before a0 Z = true) (w5 : (Jvm.Cond.selects y.cls y y).before a0 Z = true) (w7 : (Jvm.Cond.privateMethod y).before a0 Z = true) (w3 : (Jvm.Cond.initialized y.cls).before a0 Z = true) (w4 : (Jvm.Cond.code y bs' ml' ret').before a0 Z = true)
    (hy : y.cls ≠ "java/lang/invoke/MethodHandle" ∧ y.cls ≠ "java/lang/invoke/VarHandle") (E : Exa Z h a y.cls) (C : Con Z n0 y bs' ml' ret' rm' (.ref a :: as) h Q') (hst : S = as.reverse ++ .ref a :: rest) (hL : L.size = ml) (hlen : ∀ sig, parseMethodDescriptor y.desc = some sig → as.length = sig.parameters.length)
    (hf : rm'.frames + 1 ≤ rm.frames) (hW : (rest.map fun v => v.category).sum = W) (hl : W + (ml' + 11) + rm'.locals ≤ rm.locals) (hc : kc + rm'.cells ≤ rm.cells) (hs : ks + rm'.slots ≤ rm.slots)
    (hr : ∀ v h', Q' v h' → Go K rm Z n0 bs ml ret own nm Q (kc + rm'.cells) (ks + rm'.slots) h' pc' L (v.toList ++ rest)) : Go K rm Z n0 bs ml ret own nm Q kc ks h pc L S := by
  subst hp
  obtain ⟨p, l, e, s, m, args, below, meth, c⟩ := K
  intro hx hby hml hown hZ hret hlk hnm T locs X hF hh
  obtain ⟨cq, q1, q2⟩ := E.cell
  obtain ⟨_, _, ⟨T', L1, k1, n1⟩, -, X', ⟨Lc, hQ, l1, y1, z1⟩, st'⟩ := X.privateBack hx hown (mvT hZ w1) (mvT hZ w6) (mvT hZ w5) (Cond.privateMethod_at (mvP hZ w7 (args := #[]))) (mvT hZ w4) hy (backOf (Q := fun v h L => Q' v h ∧ Fr n0 L) (W := W) (C l) hZ w4 w3 hf hl) (g := mkF m pc L S) rfl (by rw [hml]; exact hL) (Steps.refl _) (a := a) (by rw [hh]; exact q1) q2 (argsL := as) (rest := rest) hlen hst (by show 2 * 0 + _ ≤ _; omega) (hb hby hd) (fun _ _ => ⟨rfl, hh, hc, hs⟩)
  dsimp only [Pt.U, Pt.locs, Pt.cells, Pt.slots] at X' l1 y1 z1 st' hQ
  subst l1 y1 z1
  obtain ⟨s₂, v, L', st, r⟩ := hr _ _ hQ.1 hx hby hml hown hZ hret hlk hnm T' _ X' (Fr.app hF hQ.2) rfl
  exact ⟨s₂, v, L', st'.trans st, r⟩
theorem ireturnZ {z z' : Int32} (hd : decode bs pc = .ok (.ireturn, 1)) (ht : ret = some .boolean) (hz : nar .boolean z = z') (hQ : Q (some (.int z')) h) (hc : kc ≤ rm.cells) (hs : ks ≤ rm.slots) : Go K rm Z n0 bs ml ret own nm Q kc ks h pc L (.int z :: S) := by
  subst ht hz
  obtain ⟨p, l, e, s, m, args, below, meth, c⟩ := K
  intro hx hby hml hown hZ hret hlk hnm T locs X hF hh
  obtain ⟨fs, hr, hrun, hended, hW, hsame⟩ := X.leave (v := some (.int (nar .boolean z))) (fun q => by rw [hret] at q; cases q) hlk
  exact ⟨T.setFrames fs, _, locs, retN X hx (t := .boolean) hret (by simp) (hb hby hd) hr, hrun, hended, by rw [show (T.setFrames fs).heap = h from hh]; exact hQ, hF, ⟨_, rfl⟩, hW, hsame.mono hc hs⟩
theorem ireturnI {z : Int32} (hd : decode bs pc = .ok (.ireturn, 1)) (ht : ret = some .int) (hQ : Q (some (.int z)) h) (hc : kc ≤ rm.cells) (hs : ks ≤ rm.slots) : Go K rm Z n0 bs ml ret own nm Q kc ks h pc L (.int z :: S) := by
  subst ht
  obtain ⟨p, l, e, s, m, args, below, meth, c⟩ := K
  intro hx hby hml hown hZ hret hlk hnm T locs X hF hh
  obtain ⟨fs, hr, hrun, hended, hW, hsame⟩ := X.leave (v := some (.int z)) (fun q => by rw [hret] at q; cases q) hlk
  exact ⟨T.setFrames fs, _, locs, retOut X hx hret rfl (Or.inl ⟨rfl, Or.inl rfl, z, rfl⟩) (hb hby hd) hr, hrun, hended, by rw [show (T.setFrames fs).heap = h from hh]; exact hQ, hF, ⟨_, rfl⟩, hW, hsame.mono hc hs⟩
theorem lreturn {z : Int64} (hd : decode bs pc = .ok (.lreturn, 1)) (ht : ret = some .long) (hQ : Q (some (.long z)) h) (hc : kc ≤ rm.cells) (hs : ks ≤ rm.slots) : Go K rm Z n0 bs ml ret own nm Q kc ks h pc L (.long z :: S) := by
  subst ht
  obtain ⟨p, l, e, s, m, args, below, meth, c⟩ := K
  intro hx hby hml hown hZ hret hlk hnm T locs X hF hh
  obtain ⟨fs, hr, hrun, hended, hW, hsame⟩ := X.leave (v := some (.long z)) (fun q => by rw [hret] at q; cases q) hlk
  exact ⟨T.setFrames fs, _, locs, retOut X hx hret rfl (Or.inr (Or.inl ⟨rfl, rfl, z, rfl⟩)) (hb hby hd) hr, hrun, hended, by rw [show (T.setFrames fs).heap = h from hh]; exact hQ, hF, ⟨_, rfl⟩, hW, hsame.mono hc hs⟩
theorem areturn {t : FieldType} {v : Value} (hd : decode bs pc = .ok (.areturn, 1)) (ht : ret = some t) (htr : t.isReference = true) (hv : v.isRef = true) (hnn : narrow t v = v) (hQ : Q (some v) h) (hc : kc ≤ rm.cells) (hs : ks ≤ rm.slots) : Go K rm Z n0 bs ml ret own nm Q kc ks h pc L (v :: S) := by
  subst ht
  obtain ⟨p, l, e, s, m, args, below, meth, c⟩ := K
  intro hx hby hml hown hZ hret hlk hnm T locs X hF hh
  obtain ⟨fs, hr, hrun, hended, hW, hsame⟩ := X.leave (v := some v) (fun q => by rw [hret] at q; cases q) hlk
  exact ⟨T.setFrames fs, _, locs, retOut X hx hret hnn (Or.inr (Or.inr (Or.inr (Or.inr ⟨rfl, htr, hv⟩)))) (hb hby hd) hr, hrun, hended, by rw [show (T.setFrames fs).heap = h from hh]; exact hQ, hF, ⟨_, rfl⟩, hW, hsame.mono hc hs⟩
theorem vreturn (hd : decode bs pc = .ok (.return_, 1)) (ht : ret = none) (hQ : Q none h) (hc : kc ≤ rm.cells) (hs : ks ≤ rm.slots) : Go K rm Z n0 bs ml ret own nm Q kc ks h pc L [] := by
  subst ht
  obtain ⟨p, l, e, s, m, args, below, meth, c⟩ := K
  intro hx hby hml hown hZ hret hlk hnm T locs X hF hh
  obtain ⟨fs, hr, hrun, hended, hW, hsame⟩ := X.leave (v := none) (fun _ => rfl) hlk
  exact ⟨T.setFrames fs, _, locs, X.returnOut hx hret (hb hby hd) hr, hrun, hended, by rw [show (T.setFrames fs).heap = h from hh]; exact hQ, hF, ⟨_, rfl⟩, hW, hsame.mono hc hs⟩
theorem join {pc2 : Nat} {L2 : Array Slot} {S2 : List Value} (h1 : Go K rm Z n0 bs ml ret own nm Q kc ks h pc2 L2 S2 → Go K rm Z n0 bs ml ret own nm Q kc ks h pc L S) (h2 : Go K rm Z n0 bs ml ret own nm Q kc ks h pc2 L2 S2) : Go K rm Z n0 bs ml ret own nm Q kc ks h pc L S := h1 h2
theorem ifnonnull_yes {o : Int} {b : Addr} (hd : decode bs pc = .ok (.ifnonnull o, 3)) (ho : 0 ≤ (pc : Int) + o) (hp : ((pc : Int) + o).toNat = pc') (hr : Go K rm Z n0 bs ml ret own nm Q kc ks h pc' L S) : Go K rm Z n0 bs ml ret own nm Q kc ks h pc L (.ref b :: S) := by
  obtain ⟨p, l, e, s, m, args, below, meth, c⟩ := K
  intro hx hby hml hown hZ hret hlk hnm T locs X hF hh
  obtain ⟨s₂, v, L', st, r⟩ := hr hx hby hml hown hZ hret hlk hnm T locs X hF hh
  exact ⟨s₂, v, L', XS.ifnonnullYes X.here hx rfl (pc0 := pc) (pc' := pc') rfl (hb hby hd) rfl ho hp st, r⟩
theorem Go.more {kc' ks' : Nat} (hc : kc ≤ kc') (hs : ks ≤ ks') (hr : Go K rm Z n0 bs ml ret own nm Q kc' ks' h pc L S) : Go K rm Z n0 bs ml ret own nm Q kc ks h pc L S := by
  obtain ⟨p, l, e, s, m, args, below, meth, c⟩ := K
  intro hx hby hml hown hZ hret hlk hnm T locs X hF hh
  exact hr hx hby hml hown hZ hret hlk hnm T locs (X.more hc hs) hF hh
theorem Con.post {y : MethodName} {rm' : Room} {bs' : ByteArray} {ml' : Nat} {ret' : Option FieldType} {as : List Value} {Q1 Q2 : Option Value → Heap → Prop} (C : Con Z n0 y bs' ml' ret' rm' as h Q1) (q : ∀ v h', Q1 v h' → Q2 v h') : Con Z n0 y bs' ml' ret' rm' as h Q2 := fun l p e h1 h2 h3 s m args below h4 h5 h6 h7 => by
  obtain ⟨n, o, g1, g2, g3, v, L, g4, g5, g6⟩ := C l p e h1 h2 h3 s m args below h4 h5 h6 h7
  exact ⟨n, o, g1, g2, g3, v, L, g4, ⟨q _ _ g5.1, g5.2⟩, g6⟩
/-- an int[] of n places that hold f 0 .. f (n - 1) -/
def AI (Z : State) (h : Heap) (a : Addr) (n : Nat) (f : Nat → Int32) : Prop := ∃ cl : Cell, Arr Z h a cl .int ∧ cl.slots.size = n ∧ n < 2 ^ 31 ∧ ∀ k, k < n → cl.slots[k]? = some (.int (f k))
def AJ (Z : State) (h : Heap) (a : Addr) (n : Nat) (f : Nat → Int64) : Prop := ∃ cl : Cell, Arr Z h a cl .long ∧ cl.slots.size = n ∧ n < 2 ^ 31 ∧ ∀ k, k < n → cl.slots[k]? = some (.long (f k))
def AB (Z : State) (h : Heap) (a : Addr) (n : Nat) (f : Nat → Int32) : Prop := ∃ cl : Cell, Arr Z h a cl .byte ∧ cl.slots.size = n ∧ n < 2 ^ 31 ∧ ∀ k, k < n → cl.slots[k]? = some (.int (f k))
def ownSet {α : Type} (f : Nat → α) (i : Nat) (x : α) : Nat → α := fun k => if k = i then x else f k
theorem inb {j : Int32} {i n : Nat} (hj : j.toInt = (i : Int)) (hi : i < n) : ¬ (j < 0 ∨ n ≤ j.toNatClampNeg) ∧ j.toNatClampNeg = i := by
  have e : j.toNatClampNeg = i := by simp [Int32.toNatClampNeg, hj]
  refine ⟨?_, e⟩
  rw [e, Int32.lt_iff_toInt_lt, hj]
  simp; omega
theorem AI.ext {h' : Heap} {a : Addr} {n : Nat} {f : Nat → Int32} (F : AI Z h a n f) (E : Ext h h') : AI Z h' a n f := by obtain ⟨c, A, r⟩ := F; exact ⟨c, A.ext E, r⟩
theorem AI.other {h' : Heap} {a b : Addr} {sl n : Nat} {v : Value} {f : Nat → Int32} (F : AI Z h b n f) (W : Wr h h' a sl v) (q : b ≠ a) : AI Z h' b n f := by obtain ⟨c, A, r⟩ := F; exact ⟨c, A.other W q, r⟩
theorem AI.keep {h' : Heap} {a : Addr} {n : Nat} {ws : List Addr} {f : Nat → Int32} (F : AI Z h a n f) (K : Keep h h' ws) (q : a ∉ ws) : AI Z h' a n f := by obtain ⟨c, A, r⟩ := F; exact ⟨c, ⟨K.2.1 a c A.1 q, A.2⟩, r⟩
theorem AI.lt {a : Addr} {n : Nat} {f : Nat → Int32} (F : AI Z h a n f) : a < h.size := by obtain ⟨c, A, -⟩ := F; exact A.lt
theorem AI.set {h' : Heap} {a : Addr} {n i : Nat} {x : Int32} {f : Nat → Int32} (F : AI Z h a n f) (W : Wr h h' a i (.int x)) : AI Z h' a n (ownSet f i x) := by
  obtain ⟨c, A, r1, r2, r3⟩ := F
  refine ⟨_, A.same W, by rw [sz_set]; exact r1, r2, fun k hk => ?_⟩
  by_cases e : k = i
  · subst e; simp [Cell.setSlot, ownSet, r1, hk]
  · rw [show (c.setSlot i (.int x)).slots[k]? = c.slots[k]? from Array.getElem?_setIfInBounds_ne (Ne.symm e), r3 k hk]; simp [ownSet, e]
theorem AI.cong {a : Addr} {n : Nat} {f g : Nat → Int32} (F : AI Z h a n f) (q : ∀ k, k < n → f k = g k) : AI Z h a n g := by obtain ⟨c, A, r1, r2, r3⟩ := F; exact ⟨c, A, r1, r2, fun k hk => by rw [r3 k hk, q k hk]⟩
theorem AJ.ext {h' : Heap} {a : Addr} {n : Nat} {f : Nat → Int64} (F : AJ Z h a n f) (E : Ext h h') : AJ Z h' a n f := by obtain ⟨c, A, r⟩ := F; exact ⟨c, A.ext E, r⟩
theorem AJ.other {h' : Heap} {a b : Addr} {sl n : Nat} {v : Value} {f : Nat → Int64} (F : AJ Z h b n f) (W : Wr h h' a sl v) (q : b ≠ a) : AJ Z h' b n f := by obtain ⟨c, A, r⟩ := F; exact ⟨c, A.other W q, r⟩
theorem AJ.keep {h' : Heap} {a : Addr} {n : Nat} {ws : List Addr} {f : Nat → Int64} (F : AJ Z h a n f) (K : Keep h h' ws) (q : a ∉ ws) : AJ Z h' a n f := by obtain ⟨c, A, r⟩ := F; exact ⟨c, ⟨K.2.1 a c A.1 q, A.2⟩, r⟩
theorem AJ.lt {a : Addr} {n : Nat} {f : Nat → Int64} (F : AJ Z h a n f) : a < h.size := by obtain ⟨c, A, -⟩ := F; exact A.lt
theorem AJ.set {h' : Heap} {a : Addr} {n i : Nat} {x : Int64} {f : Nat → Int64} (F : AJ Z h a n f) (W : Wr h h' a i (.long x)) : AJ Z h' a n (ownSet f i x) := by
  obtain ⟨c, A, r1, r2, r3⟩ := F
  refine ⟨_, A.same W, by rw [sz_set]; exact r1, r2, fun k hk => ?_⟩
  by_cases e : k = i
  · subst e; simp [Cell.setSlot, ownSet, r1, hk]
  · rw [show (c.setSlot i (.long x)).slots[k]? = c.slots[k]? from Array.getElem?_setIfInBounds_ne (Ne.symm e), r3 k hk]; simp [ownSet, e]
theorem AJ.cong {a : Addr} {n : Nat} {f g : Nat → Int64} (F : AJ Z h a n f) (q : ∀ k, k < n → f k = g k) : AJ Z h a n g := by obtain ⟨c, A, r1, r2, r3⟩ := F; exact ⟨c, A, r1, r2, fun k hk => by rw [r3 k hk, q k hk]⟩
theorem AB.ext {h' : Heap} {a : Addr} {n : Nat} {f : Nat → Int32} (F : AB Z h a n f) (E : Ext h h') : AB Z h' a n f := by obtain ⟨c, A, r⟩ := F; exact ⟨c, A.ext E, r⟩
theorem AB.other {h' : Heap} {a b : Addr} {sl n : Nat} {v : Value} {f : Nat → Int32} (F : AB Z h b n f) (W : Wr h h' a sl v) (q : b ≠ a) : AB Z h' b n f := by obtain ⟨c, A, r⟩ := F; exact ⟨c, A.other W q, r⟩
theorem AB.keep {h' : Heap} {a : Addr} {n : Nat} {ws : List Addr} {f : Nat → Int32} (F : AB Z h a n f) (K : Keep h h' ws) (q : a ∉ ws) : AB Z h' a n f := by obtain ⟨c, A, r⟩ := F; exact ⟨c, ⟨K.2.1 a c A.1 q, A.2⟩, r⟩
theorem AB.lt {a : Addr} {n : Nat} {f : Nat → Int32} (F : AB Z h a n f) : a < h.size := by obtain ⟨c, A, -⟩ := F; exact A.lt
theorem AB.set {h' : Heap} {a : Addr} {n i : Nat} {x : Int32} {f : Nat → Int32} (F : AB Z h a n f) (W : Wr h h' a i (.int x)) : AB Z h' a n (ownSet f i x) := by
  obtain ⟨c, A, r1, r2, r3⟩ := F
  refine ⟨_, A.same W, by rw [sz_set]; exact r1, r2, fun k hk => ?_⟩
  by_cases e : k = i
  · subst e; simp [Cell.setSlot, ownSet, r1, hk]
  · rw [show (c.setSlot i (.int x)).slots[k]? = c.slots[k]? from Array.getElem?_setIfInBounds_ne (Ne.symm e), r3 k hk]; simp [ownSet, e]
theorem AB.cong {a : Addr} {n : Nat} {f g : Nat → Int32} (F : AB Z h a n f) (q : ∀ k, k < n → f k = g k) : AB Z h a n g := by obtain ⟨c, A, r1, r2, r3⟩ := F; exact ⟨c, A, r1, r2, fun k hk => by rw [r3 k hk, q k hk]⟩
theorem iaload {a : Addr} {j : Int32} {i n : Nat} {f : Nat → Int32} (hd : decode bs pc = .ok (.iaload, 1)) (hp : pc + 1 = pc') (A : AI Z h a n f) (hj : j.toInt = (i : Int)) (hi : i < n) (hr : Go K rm Z n0 bs ml ret own nm Q kc ks h pc' L (.int (f i) :: S)) : Go K rm Z n0 bs ml ret own nm Q kc ks h pc L (.int j :: .ref a :: S) := by
  subst hp
  obtain ⟨p, l, e, s, m, args, below, meth, c⟩ := K
  intro hx hby hml hown hZ hret hlk hnm T locs X hF hh
  obtain ⟨cl, A1, r1, r2, r3⟩ := A
  obtain ⟨g1, g2⟩ := inb hj hi
  obtain ⟨s₂, v, L', st, r⟩ := hr hx hby hml hown hZ hret hlk hnm T locs X hF hh
  exact ⟨s₂, v, L', X.iaload hx (j := j) (v := .int (f i)) (by rw [hh]; exact A1.1) (State.isArrayOf_alike hZ.alike A1.2.1) A1.2.2 (by rw [r1]; exact g1) (by rw [g2]; exact r3 i hi) (g := mkF m pc L (.int j :: .ref a :: S)) rfl rfl (hb hby hd) _ st, r⟩
theorem laload {a : Addr} {j : Int32} {i n : Nat} {f : Nat → Int64} (hd : decode bs pc = .ok (.laload, 1)) (hp : pc + 1 = pc') (A : AJ Z h a n f) (hj : j.toInt = (i : Int)) (hi : i < n) (hr : Go K rm Z n0 bs ml ret own nm Q kc ks h pc' L (.long (f i) :: S)) : Go K rm Z n0 bs ml ret own nm Q kc ks h pc L (.int j :: .ref a :: S) := by
  subst hp
  obtain ⟨p, l, e, s, m, args, below, meth, c⟩ := K
  intro hx hby hml hown hZ hret hlk hnm T locs X hF hh
  obtain ⟨cl, A1, r1, r2, r3⟩ := A
  obtain ⟨g1, g2⟩ := inb hj hi
  obtain ⟨s₂, v, L', st, r⟩ := hr hx hby hml hown hZ hret hlk hnm T locs X hF hh
  exact ⟨s₂, v, L', X.laload hx (j := j) (v := .long (f i)) (by rw [hh]; exact A1.1) (State.isArrayOf_alike hZ.alike A1.2.1) A1.2.2 (by rw [r1]; exact g1) (by rw [g2]; exact r3 i hi) (g := mkF m pc L (.int j :: .ref a :: S)) rfl rfl (hb hby hd) _ st, r⟩
theorem baload {a : Addr} {j : Int32} {i n : Nat} {f : Nat → Int32} (hd : decode bs pc = .ok (.baload, 1)) (hp : pc + 1 = pc') (A : AB Z h a n f) (hj : j.toInt = (i : Int)) (hi : i < n) (hr : Go K rm Z n0 bs ml ret own nm Q kc ks h pc' L (.int (f i) :: S)) : Go K rm Z n0 bs ml ret own nm Q kc ks h pc L (.int j :: .ref a :: S) := by
  subst hp
  obtain ⟨p, l, e, s, m, args, below, meth, c⟩ := K
  intro hx hby hml hown hZ hret hlk hnm T locs X hF hh
  obtain ⟨cl, A1, r1, r2, r3⟩ := A
  obtain ⟨g1, g2⟩ := inb hj hi
  obtain ⟨s₂, v, L', st, r⟩ := hr hx hby hml hown hZ hret hlk hnm T locs X hF hh
  exact ⟨s₂, v, L', X.baloadBytes hx (j := j) (v := .int (f i)) (by rw [hh]; exact A1.1) (State.isArrayOf_alike hZ.alike A1.2.1) A1.2.2 (by rw [r1]; exact g1) (by rw [g2]; exact r3 i hi) (g := mkF m pc L (.int j :: .ref a :: S)) rfl rfl (hb hby hd) _ st, r⟩
theorem iastore {a : Addr} {j : Int32} {x : Int32} {i n : Nat} {f : Nat → Int32} (hd : decode bs pc = .ok (.iastore, 1)) (hp : pc + 1 = pc') (A : AI Z h a n f) (hg : n0 ≤ a) (hj : j.toInt = (i : Int)) (hi : i < n) (hr : ∀ h', Wr h h' a i (.int x) → AI Z h' a n (ownSet f i x) → Go K rm Z n0 bs ml ret own nm Q kc ks h' pc' L S) : Go K rm Z n0 bs ml ret own nm Q kc ks h pc L (.int x :: .int j :: .ref a :: S) := by
  subst hp
  have A0 := A
  obtain ⟨p, l, e, s, m, args, below, meth, c⟩ := K
  intro hx hby hml hown hZ hret hlk hnm T locs X hF hh
  obtain ⟨cl, A1, r1, r2, r3⟩ := A
  obtain ⟨g1, g2⟩ := inb hj hi
  obtain ⟨T', h', X', e', W', st'⟩ := stI X hx hZ hh A1 (j := j) (by rw [r1]; exact g1) (g := mkF m pc L (.int x :: .int j :: .ref a :: S)) rfl rfl (hb hby hd)
  have W2 : Wr h h' a i (.int x) := by rw [g2] at W'; exact W'
  obtain ⟨s₂, v, L', st, r⟩ := hr h' W2 (A0.set W2) hx hby hml hown hZ hret hlk hnm T' _ X' (Fr.snoc X' hF hg) e'
  exact ⟨s₂, v, L', st' _ st, r⟩
theorem lastore {a : Addr} {j : Int32} {x : Int64} {i n : Nat} {f : Nat → Int64} (hd : decode bs pc = .ok (.lastore, 1)) (hp : pc + 1 = pc') (A : AJ Z h a n f) (hg : n0 ≤ a) (hj : j.toInt = (i : Int)) (hi : i < n) (hr : ∀ h', Wr h h' a i (.long x) → AJ Z h' a n (ownSet f i x) → Go K rm Z n0 bs ml ret own nm Q kc ks h' pc' L S) : Go K rm Z n0 bs ml ret own nm Q kc ks h pc L (.long x :: .int j :: .ref a :: S) := by
  subst hp
  have A0 := A
  obtain ⟨p, l, e, s, m, args, below, meth, c⟩ := K
  intro hx hby hml hown hZ hret hlk hnm T locs X hF hh
  obtain ⟨cl, A1, r1, r2, r3⟩ := A
  obtain ⟨g1, g2⟩ := inb hj hi
  obtain ⟨T', h', X', e', W', st'⟩ := stJ X hx hZ hh A1 (j := j) (by rw [r1]; exact g1) (g := mkF m pc L (.long x :: .int j :: .ref a :: S)) rfl rfl (hb hby hd)
  have W2 : Wr h h' a i (.long x) := by rw [g2] at W'; exact W'
  obtain ⟨s₂, v, L', st, r⟩ := hr h' W2 (A0.set W2) hx hby hml hown hZ hret hlk hnm T' _ X' (Fr.snoc X' hF hg) e'
  exact ⟨s₂, v, L', st' _ st, r⟩
theorem bastore {a : Addr} {j x : Int32} {i n : Nat} {f : Nat → Int32} (hd : decode bs pc = .ok (.bastore, 1)) (hp : pc + 1 = pc') (A : AB Z h a n f) (hg : n0 ≤ a) (hj : j.toInt = (i : Int)) (hi : i < n) (hr : ∀ h', Wr h h' a i (.int x.toInt8.toInt32) → AB Z h' a n (ownSet f i x.toInt8.toInt32) → Go K rm Z n0 bs ml ret own nm Q kc ks h' pc' L S) : Go K rm Z n0 bs ml ret own nm Q kc ks h pc L (.int x :: .int j :: .ref a :: S) := by
  subst hp
  have A0 := A
  obtain ⟨p, l, e, s, m, args, below, meth, c⟩ := K
  intro hx hby hml hown hZ hret hlk hnm T locs X hF hh
  obtain ⟨cl, A1, r1, r2, r3⟩ := A
  obtain ⟨g1, g2⟩ := inb hj hi
  obtain ⟨T', h', X', e', W', st'⟩ := stB X hx hZ hh A1 (j := j) (by rw [r1]; exact g1) (g := mkF m pc L (.int x :: .int j :: .ref a :: S)) rfl rfl (hb hby hd)
  have W2 : Wr h h' a i (.int x.toInt8.toInt32) := by rw [g2] at W'; exact W'
  obtain ⟨s₂, v, L', st, r⟩ := hr h' W2 (A0.set W2) hx hby hml hown hZ hret hlk hnm T' _ X' (Fr.snoc X' hF hg) e'
  exact ⟨s₂, v, L', st' _ st, r⟩
theorem newI {j : Int32} {n cap : Nat} (hd : decode bs pc = .ok (.newarray .int, 2)) (hp : pc + 2 = pc') (w : (Jvm.Cond.arrayClass .int).before a0 Z = true) (hj : j.toInt = (n : Int)) (hcap : n ≤ cap) (hb8 : cap * 8 ≤ 536870912) (hc : kc + 1 ≤ rm.cells) (hs : ks + cap ≤ rm.slots)
    (hr : ∀ a h', a = h.size → Ext h h' → AI Z h' a n (fun _ => 0) → Go K rm Z n0 bs ml ret own nm Q (kc + 1) (ks + cap) h' pc' L (.ref a :: S)) : Go K rm Z n0 bs ml ret own nm Q kc ks h pc L (.int j :: S) := by
  subst hp
  obtain ⟨p, l, e, s, m, args, below, meth, c⟩ := K
  intro hx hby hml hown hZ hret hlk hnm T locs X hF hh
  have hn : ¬ j < 0 := by rw [Int32.lt_iff_toInt_lt, hj]; simp
  have e : j.toNatClampNeg = n := by simp [Int32.toNatClampNeg, hj]
  obtain ⟨T', h', cA, X', e', E', A', st'⟩ := newP (aty := .int) X hx hZ w hh (g := mkF m pc L (.int j :: S)) rfl (hb hby hd) rfl hn (cap := cap) (by rw [e]; exact hcap) hb8 hc hs
  have hj2 := Int32.toInt_lt j
  have F : AI Z h' h.size n (fun _ => 0) := ⟨_, A', by rw [sz_new]; exact e, by omega, fun k hk => by
    have q : (newA cA .int j).slots[k]? = some (defaultValue .int) := by simp only [newA, e, Array.getElem?_replicate, if_pos hk]
    exact q⟩
  obtain ⟨s₂, v, L', st, r⟩ := hr _ h' rfl E' F hx hby hml hown hZ hret hlk hnm T' _ X' hF e'
  exact ⟨s₂, v, L', st' _ st, r⟩
theorem newJ {j : Int32} {n cap : Nat} (hd : decode bs pc = .ok (.newarray .long, 2)) (hp : pc + 2 = pc') (w : (Jvm.Cond.arrayClass .long).before a0 Z = true) (hj : j.toInt = (n : Int)) (hcap : n ≤ cap) (hb8 : cap * 8 ≤ 536870912) (hc : kc + 1 ≤ rm.cells) (hs : ks + cap ≤ rm.slots)
    (hr : ∀ a h', a = h.size → Ext h h' → AJ Z h' a n (fun _ => 0) → Go K rm Z n0 bs ml ret own nm Q (kc + 1) (ks + cap) h' pc' L (.ref a :: S)) : Go K rm Z n0 bs ml ret own nm Q kc ks h pc L (.int j :: S) := by
  subst hp
  obtain ⟨p, l, e, s, m, args, below, meth, c⟩ := K
  intro hx hby hml hown hZ hret hlk hnm T locs X hF hh
  have hn : ¬ j < 0 := by rw [Int32.lt_iff_toInt_lt, hj]; simp
  have e : j.toNatClampNeg = n := by simp [Int32.toNatClampNeg, hj]
  obtain ⟨T', h', cA, X', e', E', A', st'⟩ := newP (aty := .long) X hx hZ w hh (g := mkF m pc L (.int j :: S)) rfl (hb hby hd) rfl hn (cap := cap) (by rw [e]; exact hcap) hb8 hc hs
  have hj2 := Int32.toInt_lt j
  have F : AJ Z h' h.size n (fun _ => 0) := ⟨_, A', by rw [sz_new]; exact e, by omega, fun k hk => by
    have q : (newA cA .long j).slots[k]? = some (defaultValue .long) := by simp only [newA, e, Array.getElem?_replicate, if_pos hk]
    exact q⟩
  obtain ⟨s₂, v, L', st, r⟩ := hr _ h' rfl E' F hx hby hml hown hZ hret hlk hnm T' _ X' hF e'
  exact ⟨s₂, v, L', st' _ st, r⟩
theorem newB {j : Int32} {n cap : Nat} (hd : decode bs pc = .ok (.newarray .byte, 2)) (hp : pc + 2 = pc') (w : (Jvm.Cond.arrayClass .byte).before a0 Z = true) (hj : j.toInt = (n : Int)) (hcap : n ≤ cap) (hb8 : cap * 8 ≤ 536870912) (hc : kc + 1 ≤ rm.cells) (hs : ks + cap ≤ rm.slots)
    (hr : ∀ a h', a = h.size → Ext h h' → AB Z h' a n (fun _ => 0) → Go K rm Z n0 bs ml ret own nm Q (kc + 1) (ks + cap) h' pc' L (.ref a :: S)) : Go K rm Z n0 bs ml ret own nm Q kc ks h pc L (.int j :: S) := by
  subst hp
  obtain ⟨p, l, e, s, m, args, below, meth, c⟩ := K
  intro hx hby hml hown hZ hret hlk hnm T locs X hF hh
  have hn : ¬ j < 0 := by rw [Int32.lt_iff_toInt_lt, hj]; simp
  have e : j.toNatClampNeg = n := by simp [Int32.toNatClampNeg, hj]
  obtain ⟨T', h', cA, X', e', E', A', st'⟩ := newP (aty := .byte) X hx hZ w hh (g := mkF m pc L (.int j :: S)) rfl (hb hby hd) rfl hn (cap := cap) (by rw [e]; exact hcap) hb8 hc hs
  have hj2 := Int32.toInt_lt j
  have F : AB Z h' h.size n (fun _ => 0) := ⟨_, A', by rw [sz_new]; exact e, by omega, fun k hk => by
    have q : (newA cA .byte j).slots[k]? = some (defaultValue .byte) := by simp only [newA, e, Array.getElem?_replicate, if_pos hk]
    exact q⟩
  obtain ⟨s₂, v, L', st, r⟩ := hr _ h' rfl E' F hx hby hml hown hZ hret hlk hnm T' _ X' hF e'
  exact ⟨s₂, v, L', st' _ st, r⟩
theorem lenI {a : Addr} {n : Nat} {f : Nat → Int32} (hd : decode bs pc = .ok (.arraylength, 1)) (hp : pc + 1 = pc') (A : AI Z h a n f) (hr : ∀ z : Int32, z.toInt = (n : Int) → Go K rm Z n0 bs ml ret own nm Q kc ks h pc' L (.int z :: S)) : Go K rm Z n0 bs ml ret own nm Q kc ks h pc L (.ref a :: S) := by
  subst hp
  obtain ⟨p, l, e, s, m, args, below, meth, c⟩ := K
  intro hx hby hml hown hZ hret hlk hnm T locs X hF hh
  obtain ⟨cl, A1, r1, r2, r3⟩ := A
  obtain ⟨s₂, v, L', st, r⟩ := hr cl.slots.size.toInt32 (by rw [r1]; exact len_toInt r2) hx hby hml hown hZ hret hlk hnm T locs X hF hh
  exact ⟨s₂, v, L', X.arraylength hx (by rw [hh]; exact A1.1) (State.isArrayOf_alike hZ.alike A1.2.1) (g := mkF m pc L (.ref a :: S)) rfl rfl (hb hby hd) _ st, r⟩
theorem lenJ {a : Addr} {n : Nat} {f : Nat → Int64} (hd : decode bs pc = .ok (.arraylength, 1)) (hp : pc + 1 = pc') (A : AJ Z h a n f) (hr : ∀ z : Int32, z.toInt = (n : Int) → Go K rm Z n0 bs ml ret own nm Q kc ks h pc' L (.int z :: S)) : Go K rm Z n0 bs ml ret own nm Q kc ks h pc L (.ref a :: S) := by
  subst hp
  obtain ⟨p, l, e, s, m, args, below, meth, c⟩ := K
  intro hx hby hml hown hZ hret hlk hnm T locs X hF hh
  obtain ⟨cl, A1, r1, r2, r3⟩ := A
  obtain ⟨s₂, v, L', st, r⟩ := hr cl.slots.size.toInt32 (by rw [r1]; exact len_toInt r2) hx hby hml hown hZ hret hlk hnm T locs X hF hh
  exact ⟨s₂, v, L', X.arraylength hx (by rw [hh]; exact A1.1) (State.isArrayOf_alike hZ.alike A1.2.1) (g := mkF m pc L (.ref a :: S)) rfl rfl (hb hby hd) _ st, r⟩
theorem lenB {a : Addr} {n : Nat} {f : Nat → Int32} (hd : decode bs pc = .ok (.arraylength, 1)) (hp : pc + 1 = pc') (A : AB Z h a n f) (hr : ∀ z : Int32, z.toInt = (n : Int) → Go K rm Z n0 bs ml ret own nm Q kc ks h pc' L (.int z :: S)) : Go K rm Z n0 bs ml ret own nm Q kc ks h pc L (.ref a :: S) := by
  subst hp
  obtain ⟨p, l, e, s, m, args, below, meth, c⟩ := K
  intro hx hby hml hown hZ hret hlk hnm T locs X hF hh
  obtain ⟨cl, A1, r1, r2, r3⟩ := A
  obtain ⟨s₂, v, L', st, r⟩ := hr cl.slots.size.toInt32 (by rw [r1]; exact len_toInt r2) hx hby hml hown hZ hret hlk hnm T locs X hF hh
  exact ⟨s₂, v, L', X.arraylength hx (by rw [hh]; exact A1.1) (State.isArrayOf_alike hZ.alike A1.2.1) (g := mkF m pc L (.ref a :: S)) rfl rfl (hb hby hd) _ st, r⟩
end Laws
end Jvm.Own
@@BLOCK:NumsL.lean.txt@@
namespace Jvm.Own
theorem i64_nat (x : Int64) (h : 0 ≤ x.toInt) : (x.toBitVec.toNat : Int) = x.toInt := by
  have hl := x.toBitVec.isLt
  have e : x.toInt = x.toBitVec.toInt := rfl
  rw [e] at h ⊢
  rw [BitVec.toInt_eq_toNat_cond] at h ⊢
  split at h <;> rename_i hc
  · rw [if_pos hc]
  · omega
theorem i64_ofnat (x : Int64) (h : x.toBitVec.toNat < 2 ^ 63) : x.toInt = (x.toBitVec.toNat : Int) := by
  show x.toBitVec.toInt = _
  rw [BitVec.toInt_eq_toNat_cond, if_pos (by omega)]
theorem i64_or (x y : Int64) (k q : Nat) (hx : x.toInt = (q : Int) * 2 ^ k) (hy0 : 0 ≤ y.toInt) (hy : y.toInt < 2 ^ k) (hb : (q : Int) * 2 ^ k + 2 ^ k ≤ 2 ^ 63) : (x ||| y).toInt = x.toInt + y.toInt := by
  have c : ((q * 2 ^ k : Nat) : Int) = (q : Int) * 2 ^ k := by simp
  have c2 : ((2 ^ k : Nat) : Int) = 2 ^ k := by simp
  have x0 : 0 ≤ x.toInt := by omega
  have hx' := i64_nat x x0
  have hy' := i64_nat y hy0
  have ex : x.toBitVec.toNat = 2 ^ k * q := by rw [Nat.mul_comm]; omega
  have ey : y.toBitVec.toNat < 2 ^ k := by omega
  have e : (x ||| y).toBitVec.toNat = x.toBitVec.toNat + y.toBitVec.toNat := by
    rw [Int64.toBitVec_or, BitVec.toNat_or, ex, ← Nat.two_pow_add_eq_or_of_lt ey]
  rw [i64_ofnat _ (by omega), e]; omega
theorem i64_hi (x m : Int64) (k : Nat) (hk : k < 63) (hm : m.toBitVec.toNat = (2 ^ (64 - k) - 1) * 2 ^ k) (h0 : 0 ≤ x.toInt) : (x &&& m).toInt = x.toInt / 2 ^ k * 2 ^ k := by
  have hx' := i64_nat x h0
  have hl := x.toBitVec.isLt
  have c2 : ((2 ^ k : Nat) : Int) = 2 ^ k := by simp
  have hlt := Int64.toInt_lt x
  have e : (x &&& m).toBitVec.toNat = x.toBitVec.toNat / 2 ^ k * 2 ^ k := by
    rw [Int64.toBitVec_and, BitVec.toNat_and, hm, ← Nat.shiftLeft_eq, ← Nat.shiftLeft_eq, ← Nat.shiftRight_eq_div_pow]
    apply Nat.eq_of_testBit_eq
    intro i
    rw [Nat.testBit_and, Nat.testBit_shiftLeft, Nat.testBit_shiftLeft, Nat.testBit_two_pow_sub_one, Nat.testBit_shiftRight]
    by_cases q : k ≤ i
    · rw [show k + (i - k) = i by omega]
      by_cases q2 : i < 64
      · simp [q, show i - k < 64 - k by omega]
      · rw [Nat.testBit_lt_two_pow (Nat.lt_of_lt_of_le hl (Nat.pow_le_pow_right (by omega) (by omega)))]; simp
    · simp [q]
  have le : x.toBitVec.toNat / 2 ^ k * 2 ^ k ≤ x.toBitVec.toNat := Nat.div_mul_le_self _ _
  rw [i64_ofnat _ (by omega), e, ← hx', ← c2]; simp
theorem i32_nat (x : Int32) (h : 0 ≤ x.toInt) : (x.toBitVec.toNat : Int) = x.toInt := by
  have hl := x.toBitVec.isLt
  have e : x.toInt = x.toBitVec.toInt := rfl
  rw [e] at h ⊢
  rw [BitVec.toInt_eq_toNat_cond] at h ⊢
  split at h <;> rename_i hc
  · rw [if_pos hc]
  · omega
theorem i32_ofnat (x : Int32) (h : x.toBitVec.toNat < 2 ^ 31) : x.toInt = (x.toBitVec.toNat : Int) := by
  show x.toBitVec.toInt = _
  rw [BitVec.toInt_eq_toNat_cond, if_pos (by omega)]
theorem i2c_small (y : Int32) (h0 : 0 ≤ y.toInt) (h1 : y.toInt < 65536) : y.toUInt32.toUInt16.toUInt32.toInt32 = y := by
  apply Int32.toBitVec_inj.mp
  apply BitVec.eq_of_toNat_eq
  have h := i32_nat y h0
  have e : y.toUInt32.toUInt16.toUInt32.toInt32.toBitVec.toNat = y.toUInt32.toUInt16.toUInt32.toNat := rfl
  rw [e, UInt16.toNat_toUInt32, UInt32.toNat_toUInt16]
  show y.toBitVec.toNat % 2 ^ 16 = _
  omega
theorem ushrL_nn (x : Int64) (h0 : 0 ≤ x.toInt) (y : Int32) {k : Nat} (hy : y.toInt = (k : Int)) (hk : k < 64) : (Jvm.Own.ushrL x y).toInt = x.toInt / 2 ^ k := by
  refine Jvm.Kit.i64_lushr (Jvm.Kit.i64_nonneg.mpr h0) ?_ hk
  have e1 := i32_nat y (by omega)
  have e2 : y.toInt64.toBitVec.toNat = k := by
    have := i64_nat y.toInt64 (by rw [Int32.toInt_toInt64]; omega)
    rw [Int32.toInt_toInt64] at this; omega
  have e4 := Jvm.Kit.i32_mask y 63 (k := 6) (by decide) (by decide)
  have e5 := i64_nat (y &&& 63).toInt64 (by rw [Int32.toInt_toInt64]; omega)
  rw [Int32.toInt_toInt64] at e5
  have e6 : (y &&& 63).toInt64.toUInt64.toNat = (y &&& 63).toInt64.toBitVec.toNat := rfl
  omega
theorem ushrL_bv (x : Int64) (y : Int32) (k : Nat) (hy : y.toInt = (k : Int)) (hk : k < 64) : Jvm.Own.ushrL x y = Int64.ofBitVec (x.toBitVec >>> k) := by
  have e4 := Jvm.Kit.i32_mask y 63 (k := 6) (by decide) (by decide)
  have e5 := i64_nat (y &&& 63).toInt64 (by rw [Int32.toInt_toInt64]; omega)
  rw [Int32.toInt_toInt64] at e5
  have e6 : (y &&& 63).toInt64.toUInt64.toBitVec.toNat = k := by
    have : (y &&& 63).toInt64.toUInt64.toBitVec.toNat = (y &&& 63).toInt64.toBitVec.toNat := rfl
    omega
  apply Int64.toBitVec_inj.mp
  apply BitVec.eq_of_toNat_eq
  show (x.toUInt64 >>> (y &&& 63).toInt64.toUInt64).toBitVec.toNat = (x.toBitVec >>> k).toNat
  rw [UInt64.toBitVec_shiftRight, BitVec.ushiftRight_eq', BitVec.toNat_ushiftRight, BitVec.toNat_ushiftRight, BitVec.toNat_umod, e6]
  show x.toBitVec.toNat >>> (k % 64) = _
  rw [Nat.mod_eq_of_lt hk]
end Jvm.Own
namespace Jvm.Pilot.@@N@@
open Jvm Jvm.ClassFile Sem Op Lib Jvm.Free Jvm.Stand Jvm.LawKit Jvm.RoadKit Bundle Jvm.Own Jvm.Pilot.@@N@@.Jvm.D

theorem d_prog_27_method_16_6 : decode prog_27_method_16_code 6 = .ok (.lload 5, 2) := by decide +kernel
theorem d_prog_27_method_16_8 : decode prog_27_method_16_code 8 = .ok (.ldc2_w 210, 3) := by decide +kernel
theorem d_prog_27_method_16_11 : decode prog_27_method_16_code 11 = .ok (.land, 1) := by decide +kernel
theorem d_prog_27_method_16_12 : decode prog_27_method_16_code 12 = .ok (.lconst 0, 1) := by decide +kernel
theorem d_prog_27_method_16_13 : decode prog_27_method_16_code 13 = .ok (.lcmp, 1) := by decide +kernel
theorem d_prog_27_method_16_14 : decode prog_27_method_16_code 14 = .ok (.ifCond .eq 28, 3) := by decide +kernel
theorem d_prog_27_method_16_42 : decode prog_27_method_16_code 42 = .ok (.aload_n 0, 1) := by decide +kernel
theorem d_prog_27_method_16_43 : decode prog_27_method_16_code 43 = .ok (.iload 4, 2) := by decide +kernel
theorem d_prog_27_method_16_45 : decode prog_27_method_16_code 45 = .ok (.lload 5, 2) := by decide +kernel
theorem d_prog_27_method_16_47 : decode prog_27_method_16_code 47 = .ok (.l2i, 1) := by decide +kernel
theorem d_prog_27_method_16_48 : decode prog_27_method_16_code 48 = .ok (.i2b, 1) := by decide +kernel
theorem d_prog_27_method_16_49 : decode prog_27_method_16_code 49 = .ok (.bastore, 1) := by decide +kernel
theorem d_prog_27_method_16_50 : decode prog_27_method_16_code 50 = .ok (.iload 4, 2) := by decide +kernel
theorem d_prog_27_method_16_52 : decode prog_27_method_16_code 52 = .ok (.iconst 1, 1) := by decide +kernel
theorem d_prog_27_method_16_53 : decode prog_27_method_16_code 53 = .ok (.iadd, 1) := by decide +kernel
theorem d_prog_27_method_16_54 : decode prog_27_method_16_code 54 = .ok (.ireturn, 1) := by decide +kernel
theorem d_prog_27_method_16_17 : decode prog_27_method_16_code 17 = .ok (.aload_n 0, 1) := by decide +kernel
theorem d_prog_27_method_16_18 : decode prog_27_method_16_code 18 = .ok (.iload 4, 2) := by decide +kernel
theorem d_prog_27_method_16_20 : decode prog_27_method_16_code 20 = .ok (.lload 5, 2) := by decide +kernel
theorem d_prog_27_method_16_22 : decode prog_27_method_16_code 22 = .ok (.ldc2_w 212, 3) := by decide +kernel
theorem d_prog_27_method_16_25 : decode prog_27_method_16_code 25 = .ok (.lor, 1) := by decide +kernel
theorem d_prog_27_method_16_26 : decode prog_27_method_16_code 26 = .ok (.l2i, 1) := by decide +kernel
theorem d_prog_27_method_16_27 : decode prog_27_method_16_code 27 = .ok (.i2b, 1) := by decide +kernel
theorem d_prog_27_method_16_28 : decode prog_27_method_16_code 28 = .ok (.bastore, 1) := by decide +kernel
theorem d_prog_27_method_16_29 : decode prog_27_method_16_code 29 = .ok (.iinc 4 1, 3) := by decide +kernel
theorem d_prog_27_method_16_32 : decode prog_27_method_16_code 32 = .ok (.lload 5, 2) := by decide +kernel
theorem d_prog_27_method_16_34 : decode prog_27_method_16_code 34 = .ok (.bipush 7, 2) := by decide +kernel
theorem d_prog_27_method_16_36 : decode prog_27_method_16_code 36 = .ok (.lushr, 1) := by decide +kernel
theorem d_prog_27_method_16_37 : decode prog_27_method_16_code 37 = .ok (.lstore 5, 2) := by decide +kernel
theorem d_prog_27_method_16_39 : decode prog_27_method_16_code 39 = .ok (.goto (-33), 3) := by decide +kernel
theorem d_prog_27_method_16_0 : decode prog_27_method_16_code 0 = .ok (.iload_n 1, 1) := by decide +kernel
theorem d_prog_27_method_16_1 : decode prog_27_method_16_code 1 = .ok (.istore 4, 2) := by decide +kernel
theorem d_prog_27_method_16_3 : decode prog_27_method_16_code 3 = .ok (.lload_n 2, 1) := by decide +kernel
theorem d_prog_27_method_16_4 : decode prog_27_method_16_code 4 = .ok (.lstore 5, 2) := by decide +kernel
theorem d_method_3_0 : decode method_3_code 0 = .ok (.iconst 1, 1) := by decide +kernel
theorem d_method_3_1 : decode method_3_code 1 = .ok (.istore_n 2, 1) := by decide +kernel
theorem d_method_3_2 : decode method_3_code 2 = .ok (.lload_n 0, 1) := by decide +kernel
theorem d_method_3_3 : decode method_3_code 3 = .ok (.bipush 7, 2) := by decide +kernel
theorem d_method_3_5 : decode method_3_code 5 = .ok (.lushr, 1) := by decide +kernel
theorem d_method_3_6 : decode method_3_code 6 = .ok (.lconst 0, 1) := by decide +kernel
theorem d_method_3_7 : decode method_3_code 7 = .ok (.lcmp, 1) := by decide +kernel
theorem d_method_3_8 : decode method_3_code 8 = .ok (.ifCond .eq 5, 3) := by decide +kernel
theorem d_method_3_11 : decode method_3_code 11 = .ok (.iconst 2, 1) := by decide +kernel
theorem d_method_3_12 : decode method_3_code 12 = .ok (.istore_n 2, 1) := by decide +kernel
theorem d_method_3_13 : decode method_3_code 13 = .ok (.lload_n 0, 1) := by decide +kernel
theorem d_method_3_14 : decode method_3_code 14 = .ok (.bipush 14, 2) := by decide +kernel
theorem d_method_3_16 : decode method_3_code 16 = .ok (.lushr, 1) := by decide +kernel
theorem d_method_3_17 : decode method_3_code 17 = .ok (.lconst 0, 1) := by decide +kernel
theorem d_method_3_18 : decode method_3_code 18 = .ok (.lcmp, 1) := by decide +kernel
theorem d_method_3_19 : decode method_3_code 19 = .ok (.ifCond .eq 5, 3) := by decide +kernel
theorem d_method_3_22 : decode method_3_code 22 = .ok (.iconst 3, 1) := by decide +kernel
theorem d_method_3_23 : decode method_3_code 23 = .ok (.istore_n 2, 1) := by decide +kernel
theorem d_method_3_24 : decode method_3_code 24 = .ok (.lload_n 0, 1) := by decide +kernel
theorem d_method_3_25 : decode method_3_code 25 = .ok (.bipush 21, 2) := by decide +kernel
theorem d_method_3_27 : decode method_3_code 27 = .ok (.lushr, 1) := by decide +kernel
theorem d_method_3_28 : decode method_3_code 28 = .ok (.lconst 0, 1) := by decide +kernel
theorem d_method_3_29 : decode method_3_code 29 = .ok (.lcmp, 1) := by decide +kernel
theorem d_method_3_30 : decode method_3_code 30 = .ok (.ifCond .eq 5, 3) := by decide +kernel
theorem d_method_3_33 : decode method_3_code 33 = .ok (.iconst 4, 1) := by decide +kernel
theorem d_method_3_34 : decode method_3_code 34 = .ok (.istore_n 2, 1) := by decide +kernel
theorem d_method_3_35 : decode method_3_code 35 = .ok (.lload_n 0, 1) := by decide +kernel
theorem d_method_3_36 : decode method_3_code 36 = .ok (.bipush 28, 2) := by decide +kernel
theorem d_method_3_38 : decode method_3_code 38 = .ok (.lushr, 1) := by decide +kernel
theorem d_method_3_39 : decode method_3_code 39 = .ok (.lconst 0, 1) := by decide +kernel
theorem d_method_3_40 : decode method_3_code 40 = .ok (.lcmp, 1) := by decide +kernel
theorem d_method_3_41 : decode method_3_code 41 = .ok (.ifCond .eq 5, 3) := by decide +kernel
theorem d_method_3_44 : decode method_3_code 44 = .ok (.iconst 5, 1) := by decide +kernel
theorem d_method_3_45 : decode method_3_code 45 = .ok (.istore_n 2, 1) := by decide +kernel
theorem d_method_3_46 : decode method_3_code 46 = .ok (.lload_n 0, 1) := by decide +kernel
theorem d_method_3_47 : decode method_3_code 47 = .ok (.bipush 35, 2) := by decide +kernel
theorem d_method_3_49 : decode method_3_code 49 = .ok (.lushr, 1) := by decide +kernel
theorem d_method_3_50 : decode method_3_code 50 = .ok (.lconst 0, 1) := by decide +kernel
theorem d_method_3_51 : decode method_3_code 51 = .ok (.lcmp, 1) := by decide +kernel
theorem d_method_3_52 : decode method_3_code 52 = .ok (.ifCond .eq 6, 3) := by decide +kernel
theorem d_method_3_55 : decode method_3_code 55 = .ok (.bipush 6, 2) := by decide +kernel
theorem d_method_3_57 : decode method_3_code 57 = .ok (.istore_n 2, 1) := by decide +kernel
theorem d_method_3_58 : decode method_3_code 58 = .ok (.lload_n 0, 1) := by decide +kernel
theorem d_method_3_59 : decode method_3_code 59 = .ok (.bipush 42, 2) := by decide +kernel
theorem d_method_3_61 : decode method_3_code 61 = .ok (.lushr, 1) := by decide +kernel
theorem d_method_3_62 : decode method_3_code 62 = .ok (.lconst 0, 1) := by decide +kernel
theorem d_method_3_63 : decode method_3_code 63 = .ok (.lcmp, 1) := by decide +kernel
theorem d_method_3_64 : decode method_3_code 64 = .ok (.ifCond .eq 6, 3) := by decide +kernel
theorem d_method_3_67 : decode method_3_code 67 = .ok (.bipush 7, 2) := by decide +kernel
theorem d_method_3_69 : decode method_3_code 69 = .ok (.istore_n 2, 1) := by decide +kernel
theorem d_method_3_70 : decode method_3_code 70 = .ok (.lload_n 0, 1) := by decide +kernel
theorem d_method_3_71 : decode method_3_code 71 = .ok (.bipush 49, 2) := by decide +kernel
theorem d_method_3_73 : decode method_3_code 73 = .ok (.lushr, 1) := by decide +kernel
theorem d_method_3_74 : decode method_3_code 74 = .ok (.lconst 0, 1) := by decide +kernel
theorem d_method_3_75 : decode method_3_code 75 = .ok (.lcmp, 1) := by decide +kernel
theorem d_method_3_76 : decode method_3_code 76 = .ok (.ifCond .eq 6, 3) := by decide +kernel
theorem d_method_3_79 : decode method_3_code 79 = .ok (.bipush 8, 2) := by decide +kernel
theorem d_method_3_81 : decode method_3_code 81 = .ok (.istore_n 2, 1) := by decide +kernel
theorem d_method_3_82 : decode method_3_code 82 = .ok (.lload_n 0, 1) := by decide +kernel
theorem d_method_3_83 : decode method_3_code 83 = .ok (.bipush 56, 2) := by decide +kernel
theorem d_method_3_85 : decode method_3_code 85 = .ok (.lushr, 1) := by decide +kernel
theorem d_method_3_86 : decode method_3_code 86 = .ok (.lconst 0, 1) := by decide +kernel
theorem d_method_3_87 : decode method_3_code 87 = .ok (.lcmp, 1) := by decide +kernel
theorem d_method_3_88 : decode method_3_code 88 = .ok (.ifCond .eq 6, 3) := by decide +kernel
theorem d_method_3_91 : decode method_3_code 91 = .ok (.bipush 9, 2) := by decide +kernel
theorem d_method_3_93 : decode method_3_code 93 = .ok (.istore_n 2, 1) := by decide +kernel
theorem d_method_3_94 : decode method_3_code 94 = .ok (.lload_n 0, 1) := by decide +kernel
theorem d_method_3_95 : decode method_3_code 95 = .ok (.bipush 63, 2) := by decide +kernel
theorem d_method_3_97 : decode method_3_code 97 = .ok (.lushr, 1) := by decide +kernel
theorem d_method_3_98 : decode method_3_code 98 = .ok (.lconst 0, 1) := by decide +kernel
theorem d_method_3_99 : decode method_3_code 99 = .ok (.lcmp, 1) := by decide +kernel
theorem d_method_3_100 : decode method_3_code 100 = .ok (.ifCond .eq 6, 3) := by decide +kernel
theorem d_method_3_103 : decode method_3_code 103 = .ok (.bipush 10, 2) := by decide +kernel
theorem d_method_3_105 : decode method_3_code 105 = .ok (.istore_n 2, 1) := by decide +kernel
theorem d_method_3_106 : decode method_3_code 106 = .ok (.iload_n 2, 1) := by decide +kernel
theorem d_method_3_107 : decode method_3_code 107 = .ok (.ireturn, 1) := by decide +kernel
theorem d_method_4_0 : decode method_4_code 0 = .ok (.iload_n 1, 1) := by decide +kernel
theorem d_method_4_1 : decode method_4_code 1 = .ok (.iload_n 2, 1) := by decide +kernel
theorem d_method_4_2 : decode method_4_code 2 = .ok (.if_icmp .lt 10, 3) := by decide +kernel
theorem d_method_4_12 : decode method_4_code 12 = .ok (.iload 6, 2) := by decide +kernel
theorem d_method_4_14 : decode method_4_code 14 = .ok (.istore 7, 2) := by decide +kernel
theorem d_method_4_16 : decode method_4_code 16 = .ok (.goto 44, 3) := by decide +kernel
theorem d_method_4_60 : decode method_4_code 60 = .ok (.aload_n 0, 1) := by decide +kernel
theorem d_method_4_61 : decode method_4_code 61 = .ok (.iload_n 1, 1) := by decide +kernel
theorem d_method_4_62 : decode method_4_code 62 = .ok (.baload, 1) := by decide +kernel
theorem d_method_4_63 : decode method_4_code 63 = .ok (.iload 7, 2) := by decide +kernel
theorem d_method_4_65 : decode method_4_code 65 = .ok (.if_icmp .ne 7, 3) := by decide +kernel
theorem d_method_4_72 : decode method_4_code 72 = .ok (.iconst 0, 1) := by decide +kernel
theorem d_method_4_73 : decode method_4_code 73 = .ok (.ireturn, 1) := by decide +kernel
theorem d_method_4_68 : decode method_4_code 68 = .ok (.iconst 1, 1) := by decide +kernel
theorem d_method_4_69 : decode method_4_code 69 = .ok (.goto 4, 3) := by decide +kernel
theorem d_method_4_5 : decode method_4_code 5 = .ok (.iload_n 1, 1) := by decide +kernel
theorem d_method_4_6 : decode method_4_code 6 = .ok (.iload_n 2, 1) := by decide +kernel
theorem d_method_4_7 : decode method_4_code 7 = .ok (.iload_n 3, 1) := by decide +kernel
theorem d_method_4_8 : decode method_4_code 8 = .ok (.iadd, 1) := by decide +kernel
theorem d_method_4_9 : decode method_4_code 9 = .ok (.if_icmp .lt 10, 3) := by decide +kernel
theorem d_method_4_19 : decode method_4_code 19 = .ok (.iload_n 1, 1) := by decide +kernel
theorem d_method_4_20 : decode method_4_code 20 = .ok (.iload_n 2, 1) := by decide +kernel
theorem d_method_4_21 : decode method_4_code 21 = .ok (.isub, 1) := by decide +kernel
theorem d_method_4_22 : decode method_4_code 22 = .ok (.istore 8, 2) := by decide +kernel
theorem d_method_4_24 : decode method_4_code 24 = .ok (.lload 4, 2) := by decide +kernel
theorem d_method_4_26 : decode method_4_code 26 = .ok (.bipush 7, 2) := by decide +kernel
theorem d_method_4_28 : decode method_4_code 28 = .ok (.iload 8, 2) := by decide +kernel
theorem d_method_4_30 : decode method_4_code 30 = .ok (.imul, 1) := by decide +kernel
theorem d_method_4_31 : decode method_4_code 31 = .ok (.lushr, 1) := by decide +kernel
theorem d_method_4_32 : decode method_4_code 32 = .ok (.ldc2_w 24, 3) := by decide +kernel
theorem d_method_4_35 : decode method_4_code 35 = .ok (.land, 1) := by decide +kernel
theorem d_method_4_36 : decode method_4_code 36 = .ok (.lstore 9, 2) := by decide +kernel
theorem d_method_4_38 : decode method_4_code 38 = .ok (.iload 8, 2) := by decide +kernel
theorem d_method_4_40 : decode method_4_code 40 = .ok (.iconst 1, 1) := by decide +kernel
theorem d_method_4_41 : decode method_4_code 41 = .ok (.iadd, 1) := by decide +kernel
theorem d_method_4_42 : decode method_4_code 42 = .ok (.iload_n 3, 1) := by decide +kernel
theorem d_method_4_43 : decode method_4_code 43 = .ok (.if_icmp .ge 11, 3) := by decide +kernel
theorem d_method_4_54 : decode method_4_code 54 = .ok (.lload 9, 2) := by decide +kernel
theorem d_method_4_56 : decode method_4_code 56 = .ok (.l2i, 1) := by decide +kernel
theorem d_method_4_57 : decode method_4_code 57 = .ok (.i2b, 1) := by decide +kernel
theorem d_method_4_58 : decode method_4_code 58 = .ok (.istore 7, 2) := by decide +kernel
theorem d_method_4_46 : decode method_4_code 46 = .ok (.lload 9, 2) := by decide +kernel
theorem d_method_4_48 : decode method_4_code 48 = .ok (.ldc2_w 26, 3) := by decide +kernel
theorem d_method_4_51 : decode method_4_code 51 = .ok (.lor, 1) := by decide +kernel
theorem d_method_4_52 : decode method_4_code 52 = .ok (.lstore 9, 2) := by decide +kernel
theorem pn_0 : plainName "com/example/tokens_over_transports/tokensovertransports/engine/MarkingCodec" = true := by first | (simp [plainName, overriddenIn]; done) | decide +kernel
theorem pn_1 : plainName "com/example/tokens_over_transports/tokensovertransports/engine/MarkingCodecPutPinLaw" = true := by first | (simp [plainName, overriddenIn]; done) | decide +kernel
theorem pd_0 : parseMethodDescriptor "([BIJ)I" = some ⟨[(.array .byte), .int, .long], some .int⟩ := by decide +kernel
theorem pd_1 : parseMethodDescriptor "(J)I" = some ⟨[.long], some .int⟩ := by decide +kernel
theorem pd_2 : parseMethodDescriptor "([BIIIJB)Z" = some ⟨[(.array .byte), .int, .int, .int, .long, .byte], some .boolean⟩ := by decide +kernel
def own_c (x : Int64) (k : Nat) : Int64 := Int64.ofBitVec (x.toBitVec >>> (7 * k))
def own_by (x : Int64) : Int32 := x.toInt32.toInt8.toInt32
def own_pf (f : Nat → Int32) (t k : Nat) (x : Int64) : Nat → Int32 := fun j => if t ≤ j ∧ j < t + k then own_by (own_c x (j - t) ||| 128) else f j
def own_end (f : Nat → Int32) (t k : Nat) (x : Int64) : Nat → Int32 := ownSet (own_pf f t k x) (t + k) (own_by (own_c x k))
def own_Q (Z : State) (h : Heap) (a : Addr) (t : Nat) (x : Int64) (f : Nat → Int32) (v : Option Value) (h' : Heap) : Prop := Keep h h' [a] ∧ ∃ (k : Nat) (z : Int32), v = some (.int z) ∧ k ≤ 9 ∧ z.toInt = (t : Int) + k + 1 ∧ (∀ j, j < k → own_c x j &&& (-128) ≠ 0) ∧ own_c x k &&& (-128) = 0 ∧ AB Z h' a 12 (own_end f t k x)
theorem own_bb (x : Int32) : x.toInt8.toInt32.toInt8.toInt32 = x.toInt8.toInt32 := by rw [Int8.toInt8_toInt32]
theorem own_cs (x : Int64) (k : Nat) : Jvm.Own.ushrL (own_c x k) 7 = own_c x (k + 1) := by
  rw [ushrL_bv (own_c x k) 7 7 (by decide) (by decide)]
  show Int64.ofBitVec ((x.toBitVec >>> (7 * k)) >>> 7) = Int64.ofBitVec (x.toBitVec >>> (7 * (k + 1)))
  rw [← BitVec.shiftRight_add]; rfl
theorem own_c0 (x : Int64) : own_c x 0 = x := by simp [own_c]
theorem own_c9 (x : Int64) : own_c x 9 &&& (-128) = 0 := by
  apply Int64.toBitVec_inj.mp
  apply BitVec.eq_of_toNat_eq
  have hl := x.toBitVec.isLt
  have e : (own_c x 9).toBitVec.toNat = x.toBitVec.toNat >>> 63 := by show (x.toBitVec >>> 63).toNat = _; rw [BitVec.toNat_ushiftRight]
  rw [Int64.toBitVec_and, BitVec.toNat_and, e, Nat.shiftRight_eq_div_pow]
  have : x.toBitVec.toNat / 2 ^ 63 = 0 ∨ x.toBitVec.toNat / 2 ^ 63 = 1 := by omega
  rcases this with q | q <;> rw [q] <;> decide
theorem own_pfs (f : Nat → Int32) (t k : Nat) (x : Int64) : ∀ j, ownSet (own_pf f t k x) (t + k) (own_by (own_c x k ||| 128)) j = own_pf f t (k + 1) x j := by
  intro j; unfold ownSet own_pf
  by_cases e : j = t + k
  · subst e; rw [if_pos rfl, if_pos (by omega), Nat.add_sub_cancel_left]
  · rw [if_neg e]
    by_cases q : t ≤ j ∧ j < t + k
    · rw [if_pos q, if_pos (by omega)]
    · rw [if_neg q, if_neg (by omega)]
set_option maxRecDepth 65536 in
set_option maxHeartbeats 40000000 in
theorem own_loop (Z : State) (a0 : Array Value) (hw : ∀ d ∈ tables_1, d.before a0 Z = true) (n0 : Nat) (K : Ctx) (h0 : Heap) (a : Addr) (p1 : Int32) (x : Int64) (t : Nat) (ht : t ≤ 2) (f0 : Nat → Int32) (g : n0 ≤ a) :
    ∀ m k : Nat, k + m = 9 → ∀ (h : Heap) (i : Int32) (c : Int64), i.toInt = (t : Int) + k → c = own_c x k → AB Z h a 12 (own_pf f0 t k x) → Keep h0 h [a] → n0 ≤ h.size → (∀ j, j < k → own_c x j &&& (-128) ≠ 0) →
    Go K ({ frames := 0, cells := 0, slots := 0, locals := 0 } : Room) Z n0 prog_27_method_16_code 7 (some .int) "com/example/tokens_over_transports/tokensovertransports/engine/MarkingCodec" "put" (own_Q Z h0 a t x f0) 0 0 h 6 #[.val (.ref a), .val (.int p1), .val (.long x), .second, .val (.int i), .val (.long c), .second] [] := by
  intro m
  induction m with
  | zero =>
    intro k hk h i c hi hc A Kp hz hlt
    obtain rfl : k = 9 := by omega
    refine Own.lload (pc' := 8) d_prog_27_method_16_6 rfl rfl ?_
    refine Own.ldc2Long (pc' := 11) (v := (-128 : Int64)) d_prog_27_method_16_8 (hw _ (List.mem_of_getElem? (i := 6) rfl)) rfl ?_
    refine Own.land (pc' := 12) d_prog_27_method_16_11 rfl fun v1 hv1 => ?_
    refine Own.lconst0 (pc' := 13) d_prog_27_method_16_12 rfl ?_
    refine Own.lcmp_eq (pc1 := 14) (pc' := 42) (pc2 := 17) d_prog_27_method_16_13 rfl d_prog_27_method_16_14 (by decide) (by decide) rfl (fun c13_1 => ?_) (fun c13_1 => False.elim (by apply c13_1; rw [hv1, hc]; exact own_c9 x))
    refine Own.aloadN (pc' := 43) d_prog_27_method_16_42 rfl rfl rfl ?_
    refine Own.iload (pc' := 45) d_prog_27_method_16_43 rfl rfl ?_
    refine Own.lload (pc' := 47) d_prog_27_method_16_45 rfl rfl ?_
    refine Own.l2i (pc' := 48) d_prog_27_method_16_47 rfl fun v3 hv3 => ?_
    refine Own.i2b (pc' := 49) d_prog_27_method_16_48 rfl fun v4 hv4 => ?_
    refine Own.bastore (pc' := 50) (i := (t + 9)) d_prog_27_method_16_49 rfl A g (by rw [hi]; omega) (by omega) fun h5 Wh5 Ah5 => ?_
    have Zh5 : n0 ≤ h5.size := by rw [Wh5.size]; exact hz
    have Kh5 := Kp.wr Wh5 (Or.inl (by simp))
    refine Own.iload (pc' := 52) d_prog_27_method_16_50 rfl rfl ?_
    refine Own.iconst (pc' := 53) (v := (1 : Int32)) d_prog_27_method_16_52 (by decide) rfl ?_
    refine Own.iadd (pc' := 54) d_prog_27_method_16_53 rfl fun v6 hv6 => ?_
    have hz : v6.toInt = (t : Int) + (9 : Nat) + 1 := by rw [hv6, Jvm.Kit.i32_add (by rw [hi]; show _ ≤ _ + (1 : Int); omega) (by rw [hi]; show _ + (1 : Int) < _; omega), hi]; rfl
    have Af := Ah5
    refine Own.ireturnI (z := v6) d_prog_27_method_16_54 rfl ⟨Kh5, 9, v6, rfl, by omega, hz, hlt, ?_, ?_⟩ (by decide) (by decide)
    · rw [← hc, ← hv1]; exact c13_1
    · rw [hv4, own_bb, hv3, hc] at Af; exact Af
  | succ m ih =>
    intro k hk h i c hi hc A Kp hz hlt
    refine Own.lload (pc' := 8) d_prog_27_method_16_6 rfl rfl ?_
    refine Own.ldc2Long (pc' := 11) (v := (-128 : Int64)) d_prog_27_method_16_8 (hw _ (List.mem_of_getElem? (i := 6) rfl)) rfl ?_
    refine Own.land (pc' := 12) d_prog_27_method_16_11 rfl fun v7 hv7 => ?_
    refine Own.lconst0 (pc' := 13) d_prog_27_method_16_12 rfl ?_
    refine Own.lcmp_eq (pc1 := 14) (pc' := 42) (pc2 := 17) d_prog_27_method_16_13 rfl d_prog_27_method_16_14 (by decide) (by decide) rfl (fun c13_7 => ?_) (fun c13_7 => ?_)
    · refine Own.aloadN (pc' := 43) d_prog_27_method_16_42 rfl rfl rfl ?_
      refine Own.iload (pc' := 45) d_prog_27_method_16_43 rfl rfl ?_
      refine Own.lload (pc' := 47) d_prog_27_method_16_45 rfl rfl ?_
      refine Own.l2i (pc' := 48) d_prog_27_method_16_47 rfl fun v9 hv9 => ?_
      refine Own.i2b (pc' := 49) d_prog_27_method_16_48 rfl fun v10 hv10 => ?_
      refine Own.bastore (pc' := 50) (i := (t + k)) d_prog_27_method_16_49 rfl A g (by rw [hi]; omega) (by omega) fun h11 Wh11 Ah11 => ?_
      have Zh11 : n0 ≤ h11.size := by rw [Wh11.size]; exact hz
      have Kh11 := Kp.wr Wh11 (Or.inl (by simp))
      refine Own.iload (pc' := 52) d_prog_27_method_16_50 rfl rfl ?_
      refine Own.iconst (pc' := 53) (v := (1 : Int32)) d_prog_27_method_16_52 (by decide) rfl ?_
      refine Own.iadd (pc' := 54) d_prog_27_method_16_53 rfl fun v12 hv12 => ?_
      have hz : v12.toInt = (t : Int) + k + 1 := by rw [hv12, Jvm.Kit.i32_add (by rw [hi]; show _ ≤ _ + (1 : Int); omega) (by rw [hi]; show _ + (1 : Int) < _; omega), hi]; rfl
      have Af := Ah11
      refine Own.ireturnI (z := v12) d_prog_27_method_16_54 rfl ⟨Kh11, k, v12, rfl, by omega, hz, hlt, ?_, ?_⟩ (by decide) (by decide)
      · rw [← hc, ← hv7]; exact c13_7
      · rw [hv10, own_bb, hv9, hc] at Af; exact Af
    · refine Own.aloadN (pc' := 18) d_prog_27_method_16_17 rfl rfl rfl ?_
      refine Own.iload (pc' := 20) d_prog_27_method_16_18 rfl rfl ?_
      refine Own.lload (pc' := 22) d_prog_27_method_16_20 rfl rfl ?_
      refine Own.ldc2Long (pc' := 25) (v := (128 : Int64)) d_prog_27_method_16_22 (hw _ (List.mem_of_getElem? (i := 15) rfl)) rfl ?_
      refine Own.lor (pc' := 26) d_prog_27_method_16_25 rfl fun v13 hv13 => ?_
      refine Own.l2i (pc' := 27) d_prog_27_method_16_26 rfl fun v14 hv14 => ?_
      refine Own.i2b (pc' := 28) d_prog_27_method_16_27 rfl fun v15 hv15 => ?_
      refine Own.bastore (pc' := 29) (i := (t + k)) d_prog_27_method_16_28 rfl A g (by rw [hi]; omega) (by omega) fun h16 Wh16 Ah16 => ?_
      have Zh16 : n0 ≤ h16.size := by rw [Wh16.size]; exact hz
      have Kh16 := Kp.wr Wh16 (Or.inl (by simp))
      have hi' : (i + Int32.ofInt 1).toInt = (t : Int) + (k + 1 : Nat) := by rw [Jvm.Kit.i32_add (by rw [hi]; show _ ≤ _ + (1 : Int); omega) (by rw [hi]; show _ + (1 : Int) < _; omega), hi]; show _ + (1 : Int) = _; omega
      refine Own.iinc (pc' := 32) (L1 := fun zz => #[.val (.ref a), .val (.int p1), .val (.long x), .second, .val (.int zz), .val (.long c), .second]) d_prog_27_method_16_29 rfl (fun _ => rfl) rfl fun v17 hv17 => ?_
      show Go K _ _ _ _ _ _ _ _ _ 0 0 h16 32 #[.val (.ref a), .val (.int p1), .val (.long x), .second, .val (.int v17), .val (.long c), .second] []
      refine Own.lload (pc' := 34) d_prog_27_method_16_32 rfl rfl ?_
      refine Own.bipush (pc' := 36) (v := (7 : Int32)) d_prog_27_method_16_34 (by decide) rfl ?_
      refine Own.lushr (pc' := 37) d_prog_27_method_16_36 rfl fun v18 hv18 => ?_
      refine Own.lstore (pc' := 39) (L1 := #[.val (.ref a), .val (.int p1), .val (.long x), .second, .val (.int v17), .val (.long v18), .second]) d_prog_27_method_16_37 rfl rfl ?_
      refine Own.goto (pc' := 6) d_prog_27_method_16_39 (by decide) (by decide) ?_
      refine ih (k + 1) (by omega) h16 v17 v18 (by rw [hv17, hi']) (by rw [hv18, hc, own_cs]) ?_ Kh16 Zh16 (fun j hj => ?_)
      · refine Ah16.cong fun j hj => ?_
        rw [← own_pfs, hv15, own_bb, hv14, hv13, hc]; rfl
      · by_cases q : j = k
        · subst q; rw [← hc, ← hv7]; exact c13_7
        · exact hlt j (by omega)
set_option maxRecDepth 65536 in
set_option maxHeartbeats 40000000 in
theorem c_own_put (Z : State) (a0 : Array Value) (hw : ∀ d ∈ tables_1, d.before a0 Z = true) (n0 : Nat) (h : Heap) (hZ0 : n0 ≤ h.size) (a : Addr) (p1 : Int32) (x : Int64) (t : Nat) (ht : t ≤ 2) (hp : p1.toInt = (t : Int)) (f0 : Nat → Int32) (g : n0 ≤ a) (A : AB Z h a 12 f0) :
    Con Z n0 (⟨"com/example/tokens_over_transports/tokensovertransports/engine/MarkingCodec", "put", "([BIJ)I"⟩ : MethodName) prog_27_method_16_code 7 (some .int) ({ frames := 0, cells := 0, slots := 0, locals := 0 } : Room) [(.ref a), (.int p1), (.long x)] h (own_Q Z h a t x f0) := by
  refine Own.enter (plainFor_of_name pn_0) (L0 := #[.val (.ref a), .val (.int p1), .val (.long x), .second, .unset, .unset, .unset]) (fun m => by first | (simp [entryFrame, mkF, argsToLocals, Value.category]; done) | rfl) fun K => ?_
  show Go K _ _ _ _ _ _ "com/example/tokens_over_transports/tokensovertransports/engine/MarkingCodec" "put" _ 0 0 h 0 #[.val (.ref a), .val (.int p1), .val (.long x), .second, .unset, .unset, .unset] []
  refine Own.iloadN (pc' := 1) d_prog_27_method_16_0 rfl rfl ?_
  refine Own.istore (pc' := 3) (L1 := #[.val (.ref a), .val (.int p1), .val (.long x), .second, .val (.int p1), .unset, .unset]) d_prog_27_method_16_1 rfl rfl ?_
  refine Own.lloadN (pc' := 4) d_prog_27_method_16_3 rfl rfl ?_
  refine Own.lstore (pc' := 6) (L1 := #[.val (.ref a), .val (.int p1), .val (.long x), .second, .val (.int p1), .val (.long x), .second]) d_prog_27_method_16_4 rfl rfl ?_
  exact own_loop Z a0 hw n0 K h a p1 x t ht f0 g 9 0 rfl h p1 x (by rw [hp]; simp) (own_c0 x).symm (A.cong fun j hj => by unfold own_pf; rw [if_neg (by omega)]) (Keep.refl _ _) hZ0 (fun j hj => absurd hj (Nat.not_lt_zero j))
def own_len (x : Int64) : Int32 := (if (Jvm.Own.ushrL x (63 : Int32)) = (0 : Int64) then (if (Jvm.Own.ushrL x (56 : Int32)) = (0 : Int64) then (if (Jvm.Own.ushrL x (49 : Int32)) = (0 : Int64) then (if (Jvm.Own.ushrL x (42 : Int32)) = (0 : Int64) then (if (Jvm.Own.ushrL x (35 : Int32)) = (0 : Int64) then (if (Jvm.Own.ushrL x (28 : Int32)) = (0 : Int64) then (if (Jvm.Own.ushrL x (21 : Int32)) = (0 : Int64) then (if (Jvm.Own.ushrL x (14 : Int32)) = (0 : Int64) then (if (Jvm.Own.ushrL x (7 : Int32)) = (0 : Int64) then (1 : Int32) else (2 : Int32)) else (3 : Int32)) else (4 : Int32)) else (5 : Int32)) else (6 : Int32)) else (7 : Int32)) else (8 : Int32)) else (9 : Int32)) else (10 : Int32))
set_option maxRecDepth 65536 in
set_option maxHeartbeats 40000000 in
theorem c_own_len (Z : State) (a0 : Array Value) (hw : ∀ d ∈ tables_1, d.before a0 Z = true) (n0 : Nat) (h : Heap) (hZ0 : n0 ≤ h.size) (x : Int64)    :
    Con Z n0 (⟨"com/example/tokens_over_transports/tokensovertransports/engine/MarkingCodecPutPinLaw", "length", "(J)I"⟩ : MethodName) method_3_code 3 (some .int) ({ frames := 0, cells := 0, slots := 0, locals := 0 } : Room) [(.long x)] h (fun v h' => h = h' ∧ ∃ z, v = some (.int z) ∧ z = (own_len x)) := by
  refine Own.enter (plainFor_of_name pn_1) (L0 := #[.val (.long x), .second, .unset]) (fun m => by first | (simp [entryFrame, mkF, argsToLocals, Value.category]; done) | rfl) fun K => ?_
  show Go K _ _ _ _ _ _ "com/example/tokens_over_transports/tokensovertransports/engine/MarkingCodecPutPinLaw" "length" _ 0 0 h 0 #[.val (.long x), .second, .unset] []
  refine Own.iconst (pc' := 1) (v := (1 : Int32)) d_method_3_0 (by decide) rfl ?_
  refine Own.istoreN (pc' := 2) (L1 := #[.val (.long x), .second, .val (.int (1 : Int32))]) d_method_3_1 rfl rfl ?_
  refine Own.lloadN (pc' := 3) d_method_3_2 rfl rfl ?_
  refine Own.bipush (pc' := 5) (v := (7 : Int32)) d_method_3_3 (by decide) rfl ?_
  refine Own.lushr (pc' := 6) d_method_3_5 rfl fun v19 hv19 => ?_
  refine Own.lconst0 (pc' := 7) d_method_3_6 rfl ?_
  obtain ⟨w21, hw21⟩ : ∃ w : Int32, w = (if v19 = (0 : Int64) then (1 : Int32) else (2 : Int32)) := ⟨_, rfl⟩
  refine Own.join (pc2 := 13) (L2 := #[.val (.long x), .second, .val (.int w21)]) (S2 := []) (fun J22 => ?_) ?_
  · refine Own.lcmp_eq (pc1 := 8) (pc' := 13) (pc2 := 11) d_method_3_7 rfl d_method_3_8 (by decide) (by decide) rfl (fun c7_19 => ?_) (fun c7_19 => ?_)
    · try rw [if_pos c7_19] at hw21
      subst hw21
      exact J22
    · refine Own.iconst (pc' := 12) (v := (2 : Int32)) d_method_3_11 (by decide) rfl ?_
      refine Own.istoreN (pc' := 13) (L1 := #[.val (.long x), .second, .val (.int (2 : Int32))]) d_method_3_12 rfl rfl ?_
      try rw [if_neg c7_19] at hw21
      subst hw21
      exact J22
  refine Own.lloadN (pc' := 14) d_method_3_13 rfl rfl ?_
  refine Own.bipush (pc' := 16) (v := (14 : Int32)) d_method_3_14 (by decide) rfl ?_
  refine Own.lushr (pc' := 17) d_method_3_16 rfl fun v23 hv23 => ?_
  refine Own.lconst0 (pc' := 18) d_method_3_17 rfl ?_
  obtain ⟨w25, hw25⟩ : ∃ w : Int32, w = (if v23 = (0 : Int64) then w21 else (3 : Int32)) := ⟨_, rfl⟩
  refine Own.join (pc2 := 24) (L2 := #[.val (.long x), .second, .val (.int w25)]) (S2 := []) (fun J26 => ?_) ?_
  · refine Own.lcmp_eq (pc1 := 19) (pc' := 24) (pc2 := 22) d_method_3_18 rfl d_method_3_19 (by decide) (by decide) rfl (fun c18_23 => ?_) (fun c18_23 => ?_)
    · try rw [if_pos c18_23] at hw25
      subst hw25
      exact J26
    · refine Own.iconst (pc' := 23) (v := (3 : Int32)) d_method_3_22 (by decide) rfl ?_
      refine Own.istoreN (pc' := 24) (L1 := #[.val (.long x), .second, .val (.int (3 : Int32))]) d_method_3_23 rfl rfl ?_
      try rw [if_neg c18_23] at hw25
      subst hw25
      exact J26
  refine Own.lloadN (pc' := 25) d_method_3_24 rfl rfl ?_
  refine Own.bipush (pc' := 27) (v := (21 : Int32)) d_method_3_25 (by decide) rfl ?_
  refine Own.lushr (pc' := 28) d_method_3_27 rfl fun v27 hv27 => ?_
  refine Own.lconst0 (pc' := 29) d_method_3_28 rfl ?_
  obtain ⟨w29, hw29⟩ : ∃ w : Int32, w = (if v27 = (0 : Int64) then w25 else (4 : Int32)) := ⟨_, rfl⟩
  refine Own.join (pc2 := 35) (L2 := #[.val (.long x), .second, .val (.int w29)]) (S2 := []) (fun J30 => ?_) ?_
  · refine Own.lcmp_eq (pc1 := 30) (pc' := 35) (pc2 := 33) d_method_3_29 rfl d_method_3_30 (by decide) (by decide) rfl (fun c29_27 => ?_) (fun c29_27 => ?_)
    · try rw [if_pos c29_27] at hw29
      subst hw29
      exact J30
    · refine Own.iconst (pc' := 34) (v := (4 : Int32)) d_method_3_33 (by decide) rfl ?_
      refine Own.istoreN (pc' := 35) (L1 := #[.val (.long x), .second, .val (.int (4 : Int32))]) d_method_3_34 rfl rfl ?_
      try rw [if_neg c29_27] at hw29
      subst hw29
      exact J30
  refine Own.lloadN (pc' := 36) d_method_3_35 rfl rfl ?_
  refine Own.bipush (pc' := 38) (v := (28 : Int32)) d_method_3_36 (by decide) rfl ?_
  refine Own.lushr (pc' := 39) d_method_3_38 rfl fun v31 hv31 => ?_
  refine Own.lconst0 (pc' := 40) d_method_3_39 rfl ?_
  obtain ⟨w33, hw33⟩ : ∃ w : Int32, w = (if v31 = (0 : Int64) then w29 else (5 : Int32)) := ⟨_, rfl⟩
  refine Own.join (pc2 := 46) (L2 := #[.val (.long x), .second, .val (.int w33)]) (S2 := []) (fun J34 => ?_) ?_
  · refine Own.lcmp_eq (pc1 := 41) (pc' := 46) (pc2 := 44) d_method_3_40 rfl d_method_3_41 (by decide) (by decide) rfl (fun c40_31 => ?_) (fun c40_31 => ?_)
    · try rw [if_pos c40_31] at hw33
      subst hw33
      exact J34
    · refine Own.iconst (pc' := 45) (v := (5 : Int32)) d_method_3_44 (by decide) rfl ?_
      refine Own.istoreN (pc' := 46) (L1 := #[.val (.long x), .second, .val (.int (5 : Int32))]) d_method_3_45 rfl rfl ?_
      try rw [if_neg c40_31] at hw33
      subst hw33
      exact J34
  refine Own.lloadN (pc' := 47) d_method_3_46 rfl rfl ?_
  refine Own.bipush (pc' := 49) (v := (35 : Int32)) d_method_3_47 (by decide) rfl ?_
  refine Own.lushr (pc' := 50) d_method_3_49 rfl fun v35 hv35 => ?_
  refine Own.lconst0 (pc' := 51) d_method_3_50 rfl ?_
  obtain ⟨w37, hw37⟩ : ∃ w : Int32, w = (if v35 = (0 : Int64) then w33 else (6 : Int32)) := ⟨_, rfl⟩
  refine Own.join (pc2 := 58) (L2 := #[.val (.long x), .second, .val (.int w37)]) (S2 := []) (fun J38 => ?_) ?_
  · refine Own.lcmp_eq (pc1 := 52) (pc' := 58) (pc2 := 55) d_method_3_51 rfl d_method_3_52 (by decide) (by decide) rfl (fun c51_35 => ?_) (fun c51_35 => ?_)
    · try rw [if_pos c51_35] at hw37
      subst hw37
      exact J38
    · refine Own.bipush (pc' := 57) (v := (6 : Int32)) d_method_3_55 (by decide) rfl ?_
      refine Own.istoreN (pc' := 58) (L1 := #[.val (.long x), .second, .val (.int (6 : Int32))]) d_method_3_57 rfl rfl ?_
      try rw [if_neg c51_35] at hw37
      subst hw37
      exact J38
  refine Own.lloadN (pc' := 59) d_method_3_58 rfl rfl ?_
  refine Own.bipush (pc' := 61) (v := (42 : Int32)) d_method_3_59 (by decide) rfl ?_
  refine Own.lushr (pc' := 62) d_method_3_61 rfl fun v39 hv39 => ?_
  refine Own.lconst0 (pc' := 63) d_method_3_62 rfl ?_
  obtain ⟨w41, hw41⟩ : ∃ w : Int32, w = (if v39 = (0 : Int64) then w37 else (7 : Int32)) := ⟨_, rfl⟩
  refine Own.join (pc2 := 70) (L2 := #[.val (.long x), .second, .val (.int w41)]) (S2 := []) (fun J42 => ?_) ?_
  · refine Own.lcmp_eq (pc1 := 64) (pc' := 70) (pc2 := 67) d_method_3_63 rfl d_method_3_64 (by decide) (by decide) rfl (fun c63_39 => ?_) (fun c63_39 => ?_)
    · try rw [if_pos c63_39] at hw41
      subst hw41
      exact J42
    · refine Own.bipush (pc' := 69) (v := (7 : Int32)) d_method_3_67 (by decide) rfl ?_
      refine Own.istoreN (pc' := 70) (L1 := #[.val (.long x), .second, .val (.int (7 : Int32))]) d_method_3_69 rfl rfl ?_
      try rw [if_neg c63_39] at hw41
      subst hw41
      exact J42
  refine Own.lloadN (pc' := 71) d_method_3_70 rfl rfl ?_
  refine Own.bipush (pc' := 73) (v := (49 : Int32)) d_method_3_71 (by decide) rfl ?_
  refine Own.lushr (pc' := 74) d_method_3_73 rfl fun v43 hv43 => ?_
  refine Own.lconst0 (pc' := 75) d_method_3_74 rfl ?_
  obtain ⟨w45, hw45⟩ : ∃ w : Int32, w = (if v43 = (0 : Int64) then w41 else (8 : Int32)) := ⟨_, rfl⟩
  refine Own.join (pc2 := 82) (L2 := #[.val (.long x), .second, .val (.int w45)]) (S2 := []) (fun J46 => ?_) ?_
  · refine Own.lcmp_eq (pc1 := 76) (pc' := 82) (pc2 := 79) d_method_3_75 rfl d_method_3_76 (by decide) (by decide) rfl (fun c75_43 => ?_) (fun c75_43 => ?_)
    · try rw [if_pos c75_43] at hw45
      subst hw45
      exact J46
    · refine Own.bipush (pc' := 81) (v := (8 : Int32)) d_method_3_79 (by decide) rfl ?_
      refine Own.istoreN (pc' := 82) (L1 := #[.val (.long x), .second, .val (.int (8 : Int32))]) d_method_3_81 rfl rfl ?_
      try rw [if_neg c75_43] at hw45
      subst hw45
      exact J46
  refine Own.lloadN (pc' := 83) d_method_3_82 rfl rfl ?_
  refine Own.bipush (pc' := 85) (v := (56 : Int32)) d_method_3_83 (by decide) rfl ?_
  refine Own.lushr (pc' := 86) d_method_3_85 rfl fun v47 hv47 => ?_
  refine Own.lconst0 (pc' := 87) d_method_3_86 rfl ?_
  obtain ⟨w49, hw49⟩ : ∃ w : Int32, w = (if v47 = (0 : Int64) then w45 else (9 : Int32)) := ⟨_, rfl⟩
  refine Own.join (pc2 := 94) (L2 := #[.val (.long x), .second, .val (.int w49)]) (S2 := []) (fun J50 => ?_) ?_
  · refine Own.lcmp_eq (pc1 := 88) (pc' := 94) (pc2 := 91) d_method_3_87 rfl d_method_3_88 (by decide) (by decide) rfl (fun c87_47 => ?_) (fun c87_47 => ?_)
    · try rw [if_pos c87_47] at hw49
      subst hw49
      exact J50
    · refine Own.bipush (pc' := 93) (v := (9 : Int32)) d_method_3_91 (by decide) rfl ?_
      refine Own.istoreN (pc' := 94) (L1 := #[.val (.long x), .second, .val (.int (9 : Int32))]) d_method_3_93 rfl rfl ?_
      try rw [if_neg c87_47] at hw49
      subst hw49
      exact J50
  refine Own.lloadN (pc' := 95) d_method_3_94 rfl rfl ?_
  refine Own.bipush (pc' := 97) (v := (63 : Int32)) d_method_3_95 (by decide) rfl ?_
  refine Own.lushr (pc' := 98) d_method_3_97 rfl fun v51 hv51 => ?_
  refine Own.lconst0 (pc' := 99) d_method_3_98 rfl ?_
  obtain ⟨w53, hw53⟩ : ∃ w : Int32, w = (if v51 = (0 : Int64) then w49 else (10 : Int32)) := ⟨_, rfl⟩
  refine Own.join (pc2 := 106) (L2 := #[.val (.long x), .second, .val (.int w53)]) (S2 := []) (fun J54 => ?_) ?_
  · refine Own.lcmp_eq (pc1 := 100) (pc' := 106) (pc2 := 103) d_method_3_99 rfl d_method_3_100 (by decide) (by decide) rfl (fun c99_51 => ?_) (fun c99_51 => ?_)
    · try rw [if_pos c99_51] at hw53
      subst hw53
      exact J54
    · refine Own.bipush (pc' := 105) (v := (10 : Int32)) d_method_3_103 (by decide) rfl ?_
      refine Own.istoreN (pc' := 106) (L1 := #[.val (.long x), .second, .val (.int (10 : Int32))]) d_method_3_105 rfl rfl ?_
      try rw [if_neg c99_51] at hw53
      subst hw53
      exact J54
  refine Own.iloadN (pc' := 107) d_method_3_106 rfl rfl ?_
  subst hv19
  subst hw21
  subst hv23
  subst hw25
  subst hv27
  subst hw29
  subst hv31
  subst hw33
  subst hv35
  subst hw37
  subst hv39
  subst hw41
  subst hv43
  subst hw45
  subst hv47
  subst hw49
  subst hv51
  subst hw53
  have hq : (if (Jvm.Own.ushrL x (63 : Int32)) = (0 : Int64) then (if (Jvm.Own.ushrL x (56 : Int32)) = (0 : Int64) then (if (Jvm.Own.ushrL x (49 : Int32)) = (0 : Int64) then (if (Jvm.Own.ushrL x (42 : Int32)) = (0 : Int64) then (if (Jvm.Own.ushrL x (35 : Int32)) = (0 : Int64) then (if (Jvm.Own.ushrL x (28 : Int32)) = (0 : Int64) then (if (Jvm.Own.ushrL x (21 : Int32)) = (0 : Int64) then (if (Jvm.Own.ushrL x (14 : Int32)) = (0 : Int64) then (if (Jvm.Own.ushrL x (7 : Int32)) = (0 : Int64) then (1 : Int32) else (2 : Int32)) else (3 : Int32)) else (4 : Int32)) else (5 : Int32)) else (6 : Int32)) else (7 : Int32)) else (8 : Int32)) else (9 : Int32)) else (10 : Int32)) = (own_len x) := by unfold own_len; rfl
  exact Own.ireturnI d_method_3_107 rfl (⟨rfl, _, rfl, hq⟩) (by decide) (by decide)
def own_chk (i : Int32) (tt : Int32) (n : Int32) (x : Int64) (s : Int32) (e : Int32) : Int32 := (if i.toInt < tt.toInt then (if e ≠ s then (0 : Int32) else (1 : Int32)) else (if i.toInt < (tt + n).toInt then (if n.toInt ≤ ((i - tt) + (1 : Int32)).toInt then (if e ≠ ((((Jvm.Own.ushrL x ((7 : Int32) * (i - tt))) &&& (127 : Int64)).toInt32).toInt8.toInt32) then (0 : Int32) else (1 : Int32)) else (if e ≠ (((((Jvm.Own.ushrL x ((7 : Int32) * (i - tt))) &&& (127 : Int64)) ||| (128 : Int64)).toInt32).toInt8.toInt32) then (0 : Int32) else (1 : Int32))) else (if e ≠ s then (0 : Int32) else (1 : Int32))))
set_option maxRecDepth 65536 in
set_option maxHeartbeats 40000000 in
theorem c_own_chk (Z : State) (a0 : Array Value) (hw : ∀ d ∈ tables_1, d.before a0 Z = true) (n0 : Nat) (h : Heap) (hZ0 : n0 ≤ h.size) (b : Addr) (i : Int32) (tt : Int32) (n : Int32) (x : Int64) (s : Int32)   (k : Nat) (hk : i.toInt = (k : Int)) (hk12 : k < 12) (f : Nat → Int32) (A : AB Z h b 12 f) (e : Int32) (he : f k = e) :
    Con Z n0 (⟨"com/example/tokens_over_transports/tokensovertransports/engine/MarkingCodecPutPinLaw", "check", "([BIIIJB)Z"⟩ : MethodName) method_4_code 11 (some .boolean) ({ frames := 0, cells := 0, slots := 0, locals := 0 } : Room) [(.ref b), (.int i), (.int tt), (.int n), (.long x), (.int s)] h (fun v h' => h = h' ∧ ∃ z, v = some (.int z) ∧ z = (own_chk i tt n x s e)) := by
  refine Own.enter (plainFor_of_name pn_1) (L0 := #[.val (.ref b), .val (.int i), .val (.int tt), .val (.int n), .val (.long x), .second, .val (.int s), .unset, .unset, .unset, .unset]) (fun m => by first | (simp [entryFrame, mkF, argsToLocals, Value.category]; done) | rfl) fun K => ?_
  show Go K _ _ _ _ _ _ "com/example/tokens_over_transports/tokensovertransports/engine/MarkingCodecPutPinLaw" "check" _ 0 0 h 0 #[.val (.ref b), .val (.int i), .val (.int tt), .val (.int n), .val (.long x), .second, .val (.int s), .unset, .unset, .unset, .unset] []
  refine Own.iloadN (pc' := 1) d_method_4_0 rfl rfl ?_
  refine Own.iloadN (pc' := 2) d_method_4_1 rfl rfl ?_
  refine Own.icmp_lt (pc' := 12) (pc2 := 5) d_method_4_2 (by decide) (by decide) rfl (fun c2_54 => ?_) (fun c2_54 => ?_)
  · refine Own.iload (pc' := 14) d_method_4_12 rfl rfl ?_
    refine Own.istore (pc' := 16) (L1 := #[.val (.ref b), .val (.int i), .val (.int tt), .val (.int n), .val (.long x), .second, .val (.int s), .val (.int s), .unset, .unset, .unset]) d_method_4_14 rfl rfl ?_
    refine Own.goto (pc' := 60) d_method_4_16 (by decide) (by decide) ?_
    refine Own.aloadN (pc' := 61) d_method_4_60 rfl rfl rfl ?_
    refine Own.iloadN (pc' := 62) d_method_4_61 rfl rfl ?_
    refine Own.baload (pc' := 63) (i := k) d_method_4_62 rfl A hk hk12 ?_
    rw [he]
    show Go K _ _ _ _ _ _ _ _ _ 0 0 h 63 #[.val (.ref b), .val (.int i), .val (.int tt), .val (.int n), .val (.long x), .second, .val (.int s), .val (.int s), .unset, .unset, .unset] [(.int e)]
    refine Own.iload (pc' := 65) d_method_4_63 rfl rfl ?_
    refine Own.icmp_ne (pc' := 72) (pc2 := 68) d_method_4_65 (by decide) (by decide) rfl (fun c65_55 => ?_) (fun c65_55 => ?_)
    · refine Own.iconst (pc' := 73) (v := (0 : Int32)) d_method_4_72 (by decide) rfl ?_
      have hq : (0 : Int32) = (own_chk i tt n x s e) := by unfold own_chk; try rw [if_pos c2_54]; try rw [if_pos c65_55]
      exact Own.ireturnZ (z' := (0 : Int32)) d_method_4_73 rfl (by decide) (⟨rfl, _, rfl, hq⟩) (by decide) (by decide)
    · refine Own.iconst (pc' := 69) (v := (1 : Int32)) d_method_4_68 (by decide) rfl ?_
      refine Own.goto (pc' := 73) d_method_4_69 (by decide) (by decide) ?_
      have hq : (1 : Int32) = (own_chk i tt n x s e) := by unfold own_chk; try rw [if_pos c2_54]; try rw [if_neg c65_55]
      exact Own.ireturnZ (z' := (1 : Int32)) d_method_4_73 rfl (by decide) (⟨rfl, _, rfl, hq⟩) (by decide) (by decide)
  · refine Own.iloadN (pc' := 6) d_method_4_5 rfl rfl ?_
    refine Own.iloadN (pc' := 7) d_method_4_6 rfl rfl ?_
    refine Own.iloadN (pc' := 8) d_method_4_7 rfl rfl ?_
    refine Own.iadd (pc' := 9) d_method_4_8 rfl fun v57 hv57 => ?_
    refine Own.icmp_lt (pc' := 19) (pc2 := 12) d_method_4_9 (by decide) (by decide) rfl (fun c9_57 => ?_) (fun c9_57 => ?_)
    · refine Own.iloadN (pc' := 20) d_method_4_19 rfl rfl ?_
      refine Own.iloadN (pc' := 21) d_method_4_20 rfl rfl ?_
      refine Own.isub (pc' := 22) d_method_4_21 rfl fun v59 hv59 => ?_
      refine Own.istore (pc' := 24) (L1 := #[.val (.ref b), .val (.int i), .val (.int tt), .val (.int n), .val (.long x), .second, .val (.int s), .unset, .val (.int v59), .unset, .unset]) d_method_4_22 rfl rfl ?_
      refine Own.lload (pc' := 26) d_method_4_24 rfl rfl ?_
      refine Own.bipush (pc' := 28) (v := (7 : Int32)) d_method_4_26 (by decide) rfl ?_
      refine Own.iload (pc' := 30) d_method_4_28 rfl rfl ?_
      refine Own.imul (pc' := 31) d_method_4_30 rfl fun v60 hv60 => ?_
      refine Own.lushr (pc' := 32) d_method_4_31 rfl fun v61 hv61 => ?_
      refine Own.ldc2Long (pc' := 35) (v := (127 : Int64)) d_method_4_32 (hw _ (List.mem_of_getElem? (i := 14) rfl)) rfl ?_
      refine Own.land (pc' := 36) d_method_4_35 rfl fun v62 hv62 => ?_
      refine Own.lstore (pc' := 38) (L1 := #[.val (.ref b), .val (.int i), .val (.int tt), .val (.int n), .val (.long x), .second, .val (.int s), .unset, .val (.int v59), .val (.long v62), .second]) d_method_4_36 rfl rfl ?_
      refine Own.iload (pc' := 40) d_method_4_38 rfl rfl ?_
      refine Own.iconst (pc' := 41) (v := (1 : Int32)) d_method_4_40 (by decide) rfl ?_
      refine Own.iadd (pc' := 42) d_method_4_41 rfl fun v63 hv63 => ?_
      refine Own.iloadN (pc' := 43) d_method_4_42 rfl rfl ?_
      refine Own.icmp_ge (pc' := 54) (pc2 := 46) d_method_4_43 (by decide) (by decide) rfl (fun c43_63 => ?_) (fun c43_63 => ?_)
      · refine Own.lload (pc' := 56) d_method_4_54 rfl rfl ?_
        refine Own.l2i (pc' := 57) d_method_4_56 rfl fun v65 hv65 => ?_
        refine Own.i2b (pc' := 58) d_method_4_57 rfl fun v66 hv66 => ?_
        refine Own.istore (pc' := 60) (L1 := #[.val (.ref b), .val (.int i), .val (.int tt), .val (.int n), .val (.long x), .second, .val (.int s), .val (.int v66), .val (.int v59), .val (.long v62), .second]) d_method_4_58 rfl rfl ?_
        refine Own.aloadN (pc' := 61) d_method_4_60 rfl rfl rfl ?_
        refine Own.iloadN (pc' := 62) d_method_4_61 rfl rfl ?_
        refine Own.baload (pc' := 63) (i := k) d_method_4_62 rfl A hk hk12 ?_
        rw [he]
        show Go K _ _ _ _ _ _ _ _ _ 0 0 h 63 #[.val (.ref b), .val (.int i), .val (.int tt), .val (.int n), .val (.long x), .second, .val (.int s), .val (.int v66), .val (.int v59), .val (.long v62), .second] [(.int e)]
        refine Own.iload (pc' := 65) d_method_4_63 rfl rfl ?_
        refine Own.icmp_ne (pc' := 72) (pc2 := 68) d_method_4_65 (by decide) (by decide) rfl (fun c65_66 => ?_) (fun c65_66 => ?_)
        · refine Own.iconst (pc' := 73) (v := (0 : Int32)) d_method_4_72 (by decide) rfl ?_
          subst hv57
          subst hv59
          subst hv60
          subst hv61
          subst hv62
          subst hv63
          subst hv65
          subst hv66
          have hq : (0 : Int32) = (own_chk i tt n x s e) := by unfold own_chk; try rw [if_neg c2_54]; try rw [if_pos c9_57]; try rw [if_pos c43_63]; try rw [if_pos c65_66]
          exact Own.ireturnZ (z' := (0 : Int32)) d_method_4_73 rfl (by decide) (⟨rfl, _, rfl, hq⟩) (by decide) (by decide)
        · refine Own.iconst (pc' := 69) (v := (1 : Int32)) d_method_4_68 (by decide) rfl ?_
          refine Own.goto (pc' := 73) d_method_4_69 (by decide) (by decide) ?_
          subst hv57
          subst hv59
          subst hv60
          subst hv61
          subst hv62
          subst hv63
          subst hv65
          subst hv66
          have hq : (1 : Int32) = (own_chk i tt n x s e) := by unfold own_chk; try rw [if_neg c2_54]; try rw [if_pos c9_57]; try rw [if_pos c43_63]; try rw [if_neg c65_66]
          exact Own.ireturnZ (z' := (1 : Int32)) d_method_4_73 rfl (by decide) (⟨rfl, _, rfl, hq⟩) (by decide) (by decide)
      · refine Own.lload (pc' := 48) d_method_4_46 rfl rfl ?_
        refine Own.ldc2Long (pc' := 51) (v := (128 : Int64)) d_method_4_48 (hw _ (List.mem_of_getElem? (i := 16) rfl)) rfl ?_
        refine Own.lor (pc' := 52) d_method_4_51 rfl fun v68 hv68 => ?_
        refine Own.lstore (pc' := 54) (L1 := #[.val (.ref b), .val (.int i), .val (.int tt), .val (.int n), .val (.long x), .second, .val (.int s), .unset, .val (.int v59), .val (.long v68), .second]) d_method_4_52 rfl rfl ?_
        refine Own.lload (pc' := 56) d_method_4_54 rfl rfl ?_
        refine Own.l2i (pc' := 57) d_method_4_56 rfl fun v69 hv69 => ?_
        refine Own.i2b (pc' := 58) d_method_4_57 rfl fun v70 hv70 => ?_
        refine Own.istore (pc' := 60) (L1 := #[.val (.ref b), .val (.int i), .val (.int tt), .val (.int n), .val (.long x), .second, .val (.int s), .val (.int v70), .val (.int v59), .val (.long v68), .second]) d_method_4_58 rfl rfl ?_
        refine Own.aloadN (pc' := 61) d_method_4_60 rfl rfl rfl ?_
        refine Own.iloadN (pc' := 62) d_method_4_61 rfl rfl ?_
        refine Own.baload (pc' := 63) (i := k) d_method_4_62 rfl A hk hk12 ?_
        rw [he]
        show Go K _ _ _ _ _ _ _ _ _ 0 0 h 63 #[.val (.ref b), .val (.int i), .val (.int tt), .val (.int n), .val (.long x), .second, .val (.int s), .val (.int v70), .val (.int v59), .val (.long v68), .second] [(.int e)]
        refine Own.iload (pc' := 65) d_method_4_63 rfl rfl ?_
        refine Own.icmp_ne (pc' := 72) (pc2 := 68) d_method_4_65 (by decide) (by decide) rfl (fun c65_70 => ?_) (fun c65_70 => ?_)
        · refine Own.iconst (pc' := 73) (v := (0 : Int32)) d_method_4_72 (by decide) rfl ?_
          subst hv57
          subst hv59
          subst hv60
          subst hv61
          subst hv62
          subst hv63
          subst hv68
          subst hv69
          subst hv70
          have hq : (0 : Int32) = (own_chk i tt n x s e) := by unfold own_chk; try rw [if_neg c2_54]; try rw [if_pos c9_57]; try rw [if_neg c43_63]; try rw [if_pos c65_70]
          exact Own.ireturnZ (z' := (0 : Int32)) d_method_4_73 rfl (by decide) (⟨rfl, _, rfl, hq⟩) (by decide) (by decide)
        · refine Own.iconst (pc' := 69) (v := (1 : Int32)) d_method_4_68 (by decide) rfl ?_
          refine Own.goto (pc' := 73) d_method_4_69 (by decide) (by decide) ?_
          subst hv57
          subst hv59
          subst hv60
          subst hv61
          subst hv62
          subst hv63
          subst hv68
          subst hv69
          subst hv70
          have hq : (1 : Int32) = (own_chk i tt n x s e) := by unfold own_chk; try rw [if_neg c2_54]; try rw [if_pos c9_57]; try rw [if_neg c43_63]; try rw [if_neg c65_70]
          exact Own.ireturnZ (z' := (1 : Int32)) d_method_4_73 rfl (by decide) (⟨rfl, _, rfl, hq⟩) (by decide) (by decide)
    · refine Own.iload (pc' := 14) d_method_4_12 rfl rfl ?_
      refine Own.istore (pc' := 16) (L1 := #[.val (.ref b), .val (.int i), .val (.int tt), .val (.int n), .val (.long x), .second, .val (.int s), .val (.int s), .unset, .unset, .unset]) d_method_4_14 rfl rfl ?_
      refine Own.goto (pc' := 60) d_method_4_16 (by decide) (by decide) ?_
      refine Own.aloadN (pc' := 61) d_method_4_60 rfl rfl rfl ?_
      refine Own.iloadN (pc' := 62) d_method_4_61 rfl rfl ?_
      refine Own.baload (pc' := 63) (i := k) d_method_4_62 rfl A hk hk12 ?_
      rw [he]
      show Go K _ _ _ _ _ _ _ _ _ 0 0 h 63 #[.val (.ref b), .val (.int i), .val (.int tt), .val (.int n), .val (.long x), .second, .val (.int s), .val (.int s), .unset, .unset, .unset] [(.int e)]
      refine Own.iload (pc' := 65) d_method_4_63 rfl rfl ?_
      refine Own.icmp_ne (pc' := 72) (pc2 := 68) d_method_4_65 (by decide) (by decide) rfl (fun c65_71 => ?_) (fun c65_71 => ?_)
      · refine Own.iconst (pc' := 73) (v := (0 : Int32)) d_method_4_72 (by decide) rfl ?_
        subst hv57
        have hq : (0 : Int32) = (own_chk i tt n x s e) := by unfold own_chk; try rw [if_neg c2_54]; try rw [if_neg c9_57]; try rw [if_pos c65_71]
        exact Own.ireturnZ (z' := (0 : Int32)) d_method_4_73 rfl (by decide) (⟨rfl, _, rfl, hq⟩) (by decide) (by decide)
      · refine Own.iconst (pc' := 69) (v := (1 : Int32)) d_method_4_68 (by decide) rfl ?_
        refine Own.goto (pc' := 73) d_method_4_69 (by decide) (by decide) ?_
        subst hv57
        have hq : (1 : Int32) = (own_chk i tt n x s e) := by unfold own_chk; try rw [if_neg c2_54]; try rw [if_neg c9_57]; try rw [if_neg c65_71]
        exact Own.ireturnZ (z' := (1 : Int32)) d_method_4_73 rfl (by decide) (⟨rfl, _, rfl, hq⟩) (by decide) (by decide)
theorem own_ushr_c (x : Int64) (y : Int32) (k : Nat) (hy : y.toInt = ((7 * k : Nat) : Int)) (hk : k ≤ 9) : Jvm.Own.ushrL x y = own_c x k := ushrL_bv x y (7 * k) hy (by omega)
theorem own_low (c : Int64) : own_by ((c &&& 127) ||| 128) = own_by (c ||| 128) := by
  unfold own_by; congr 1
  apply Int8.toBitVec_inj.mp
  apply BitVec.eq_of_getLsbD_eq
  intro i hi
  have e : ∀ y : Int64, y.toInt32.toInt8.toBitVec.getLsbD i = y.toBitVec.getLsbD i := fun y => by
    show ((y.toBitVec.signExtend 32).signExtend 8).getLsbD i = _
    rw [BitVec.getLsbD_signExtend, BitVec.getLsbD_signExtend]
    simp [hi, show i < 32 by omega, show i < 64 by omega]
  rw [e, e, Int64.toBitVec_or, Int64.toBitVec_or, Int64.toBitVec_and, BitVec.getLsbD_or, BitVec.getLsbD_or, BitVec.getLsbD_and]
  have : i = 0 ∨ i = 1 ∨ i = 2 ∨ i = 3 ∨ i = 4 ∨ i = 5 ∨ i = 6 ∨ i = 7 := by omega
  rcases this with rfl | rfl | rfl | rfl | rfl | rfl | rfl | rfl <;> simp
theorem own_last (c : Int64) (h : c &&& (-128) = 0) : c &&& 127 = c := by
  have h2 : (c &&& 127) ||| (c &&& (-128)) = c := by
    apply Int64.toBitVec_inj.mp
    rw [Int64.toBitVec_or, Int64.toBitVec_and, Int64.toBitVec_and, ← BitVec.and_or_distrib_left]
    show c.toBitVec &&& BitVec.allOnes 64 = _
    rw [BitVec.and_allOnes]
  rw [h] at h2
  simpa using h2
theorem own_c7 (x : Int64) (j : Nat) : own_c x j &&& (-128) = 0 ↔ own_c x (j + 1) = 0 := by
  have e : (own_c x (j + 1)).toBitVec.toNat = (own_c x j).toBitVec.toNat / 128 := by
    show (x.toBitVec >>> (7 * (j + 1))).toNat = (x.toBitVec >>> (7 * j)).toNat / 128
    rw [BitVec.toNat_ushiftRight, BitVec.toNat_ushiftRight, Nat.shiftRight_eq_div_pow, Nat.shiftRight_eq_div_pow, Nat.mul_add, Nat.pow_add, ← Nat.div_div_eq_div_mul]
  have hl := (own_c x j).toBitVec.isLt
  have e2 : (own_c x j &&& (-128)).toBitVec.toNat = (own_c x j).toBitVec.toNat / 2 ^ 7 * 2 ^ 7 := by
    rw [Int64.toBitVec_and, BitVec.toNat_and, show (-128 : Int64).toBitVec.toNat = (2 ^ (64 - 7) - 1) * 2 ^ 7 by decide, ← Nat.shiftLeft_eq, ← Nat.shiftLeft_eq, ← Nat.shiftRight_eq_div_pow]
    apply Nat.eq_of_testBit_eq
    intro i
    rw [Nat.testBit_and, Nat.testBit_shiftLeft, Nat.testBit_shiftLeft, Nat.testBit_two_pow_sub_one, Nat.testBit_shiftRight]
    by_cases q : 7 ≤ i
    · rw [show 7 + (i - 7) = i by omega]
      by_cases q2 : i < 64
      · simp [q, show i - 7 < 64 - 7 by omega]
      · rw [Nat.testBit_lt_two_pow (Nat.lt_of_lt_of_le hl (Nat.pow_le_pow_right (by omega) (by omega)))]; simp
    · simp [q]
  constructor
  · intro h
    rw [h] at e2
    apply Int64.toBitVec_inj.mp; apply BitVec.eq_of_toNat_eq
    rw [e]; show _ = 0
    have : (0 : Int64).toBitVec.toNat = 0 := rfl
    omega
  · intro h
    rw [h] at e
    apply Int64.toBitVec_inj.mp; apply BitVec.eq_of_toNat_eq
    rw [e2]; show _ = 0
    have : (0 : Int64).toBitVec.toNat = 0 := rfl
    omega
theorem own_mono (x : Int64) (j : Nat) (h : own_c x j = 0) : own_c x (j + 1) = 0 := by rw [← own_c7, h]; decide
theorem own_mono2 (x : Int64) (j d : Nat) (h : own_c x j = 0) : own_c x (j + d) = 0 := by
  induction d with
  | zero => exact h
  | succ d ih => exact own_mono x (j + d) ih
theorem own_lenI (x : Int64) (k : Nat) (hk : k ≤ 9) (h1 : ∀ j, j < k → own_c x j &&& (-128) ≠ 0) (h2 : own_c x k &&& (-128) = 0) : (own_len x).toInt = (k : Int) + 1 := by
  have nz : ∀ j, j < k → own_c x (j + 1) ≠ 0 := fun j hj q => h1 j hj ((own_c7 x j).mpr q)
  have z : ∀ j, k + 1 ≤ j → own_c x j = 0 := fun j hj => by
    have := own_mono2 x (k + 1) (j - (k + 1)) ((own_c7 x k).mp h2)
    rwa [show k + 1 + (j - (k + 1)) = j by omega] at this
  unfold own_len
  rw [own_ushr_c x 63 9 (by decide) (by decide), own_ushr_c x 56 8 (by decide) (by decide), own_ushr_c x 49 7 (by decide) (by decide), own_ushr_c x 42 6 (by decide) (by decide), own_ushr_c x 35 5 (by decide) (by decide), own_ushr_c x 28 4 (by decide) (by decide), own_ushr_c x 21 3 (by decide) (by decide), own_ushr_c x 14 2 (by decide) (by decide), own_ushr_c x 7 1 (by decide) (by decide)]
  by_cases q9 : own_c x 9 = 0
  · rw [if_pos q9]
    have l9 : k < 9 := Nat.lt_of_not_le fun q => nz 8 (by omega) q9
    by_cases q8 : own_c x 8 = 0
    · rw [if_pos q8]
      have l8 : k < 8 := Nat.lt_of_not_le fun q => nz 7 (by omega) q8
      by_cases q7 : own_c x 7 = 0
      · rw [if_pos q7]
        have l7 : k < 7 := Nat.lt_of_not_le fun q => nz 6 (by omega) q7
        by_cases q6 : own_c x 6 = 0
        · rw [if_pos q6]
          have l6 : k < 6 := Nat.lt_of_not_le fun q => nz 5 (by omega) q6
          by_cases q5 : own_c x 5 = 0
          · rw [if_pos q5]
            have l5 : k < 5 := Nat.lt_of_not_le fun q => nz 4 (by omega) q5
            by_cases q4 : own_c x 4 = 0
            · rw [if_pos q4]
              have l4 : k < 4 := Nat.lt_of_not_le fun q => nz 3 (by omega) q4
              by_cases q3 : own_c x 3 = 0
              · rw [if_pos q3]
                have l3 : k < 3 := Nat.lt_of_not_le fun q => nz 2 (by omega) q3
                by_cases q2 : own_c x 2 = 0
                · rw [if_pos q2]
                  have l2 : k < 2 := Nat.lt_of_not_le fun q => nz 1 (by omega) q2
                  by_cases q1 : own_c x 1 = 0
                  · rw [if_pos q1]
                    have l1 : k < 1 := Nat.lt_of_not_le fun q => nz 0 (by omega) q1
                    rw [show k = 0 by omega]; decide
                  · rw [if_neg q1, show k = 1 from Nat.le_antisymm (by omega) (Nat.le_of_not_lt fun q => q1 (z 1 (by omega)))]; decide
                · rw [if_neg q2, show k = 2 from Nat.le_antisymm (by omega) (Nat.le_of_not_lt fun q => q2 (z 2 (by omega)))]; decide
              · rw [if_neg q3, show k = 3 from Nat.le_antisymm (by omega) (Nat.le_of_not_lt fun q => q3 (z 3 (by omega)))]; decide
            · rw [if_neg q4, show k = 4 from Nat.le_antisymm (by omega) (Nat.le_of_not_lt fun q => q4 (z 4 (by omega)))]; decide
          · rw [if_neg q5, show k = 5 from Nat.le_antisymm (by omega) (Nat.le_of_not_lt fun q => q5 (z 5 (by omega)))]; decide
        · rw [if_neg q6, show k = 6 from Nat.le_antisymm (by omega) (Nat.le_of_not_lt fun q => q6 (z 6 (by omega)))]; decide
      · rw [if_neg q7, show k = 7 from Nat.le_antisymm (by omega) (Nat.le_of_not_lt fun q => q7 (z 7 (by omega)))]; decide
    · rw [if_neg q8, show k = 8 from Nat.le_antisymm (by omega) (Nat.le_of_not_lt fun q => q8 (z 8 (by omega)))]; decide
  · rw [if_neg q9, show k = 9 from Nat.le_antisymm (by omega) (Nat.le_of_not_lt fun q => q9 (z 9 (by omega)))]; decide
theorem own_chk1 (i tt n s : Int32) (x : Int64) (t k j : Nat) (f : Nat → Int32) (hi : i.toInt = (j : Int)) (ht : tt.toInt = (t : Int)) (t2 : t ≤ 2) (hj : j < 12) (hn : n.toInt = (k : Int) + 1) (k9 : k ≤ 9) (h2 : own_c x k &&& (-128) = 0) (hf : f j = s) : own_chk i tt n x s (own_end f t k x j) = 1 := by
  have e1 : (tt + n).toInt = (t : Int) + k + 1 := by rw [Jvm.Kit.i32_add (by omega) (by omega)]; omega
  have e2 : t ≤ j → (i - tt).toInt = ((j - t : Nat) : Int) := fun q => by rw [Jvm.Kit.i32_sub (by omega) (by omega)]; omega
  have e3 : t ≤ j → ((i - tt) + 1).toInt = ((j - t : Nat) : Int) + 1 := fun q => by
    have := e2 q
    rw [Jvm.Kit.i32_add (by rw [show (1 : Int32).toInt = 1 by decide]; omega) (by rw [show (1 : Int32).toInt = 1 by decide]; omega), show (1 : Int32).toInt = 1 by decide]; omega
  have e4 : t ≤ j → j - t ≤ 9 → Jvm.Own.ushrL x ((7 : Int32) * (i - tt)) = own_c x (j - t) := fun q r => by
    have := e2 q
    refine own_ushr_c x _ _ ?_ r
    rw [Jvm.Kit.i32_mul (by rw [show (7 : Int32).toInt = 7 by decide]; omega) (by rw [show (7 : Int32).toInt = 7 by decide]; omega), show (7 : Int32).toInt = 7 by decide]; omega
  unfold own_chk
  by_cases q1 : i.toInt < tt.toInt
  · rw [if_pos q1, if_neg]
    unfold own_end ownSet own_pf
    rw [if_neg (by omega), if_neg (by omega), hf]; simp
  · rw [if_neg q1]
    by_cases q2 : i.toInt < (tt + n).toInt
    · rw [if_pos q2, e4 (by omega) (by omega)]
      have e3' := e3 (by omega)
      by_cases q3 : n.toInt ≤ ((i - tt) + 1).toInt
      · rw [if_pos q3, if_neg]
        have : j = t + k := by omega
        subst this
        unfold own_end ownSet
        rw [if_pos rfl, Nat.add_sub_cancel_left, own_last _ h2]; simp [own_by]
      · rw [if_neg q3, if_neg]
        unfold own_end ownSet own_pf
        rw [if_neg (by omega), if_pos (by omega)]
        have := own_low (own_c x (j - t))
        unfold own_by at this ⊢
        rw [this]; simp
    · rw [if_neg q2, if_neg]
      unfold own_end ownSet own_pf
      rw [if_neg (by omega), if_neg (by omega), hf]; simp
set_option maxRecDepth 65536 in
set_option maxHeartbeats 40000000 in
theorem own_law (l : Launch) (Z : State) (a0 : Array Value) (hw : ∀ d ∈ tables_1, d.before a0 Z = true) (ws : List Jvm.Cond) (n0 : Nat) (h : Heap) (hZ0 : n0 ≤ h.size) (p0 : Int64) (p1 : Int32) (p2 : Int32) (p3 : Int32)  :
    MetFree l x (head1 (Jvm.Cond.code x code maxLocals ret :: ws) room_1) (fun a U => a = #[(.long p0), (.int p1), (.int p2), (.int p3)] ∧ Z.Warmed39 U.vm ∧ U.heap = h) (fun _ _ _ _ _ => True) (fun _ U o U' => ∃ v L, o = .returned v ∧ ((fun v _ => v = some (.int 1)) v U'.heap ∧ Fr n0 L) ∧ FrameEnd U o U' L room_1.cells room_1.slots) := by
  refine Own.enterW (Q := fun v _ => v = some (.int 1)) (plainFor_of_name pn_1) (L0 := #[.val (.long p0), .second, .val (.int p1), .val (.int p2), .val (.int p3), .unset, .unset, .unset, .unset, .unset, .unset, .unset, .unset]) (fun m => by first | (simp [entryFrame, mkF, argsToLocals, Value.category, maxLocals]; done) | rfl) fun K => ?_
  show Go K _ _ _ code 13 (some .boolean) "com/example/tokens_over_transports/tokensovertransports/engine/MarkingCodecPutPinLaw" "law" _ 0 0 h 0 #[.val (.long p0), .second, .val (.int p1), .val (.int p2), .val (.int p3), .unset, .unset, .unset, .unset, .unset, .unset, .unset, .unset] []
  refine Own.lloadN (pc' := 1) at_0 rfl rfl ?_
  refine Own.iloadN (pc' := 2) at_1 rfl rfl ?_
  refine Own.bipush (pc' := 4) (v := (63 : Int32)) at_2 (by decide) rfl ?_
  refine Own.iand (pc' := 5) at_4 rfl fun v73 hv73 => ?_
  refine Own.lushr (pc' := 6) at_5 rfl fun v74 hv74 => ?_
  refine Own.lstore (pc' := 8) (L1 := #[.val (.long p0), .second, .val (.int p1), .val (.int p2), .val (.int p3), .val (.long v74), .second, .unset, .unset, .unset, .unset, .unset, .unset]) at_6 rfl rfl ?_
  refine Own.iloadN (pc' := 9) at_8 rfl rfl ?_
  refine Own.ldcInt (pc' := 11) (v := (2147483647 : Int32)) at_9 (hw _ (List.mem_of_getElem? (i := 0) rfl)) rfl ?_
  refine Own.iand (pc' := 12) at_11 rfl fun v75 hv75 => ?_
  refine Own.iconst (pc' := 13) (v := (3 : Int32)) at_12 (by decide) rfl ?_
  refine Own.irem (pc' := 14) at_13 (by decide) rfl fun v76 hv76 => ?_
  refine Own.istore (pc' := 16) (L1 := #[.val (.long p0), .second, .val (.int p1), .val (.int p2), .val (.int p3), .val (.long v74), .second, .val (.int v76), .unset, .unset, .unset, .unset, .unset]) at_14 rfl rfl ?_
  refine Own.iload (pc' := 18) at_16 rfl rfl ?_
  refine Own.i2b (pc' := 19) at_18 rfl fun v77 hv77 => ?_
  refine Own.istore (pc' := 21) (L1 := #[.val (.long p0), .second, .val (.int p1), .val (.int p2), .val (.int p3), .val (.long v74), .second, .val (.int v76), .val (.int v77), .unset, .unset, .unset, .unset]) at_19 rfl rfl ?_
  refine Own.bipush (pc' := 23) (v := (12 : Int32)) at_21 (by decide) rfl ?_
  refine Own.newB (pc' := 25) (n := 12) (cap := 12) at_23 rfl (hw _ (List.mem_of_getElem? (i := 1) rfl)) (by decide) (by decide) (by decide) (by decide) (by decide) fun a78 h79 ga78 Eh79 Aa78 => ?_
  have Ga78 : n0 ≤ a78 := by rw [ga78]; exact hZ0
  have Zh79 : n0 ≤ h79.size := Nat.le_trans hZ0 Eh79.1
  show Go K _ _ _ _ _ _ _ _ _ 1 12 h79 25 #[.val (.long p0), .second, .val (.int p1), .val (.int p2), .val (.int p3), .val (.long v74), .second, .val (.int v76), .val (.int v77), .unset, .unset, .unset, .unset] [(.ref a78)]
  refine Own.dup (pc' := 26) at_25 rfl rfl ?_
  refine Own.iconst (pc' := 27) (v := (0 : Int32)) at_26 (by decide) rfl ?_
  refine Own.iload (pc' := 29) at_27 rfl rfl ?_
  refine Own.bastore (pc' := 30) (i := 0) at_29 rfl Aa78 Ga78 (by decide) (by decide) fun h80 Wh80 Ah80 => ?_
  have Zh80 : n0 ≤ h80.size := by rw [Wh80.size]; exact Zh79
  refine Own.dup (pc' := 31) at_30 rfl rfl ?_
  refine Own.iconst (pc' := 32) (v := (1 : Int32)) at_31 (by decide) rfl ?_
  refine Own.iload (pc' := 34) at_32 rfl rfl ?_
  refine Own.bastore (pc' := 35) (i := 1) at_34 rfl Ah80 Ga78 (by decide) (by decide) fun h81 Wh81 Ah81 => ?_
  have Zh81 : n0 ≤ h81.size := by rw [Wh81.size]; exact Zh80
  refine Own.dup (pc' := 36) at_35 rfl rfl ?_
  refine Own.iconst (pc' := 37) (v := (2 : Int32)) at_36 (by decide) rfl ?_
  refine Own.iload (pc' := 39) at_37 rfl rfl ?_
  refine Own.bastore (pc' := 40) (i := 2) at_39 rfl Ah81 Ga78 (by decide) (by decide) fun h82 Wh82 Ah82 => ?_
  have Zh82 : n0 ≤ h82.size := by rw [Wh82.size]; exact Zh81
  refine Own.dup (pc' := 41) at_40 rfl rfl ?_
  refine Own.iconst (pc' := 42) (v := (3 : Int32)) at_41 (by decide) rfl ?_
  refine Own.iload (pc' := 44) at_42 rfl rfl ?_
  refine Own.bastore (pc' := 45) (i := 3) at_44 rfl Ah82 Ga78 (by decide) (by decide) fun h83 Wh83 Ah83 => ?_
  have Zh83 : n0 ≤ h83.size := by rw [Wh83.size]; exact Zh82
  refine Own.dup (pc' := 46) at_45 rfl rfl ?_
  refine Own.iconst (pc' := 47) (v := (4 : Int32)) at_46 (by decide) rfl ?_
  refine Own.iload (pc' := 49) at_47 rfl rfl ?_
  refine Own.bastore (pc' := 50) (i := 4) at_49 rfl Ah83 Ga78 (by decide) (by decide) fun h84 Wh84 Ah84 => ?_
  have Zh84 : n0 ≤ h84.size := by rw [Wh84.size]; exact Zh83
  refine Own.dup (pc' := 51) at_50 rfl rfl ?_
  refine Own.iconst (pc' := 52) (v := (5 : Int32)) at_51 (by decide) rfl ?_
  refine Own.iload (pc' := 54) at_52 rfl rfl ?_
  refine Own.bastore (pc' := 55) (i := 5) at_54 rfl Ah84 Ga78 (by decide) (by decide) fun h85 Wh85 Ah85 => ?_
  have Zh85 : n0 ≤ h85.size := by rw [Wh85.size]; exact Zh84
  refine Own.dup (pc' := 56) at_55 rfl rfl ?_
  refine Own.bipush (pc' := 58) (v := (6 : Int32)) at_56 (by decide) rfl ?_
  refine Own.iload (pc' := 60) at_58 rfl rfl ?_
  refine Own.bastore (pc' := 61) (i := 6) at_60 rfl Ah85 Ga78 (by decide) (by decide) fun h86 Wh86 Ah86 => ?_
  have Zh86 : n0 ≤ h86.size := by rw [Wh86.size]; exact Zh85
  refine Own.dup (pc' := 62) at_61 rfl rfl ?_
  refine Own.bipush (pc' := 64) (v := (7 : Int32)) at_62 (by decide) rfl ?_
  refine Own.iload (pc' := 66) at_64 rfl rfl ?_
  refine Own.bastore (pc' := 67) (i := 7) at_66 rfl Ah86 Ga78 (by decide) (by decide) fun h87 Wh87 Ah87 => ?_
  have Zh87 : n0 ≤ h87.size := by rw [Wh87.size]; exact Zh86
  refine Own.dup (pc' := 68) at_67 rfl rfl ?_
  refine Own.bipush (pc' := 70) (v := (8 : Int32)) at_68 (by decide) rfl ?_
  refine Own.iload (pc' := 72) at_70 rfl rfl ?_
  refine Own.bastore (pc' := 73) (i := 8) at_72 rfl Ah87 Ga78 (by decide) (by decide) fun h88 Wh88 Ah88 => ?_
  have Zh88 : n0 ≤ h88.size := by rw [Wh88.size]; exact Zh87
  refine Own.dup (pc' := 74) at_73 rfl rfl ?_
  refine Own.bipush (pc' := 76) (v := (9 : Int32)) at_74 (by decide) rfl ?_
  refine Own.iload (pc' := 78) at_76 rfl rfl ?_
  refine Own.bastore (pc' := 79) (i := 9) at_78 rfl Ah88 Ga78 (by decide) (by decide) fun h89 Wh89 Ah89 => ?_
  have Zh89 : n0 ≤ h89.size := by rw [Wh89.size]; exact Zh88
  refine Own.dup (pc' := 80) at_79 rfl rfl ?_
  refine Own.bipush (pc' := 82) (v := (10 : Int32)) at_80 (by decide) rfl ?_
  refine Own.iload (pc' := 84) at_82 rfl rfl ?_
  refine Own.bastore (pc' := 85) (i := 10) at_84 rfl Ah89 Ga78 (by decide) (by decide) fun h90 Wh90 Ah90 => ?_
  have Zh90 : n0 ≤ h90.size := by rw [Wh90.size]; exact Zh89
  refine Own.dup (pc' := 86) at_85 rfl rfl ?_
  refine Own.bipush (pc' := 88) (v := (11 : Int32)) at_86 (by decide) rfl ?_
  refine Own.iload (pc' := 90) at_88 rfl rfl ?_
  refine Own.bastore (pc' := 91) (i := 11) at_90 rfl Ah90 Ga78 (by decide) (by decide) fun h91 Wh91 Ah91 => ?_
  have Zh91 : n0 ≤ h91.size := by rw [Wh91.size]; exact Zh90
  refine Own.astore (pc' := 93) (L1 := #[.val (.long p0), .second, .val (.int p1), .val (.int p2), .val (.int p3), .val (.long v74), .second, .val (.int v76), .val (.int v77), .val (.ref a78), .unset, .unset, .unset]) at_91 rfl rfl rfl ?_
  refine Own.aload (pc' := 95) at_93 rfl rfl rfl ?_
  refine Own.iload (pc' := 97) at_95 rfl rfl ?_
  refine Own.lload (pc' := 99) at_97 rfl rfl ?_
  have hm31 : 0 ≤ v75.toInt := by rw [hv75, Jvm.Kit.i32_mask _ 2147483647 (k := 31) (by decide) (by decide)]; omega
  have hat : 0 ≤ v76.toInt ∧ v76.toInt < 3 := by rw [hv76, Jvm.Kit.i32_rem_nonneg hm31, show (3 : Int32).toInt = 3 by decide]; omega
  obtain ⟨t, ht⟩ : ∃ t : Nat, v76.toInt = (t : Int) := ⟨v76.toInt.toNat, by omega⟩
  obtain ⟨sb, hsb⟩ : ∃ z, z = v77 := ⟨_, rfl⟩
  have esb : v77.toInt8.toInt32 = sb := by rw [hsb, hv77, own_bb]
  have Af := (Ah91).cong (g := fun _ => sb) (fun k hk => by simp only [ownSet, esb]; (repeat' split) <;> first | rfl | omega)
  refine Own.static (pc' := 102) (y := (⟨"com/example/tokens_over_transports/tokensovertransports/engine/MarkingCodec", "put", "([BIJ)I"⟩ : MethodName)) (rm' := ({ frames := 0, cells := 0, slots := 0, locals := 0 } : Room)) (W := 0) (as := [(.ref a78), (.int v76), (.long v74)]) (rest := []) at_99 rfl (hw _ (List.mem_of_getElem? (i := 2) rfl)) (hw _ (List.mem_of_getElem? (i := 3) rfl)) (hw _ (List.mem_of_getElem? (i := 4) rfl)) (hw _ (List.mem_of_getElem? (i := 5) rfl)) (by decide) (c_own_put Z a0 hw n0 h91 Zh91 a78 v76 v74 t (by omega) ht (fun _ => sb) Ga78 Af) rfl rfl (lenOf pd_0 rfl) (by decide) rfl (by decide) (by decide) (by decide) fun r93 h92 qh92 => ?_
  obtain ⟨Kh92, k, v94, e2, k9, hv94, hlt, hend, Ah92⟩ := qh92
  subst e2
  have Zh92 : n0 ≤ h92.size := Nat.le_trans Zh91 Kh92.1
  show Go K _ _ _ _ _ _ _ _ _ 1 12 h92 102 #[.val (.long p0), .second, .val (.int p1), .val (.int p2), .val (.int p3), .val (.long v74), .second, .val (.int v76), .val (.int v77), .val (.ref a78), .unset, .unset, .unset] [(.int v94)]
  refine Own.istore (pc' := 104) (L1 := #[.val (.long p0), .second, .val (.int p1), .val (.int p2), .val (.int p3), .val (.long v74), .second, .val (.int v76), .val (.int v77), .val (.ref a78), .val (.int v94), .unset, .unset]) at_102 rfl rfl ?_
  refine Own.lload (pc' := 106) at_104 rfl rfl ?_
  refine Own.static (pc' := 109) (y := (⟨"com/example/tokens_over_transports/tokensovertransports/engine/MarkingCodecPutPinLaw", "length", "(J)I"⟩ : MethodName)) (rm' := ({ frames := 0, cells := 0, slots := 0, locals := 0 } : Room)) (W := 0) (as := [(.long v74)]) (rest := []) at_106 rfl (hw _ (List.mem_of_getElem? (i := 7) rfl)) (hw _ (List.mem_of_getElem? (i := 8) rfl)) (hw _ (List.mem_of_getElem? (i := 9) rfl)) (hw _ (List.mem_of_getElem? (i := 10) rfl)) (by decide) (c_own_len Z a0 hw n0 h92 Zh92 v74   ) rfl rfl (lenOf pd_1 rfl) (by decide) rfl (by decide) (by decide) (by decide) fun r96 h95 qh95 => ?_
  obtain ⟨e1, v97, e2, hv97⟩ := qh95
  subst e1 e2
  show Go K _ _ _ _ _ _ _ _ _ 1 12 h92 109 #[.val (.long p0), .second, .val (.int p1), .val (.int p2), .val (.int p3), .val (.long v74), .second, .val (.int v76), .val (.int v77), .val (.ref a78), .val (.int v94), .unset, .unset] [(.int v97)]
  have hn : v97.toInt = (k : Int) + 1 := by rw [hv97]; exact own_lenI _ k k9 hlt hend
  refine Own.istore (pc' := 111) (L1 := #[.val (.long p0), .second, .val (.int p1), .val (.int p2), .val (.int p3), .val (.long v74), .second, .val (.int v76), .val (.int v77), .val (.ref a78), .val (.int v94), .val (.int v97), .unset]) at_109 rfl rfl ?_
  refine Own.iload (pc' := 113) at_111 rfl rfl ?_
  refine Own.iload (pc' := 115) at_113 rfl rfl ?_
  refine Own.iload (pc' := 117) at_115 rfl rfl ?_
  refine Own.iadd (pc' := 118) at_117 rfl fun v98 hv98 => ?_
  refine Own.icmp_ne (pc' := 125) (pc2 := 121) at_118 (by decide) (by decide) rfl (fun c118_98 => False.elim (by apply c118_98; apply Int32.toInt_inj.mp; rw [hv94, hv98, Jvm.Kit.i32_add (by omega) (by omega)]; omega)) (fun c118_98 => ?_)
  refine Own.iconst (pc' := 122) (v := (1 : Int32)) at_121 (by decide) rfl ?_
  refine Own.goto (pc' := 126) at_122 (by decide) (by decide) ?_
  refine Own.istore (pc' := 128) (L1 := #[.val (.long p0), .second, .val (.int p1), .val (.int p2), .val (.int p3), .val (.long v74), .second, .val (.int v76), .val (.int v77), .val (.ref a78), .val (.int v94), .val (.int v97), .val (.int (1 : Int32))]) at_126 rfl rfl ?_
  refine Own.iload (pc' := 130) at_128 rfl rfl ?_
  refine Own.if_eq (pc' := 188) (pc2 := 133) at_130 (by decide) (by decide) rfl (fun q => absurd q (by decide)) (fun _ => ?_)
  refine Own.aload (pc' := 135) at_133 rfl rfl rfl ?_
  refine Own.iconst (pc' := 136) (v := (0 : Int32)) at_135 (by decide) rfl ?_
  refine Own.iload (pc' := 138) at_136 rfl rfl ?_
  refine Own.iload (pc' := 140) at_138 rfl rfl ?_
  refine Own.lload (pc' := 142) at_140 rfl rfl ?_
  refine Own.iload (pc' := 144) at_142 rfl rfl ?_
  refine Own.static (pc' := 147) (y := (⟨"com/example/tokens_over_transports/tokensovertransports/engine/MarkingCodecPutPinLaw", "check", "([BIIIJB)Z"⟩ : MethodName)) (rm' := ({ frames := 0, cells := 0, slots := 0, locals := 0 } : Room)) (W := 0) (as := [(.ref a78), (.int (0 : Int32)), (.int v76), (.int v97), (.long v74), (.int v77)]) (rest := []) at_144 rfl (hw _ (List.mem_of_getElem? (i := 11) rfl)) (hw _ (List.mem_of_getElem? (i := 12) rfl)) (hw _ (List.mem_of_getElem? (i := 9) rfl)) (hw _ (List.mem_of_getElem? (i := 13) rfl)) (by decide) (c_own_chk Z a0 hw n0 h92 Zh92 a78 (0 : Int32) v76 v97 v74 v77   0 (by decide) (by decide) (own_end (fun _ => sb) t k v74) Ah92 _ rfl) rfl rfl (lenOf pd_2 rfl) (by decide) rfl (by decide) (by decide) (by decide) fun r102 h101 qh101 => ?_
  obtain ⟨e1, v103, e2, hv103⟩ := qh101
  subst e1 e2
  obtain rfl : v103 = 1 := by rw [hv103]; exact own_chk1 _ _ _ _ _ t k 0 (fun _ => sb) (by decide) ht (by omega) (by decide) hn k9 hend hsb
  show Go K _ _ _ _ _ _ _ _ _ 1 12 h92 147 #[.val (.long p0), .second, .val (.int p1), .val (.int p2), .val (.int p3), .val (.long v74), .second, .val (.int v76), .val (.int v77), .val (.ref a78), .val (.int v94), .val (.int v97), .val (.int (1 : Int32))] [(.int (1 : Int32))]
  refine Own.if_eq (pc' := 188) (pc2 := 150) at_147 (by decide) (by decide) rfl (fun q => absurd q (by decide)) (fun _ => ?_)
  refine Own.aload (pc' := 152) at_150 rfl rfl rfl ?_
  refine Own.iconst (pc' := 153) (v := (1 : Int32)) at_152 (by decide) rfl ?_
  refine Own.iload (pc' := 155) at_153 rfl rfl ?_
  refine Own.iload (pc' := 157) at_155 rfl rfl ?_
  refine Own.lload (pc' := 159) at_157 rfl rfl ?_
  refine Own.iload (pc' := 161) at_159 rfl rfl ?_
  refine Own.static (pc' := 164) (y := (⟨"com/example/tokens_over_transports/tokensovertransports/engine/MarkingCodecPutPinLaw", "check", "([BIIIJB)Z"⟩ : MethodName)) (rm' := ({ frames := 0, cells := 0, slots := 0, locals := 0 } : Room)) (W := 0) (as := [(.ref a78), (.int (1 : Int32)), (.int v76), (.int v97), (.long v74), (.int v77)]) (rest := []) at_161 rfl (hw _ (List.mem_of_getElem? (i := 11) rfl)) (hw _ (List.mem_of_getElem? (i := 12) rfl)) (hw _ (List.mem_of_getElem? (i := 9) rfl)) (hw _ (List.mem_of_getElem? (i := 13) rfl)) (by decide) (c_own_chk Z a0 hw n0 h92 Zh92 a78 (1 : Int32) v76 v97 v74 v77   1 (by decide) (by decide) (own_end (fun _ => sb) t k v74) Ah92 _ rfl) rfl rfl (lenOf pd_2 rfl) (by decide) rfl (by decide) (by decide) (by decide) fun r106 h105 qh105 => ?_
  obtain ⟨e1, v107, e2, hv107⟩ := qh105
  subst e1 e2
  obtain rfl : v107 = 1 := by rw [hv107]; exact own_chk1 _ _ _ _ _ t k 1 (fun _ => sb) (by decide) ht (by omega) (by decide) hn k9 hend hsb
  show Go K _ _ _ _ _ _ _ _ _ 1 12 h92 164 #[.val (.long p0), .second, .val (.int p1), .val (.int p2), .val (.int p3), .val (.long v74), .second, .val (.int v76), .val (.int v77), .val (.ref a78), .val (.int v94), .val (.int v97), .val (.int (1 : Int32))] [(.int (1 : Int32))]
  refine Own.if_eq (pc' := 188) (pc2 := 167) at_164 (by decide) (by decide) rfl (fun q => absurd q (by decide)) (fun _ => ?_)
  refine Own.aload (pc' := 169) at_167 rfl rfl rfl ?_
  refine Own.iconst (pc' := 170) (v := (2 : Int32)) at_169 (by decide) rfl ?_
  refine Own.iload (pc' := 172) at_170 rfl rfl ?_
  refine Own.iload (pc' := 174) at_172 rfl rfl ?_
  refine Own.lload (pc' := 176) at_174 rfl rfl ?_
  refine Own.iload (pc' := 178) at_176 rfl rfl ?_
  refine Own.static (pc' := 181) (y := (⟨"com/example/tokens_over_transports/tokensovertransports/engine/MarkingCodecPutPinLaw", "check", "([BIIIJB)Z"⟩ : MethodName)) (rm' := ({ frames := 0, cells := 0, slots := 0, locals := 0 } : Room)) (W := 0) (as := [(.ref a78), (.int (2 : Int32)), (.int v76), (.int v97), (.long v74), (.int v77)]) (rest := []) at_178 rfl (hw _ (List.mem_of_getElem? (i := 11) rfl)) (hw _ (List.mem_of_getElem? (i := 12) rfl)) (hw _ (List.mem_of_getElem? (i := 9) rfl)) (hw _ (List.mem_of_getElem? (i := 13) rfl)) (by decide) (c_own_chk Z a0 hw n0 h92 Zh92 a78 (2 : Int32) v76 v97 v74 v77   2 (by decide) (by decide) (own_end (fun _ => sb) t k v74) Ah92 _ rfl) rfl rfl (lenOf pd_2 rfl) (by decide) rfl (by decide) (by decide) (by decide) fun r110 h109 qh109 => ?_
  obtain ⟨e1, v111, e2, hv111⟩ := qh109
  subst e1 e2
  obtain rfl : v111 = 1 := by rw [hv111]; exact own_chk1 _ _ _ _ _ t k 2 (fun _ => sb) (by decide) ht (by omega) (by decide) hn k9 hend hsb
  show Go K _ _ _ _ _ _ _ _ _ 1 12 h92 181 #[.val (.long p0), .second, .val (.int p1), .val (.int p2), .val (.int p3), .val (.long v74), .second, .val (.int v76), .val (.int v77), .val (.ref a78), .val (.int v94), .val (.int v97), .val (.int (1 : Int32))] [(.int (1 : Int32))]
  refine Own.if_eq (pc' := 188) (pc2 := 184) at_181 (by decide) (by decide) rfl (fun q => absurd q (by decide)) (fun _ => ?_)
  refine Own.iconst (pc' := 185) (v := (1 : Int32)) at_184 (by decide) rfl ?_
  refine Own.goto (pc' := 189) at_185 (by decide) (by decide) ?_
  refine Own.istore (pc' := 191) (L1 := #[.val (.long p0), .second, .val (.int p1), .val (.int p2), .val (.int p3), .val (.long v74), .second, .val (.int v76), .val (.int v77), .val (.ref a78), .val (.int v94), .val (.int v97), .val (.int (1 : Int32))]) at_189 rfl rfl ?_
  refine Own.iload (pc' := 193) at_191 rfl rfl ?_
  refine Own.if_eq (pc' := 251) (pc2 := 196) at_193 (by decide) (by decide) rfl (fun q => absurd q (by decide)) (fun _ => ?_)
  refine Own.aload (pc' := 198) at_196 rfl rfl rfl ?_
  refine Own.iconst (pc' := 199) (v := (3 : Int32)) at_198 (by decide) rfl ?_
  refine Own.iload (pc' := 201) at_199 rfl rfl ?_
  refine Own.iload (pc' := 203) at_201 rfl rfl ?_
  refine Own.lload (pc' := 205) at_203 rfl rfl ?_
  refine Own.iload (pc' := 207) at_205 rfl rfl ?_
  refine Own.static (pc' := 210) (y := (⟨"com/example/tokens_over_transports/tokensovertransports/engine/MarkingCodecPutPinLaw", "check", "([BIIIJB)Z"⟩ : MethodName)) (rm' := ({ frames := 0, cells := 0, slots := 0, locals := 0 } : Room)) (W := 0) (as := [(.ref a78), (.int (3 : Int32)), (.int v76), (.int v97), (.long v74), (.int v77)]) (rest := []) at_207 rfl (hw _ (List.mem_of_getElem? (i := 11) rfl)) (hw _ (List.mem_of_getElem? (i := 12) rfl)) (hw _ (List.mem_of_getElem? (i := 9) rfl)) (hw _ (List.mem_of_getElem? (i := 13) rfl)) (by decide) (c_own_chk Z a0 hw n0 h92 Zh92 a78 (3 : Int32) v76 v97 v74 v77   3 (by decide) (by decide) (own_end (fun _ => sb) t k v74) Ah92 _ rfl) rfl rfl (lenOf pd_2 rfl) (by decide) rfl (by decide) (by decide) (by decide) fun r115 h114 qh114 => ?_
  obtain ⟨e1, v116, e2, hv116⟩ := qh114
  subst e1 e2
  obtain rfl : v116 = 1 := by rw [hv116]; exact own_chk1 _ _ _ _ _ t k 3 (fun _ => sb) (by decide) ht (by omega) (by decide) hn k9 hend hsb
  show Go K _ _ _ _ _ _ _ _ _ 1 12 h92 210 #[.val (.long p0), .second, .val (.int p1), .val (.int p2), .val (.int p3), .val (.long v74), .second, .val (.int v76), .val (.int v77), .val (.ref a78), .val (.int v94), .val (.int v97), .val (.int (1 : Int32))] [(.int (1 : Int32))]
  refine Own.if_eq (pc' := 251) (pc2 := 213) at_210 (by decide) (by decide) rfl (fun q => absurd q (by decide)) (fun _ => ?_)
  refine Own.aload (pc' := 215) at_213 rfl rfl rfl ?_
  refine Own.iconst (pc' := 216) (v := (4 : Int32)) at_215 (by decide) rfl ?_
  refine Own.iload (pc' := 218) at_216 rfl rfl ?_
  refine Own.iload (pc' := 220) at_218 rfl rfl ?_
  refine Own.lload (pc' := 222) at_220 rfl rfl ?_
  refine Own.iload (pc' := 224) at_222 rfl rfl ?_
  refine Own.static (pc' := 227) (y := (⟨"com/example/tokens_over_transports/tokensovertransports/engine/MarkingCodecPutPinLaw", "check", "([BIIIJB)Z"⟩ : MethodName)) (rm' := ({ frames := 0, cells := 0, slots := 0, locals := 0 } : Room)) (W := 0) (as := [(.ref a78), (.int (4 : Int32)), (.int v76), (.int v97), (.long v74), (.int v77)]) (rest := []) at_224 rfl (hw _ (List.mem_of_getElem? (i := 11) rfl)) (hw _ (List.mem_of_getElem? (i := 12) rfl)) (hw _ (List.mem_of_getElem? (i := 9) rfl)) (hw _ (List.mem_of_getElem? (i := 13) rfl)) (by decide) (c_own_chk Z a0 hw n0 h92 Zh92 a78 (4 : Int32) v76 v97 v74 v77   4 (by decide) (by decide) (own_end (fun _ => sb) t k v74) Ah92 _ rfl) rfl rfl (lenOf pd_2 rfl) (by decide) rfl (by decide) (by decide) (by decide) fun r119 h118 qh118 => ?_
  obtain ⟨e1, v120, e2, hv120⟩ := qh118
  subst e1 e2
  obtain rfl : v120 = 1 := by rw [hv120]; exact own_chk1 _ _ _ _ _ t k 4 (fun _ => sb) (by decide) ht (by omega) (by decide) hn k9 hend hsb
  show Go K _ _ _ _ _ _ _ _ _ 1 12 h92 227 #[.val (.long p0), .second, .val (.int p1), .val (.int p2), .val (.int p3), .val (.long v74), .second, .val (.int v76), .val (.int v77), .val (.ref a78), .val (.int v94), .val (.int v97), .val (.int (1 : Int32))] [(.int (1 : Int32))]
  refine Own.if_eq (pc' := 251) (pc2 := 230) at_227 (by decide) (by decide) rfl (fun q => absurd q (by decide)) (fun _ => ?_)
  refine Own.aload (pc' := 232) at_230 rfl rfl rfl ?_
  refine Own.iconst (pc' := 233) (v := (5 : Int32)) at_232 (by decide) rfl ?_
  refine Own.iload (pc' := 235) at_233 rfl rfl ?_
  refine Own.iload (pc' := 237) at_235 rfl rfl ?_
  refine Own.lload (pc' := 239) at_237 rfl rfl ?_
  refine Own.iload (pc' := 241) at_239 rfl rfl ?_
  refine Own.static (pc' := 244) (y := (⟨"com/example/tokens_over_transports/tokensovertransports/engine/MarkingCodecPutPinLaw", "check", "([BIIIJB)Z"⟩ : MethodName)) (rm' := ({ frames := 0, cells := 0, slots := 0, locals := 0 } : Room)) (W := 0) (as := [(.ref a78), (.int (5 : Int32)), (.int v76), (.int v97), (.long v74), (.int v77)]) (rest := []) at_241 rfl (hw _ (List.mem_of_getElem? (i := 11) rfl)) (hw _ (List.mem_of_getElem? (i := 12) rfl)) (hw _ (List.mem_of_getElem? (i := 9) rfl)) (hw _ (List.mem_of_getElem? (i := 13) rfl)) (by decide) (c_own_chk Z a0 hw n0 h92 Zh92 a78 (5 : Int32) v76 v97 v74 v77   5 (by decide) (by decide) (own_end (fun _ => sb) t k v74) Ah92 _ rfl) rfl rfl (lenOf pd_2 rfl) (by decide) rfl (by decide) (by decide) (by decide) fun r123 h122 qh122 => ?_
  obtain ⟨e1, v124, e2, hv124⟩ := qh122
  subst e1 e2
  obtain rfl : v124 = 1 := by rw [hv124]; exact own_chk1 _ _ _ _ _ t k 5 (fun _ => sb) (by decide) ht (by omega) (by decide) hn k9 hend hsb
  show Go K _ _ _ _ _ _ _ _ _ 1 12 h92 244 #[.val (.long p0), .second, .val (.int p1), .val (.int p2), .val (.int p3), .val (.long v74), .second, .val (.int v76), .val (.int v77), .val (.ref a78), .val (.int v94), .val (.int v97), .val (.int (1 : Int32))] [(.int (1 : Int32))]
  refine Own.if_eq (pc' := 251) (pc2 := 247) at_244 (by decide) (by decide) rfl (fun q => absurd q (by decide)) (fun _ => ?_)
  refine Own.iconst (pc' := 248) (v := (1 : Int32)) at_247 (by decide) rfl ?_
  refine Own.goto (pc' := 252) at_248 (by decide) (by decide) ?_
  refine Own.istore (pc' := 254) (L1 := #[.val (.long p0), .second, .val (.int p1), .val (.int p2), .val (.int p3), .val (.long v74), .second, .val (.int v76), .val (.int v77), .val (.ref a78), .val (.int v94), .val (.int v97), .val (.int (1 : Int32))]) at_252 rfl rfl ?_
  refine Own.iload (pc' := 256) at_254 rfl rfl ?_
  refine Own.if_eq (pc' := 317) (pc2 := 259) at_256 (by decide) (by decide) rfl (fun q => absurd q (by decide)) (fun _ => ?_)
  refine Own.aload (pc' := 261) at_259 rfl rfl rfl ?_
  refine Own.bipush (pc' := 263) (v := (6 : Int32)) at_261 (by decide) rfl ?_
  refine Own.iload (pc' := 265) at_263 rfl rfl ?_
  refine Own.iload (pc' := 267) at_265 rfl rfl ?_
  refine Own.lload (pc' := 269) at_267 rfl rfl ?_
  refine Own.iload (pc' := 271) at_269 rfl rfl ?_
  refine Own.static (pc' := 274) (y := (⟨"com/example/tokens_over_transports/tokensovertransports/engine/MarkingCodecPutPinLaw", "check", "([BIIIJB)Z"⟩ : MethodName)) (rm' := ({ frames := 0, cells := 0, slots := 0, locals := 0 } : Room)) (W := 0) (as := [(.ref a78), (.int (6 : Int32)), (.int v76), (.int v97), (.long v74), (.int v77)]) (rest := []) at_271 rfl (hw _ (List.mem_of_getElem? (i := 11) rfl)) (hw _ (List.mem_of_getElem? (i := 12) rfl)) (hw _ (List.mem_of_getElem? (i := 9) rfl)) (hw _ (List.mem_of_getElem? (i := 13) rfl)) (by decide) (c_own_chk Z a0 hw n0 h92 Zh92 a78 (6 : Int32) v76 v97 v74 v77   6 (by decide) (by decide) (own_end (fun _ => sb) t k v74) Ah92 _ rfl) rfl rfl (lenOf pd_2 rfl) (by decide) rfl (by decide) (by decide) (by decide) fun r128 h127 qh127 => ?_
  obtain ⟨e1, v129, e2, hv129⟩ := qh127
  subst e1 e2
  obtain rfl : v129 = 1 := by rw [hv129]; exact own_chk1 _ _ _ _ _ t k 6 (fun _ => sb) (by decide) ht (by omega) (by decide) hn k9 hend hsb
  show Go K _ _ _ _ _ _ _ _ _ 1 12 h92 274 #[.val (.long p0), .second, .val (.int p1), .val (.int p2), .val (.int p3), .val (.long v74), .second, .val (.int v76), .val (.int v77), .val (.ref a78), .val (.int v94), .val (.int v97), .val (.int (1 : Int32))] [(.int (1 : Int32))]
  refine Own.if_eq (pc' := 317) (pc2 := 277) at_274 (by decide) (by decide) rfl (fun q => absurd q (by decide)) (fun _ => ?_)
  refine Own.aload (pc' := 279) at_277 rfl rfl rfl ?_
  refine Own.bipush (pc' := 281) (v := (7 : Int32)) at_279 (by decide) rfl ?_
  refine Own.iload (pc' := 283) at_281 rfl rfl ?_
  refine Own.iload (pc' := 285) at_283 rfl rfl ?_
  refine Own.lload (pc' := 287) at_285 rfl rfl ?_
  refine Own.iload (pc' := 289) at_287 rfl rfl ?_
  refine Own.static (pc' := 292) (y := (⟨"com/example/tokens_over_transports/tokensovertransports/engine/MarkingCodecPutPinLaw", "check", "([BIIIJB)Z"⟩ : MethodName)) (rm' := ({ frames := 0, cells := 0, slots := 0, locals := 0 } : Room)) (W := 0) (as := [(.ref a78), (.int (7 : Int32)), (.int v76), (.int v97), (.long v74), (.int v77)]) (rest := []) at_289 rfl (hw _ (List.mem_of_getElem? (i := 11) rfl)) (hw _ (List.mem_of_getElem? (i := 12) rfl)) (hw _ (List.mem_of_getElem? (i := 9) rfl)) (hw _ (List.mem_of_getElem? (i := 13) rfl)) (by decide) (c_own_chk Z a0 hw n0 h92 Zh92 a78 (7 : Int32) v76 v97 v74 v77   7 (by decide) (by decide) (own_end (fun _ => sb) t k v74) Ah92 _ rfl) rfl rfl (lenOf pd_2 rfl) (by decide) rfl (by decide) (by decide) (by decide) fun r132 h131 qh131 => ?_
  obtain ⟨e1, v133, e2, hv133⟩ := qh131
  subst e1 e2
  obtain rfl : v133 = 1 := by rw [hv133]; exact own_chk1 _ _ _ _ _ t k 7 (fun _ => sb) (by decide) ht (by omega) (by decide) hn k9 hend hsb
  show Go K _ _ _ _ _ _ _ _ _ 1 12 h92 292 #[.val (.long p0), .second, .val (.int p1), .val (.int p2), .val (.int p3), .val (.long v74), .second, .val (.int v76), .val (.int v77), .val (.ref a78), .val (.int v94), .val (.int v97), .val (.int (1 : Int32))] [(.int (1 : Int32))]
  refine Own.if_eq (pc' := 317) (pc2 := 295) at_292 (by decide) (by decide) rfl (fun q => absurd q (by decide)) (fun _ => ?_)
  refine Own.aload (pc' := 297) at_295 rfl rfl rfl ?_
  refine Own.bipush (pc' := 299) (v := (8 : Int32)) at_297 (by decide) rfl ?_
  refine Own.iload (pc' := 301) at_299 rfl rfl ?_
  refine Own.iload (pc' := 303) at_301 rfl rfl ?_
  refine Own.lload (pc' := 305) at_303 rfl rfl ?_
  refine Own.iload (pc' := 307) at_305 rfl rfl ?_
  refine Own.static (pc' := 310) (y := (⟨"com/example/tokens_over_transports/tokensovertransports/engine/MarkingCodecPutPinLaw", "check", "([BIIIJB)Z"⟩ : MethodName)) (rm' := ({ frames := 0, cells := 0, slots := 0, locals := 0 } : Room)) (W := 0) (as := [(.ref a78), (.int (8 : Int32)), (.int v76), (.int v97), (.long v74), (.int v77)]) (rest := []) at_307 rfl (hw _ (List.mem_of_getElem? (i := 11) rfl)) (hw _ (List.mem_of_getElem? (i := 12) rfl)) (hw _ (List.mem_of_getElem? (i := 9) rfl)) (hw _ (List.mem_of_getElem? (i := 13) rfl)) (by decide) (c_own_chk Z a0 hw n0 h92 Zh92 a78 (8 : Int32) v76 v97 v74 v77   8 (by decide) (by decide) (own_end (fun _ => sb) t k v74) Ah92 _ rfl) rfl rfl (lenOf pd_2 rfl) (by decide) rfl (by decide) (by decide) (by decide) fun r136 h135 qh135 => ?_
  obtain ⟨e1, v137, e2, hv137⟩ := qh135
  subst e1 e2
  obtain rfl : v137 = 1 := by rw [hv137]; exact own_chk1 _ _ _ _ _ t k 8 (fun _ => sb) (by decide) ht (by omega) (by decide) hn k9 hend hsb
  show Go K _ _ _ _ _ _ _ _ _ 1 12 h92 310 #[.val (.long p0), .second, .val (.int p1), .val (.int p2), .val (.int p3), .val (.long v74), .second, .val (.int v76), .val (.int v77), .val (.ref a78), .val (.int v94), .val (.int v97), .val (.int (1 : Int32))] [(.int (1 : Int32))]
  refine Own.if_eq (pc' := 317) (pc2 := 313) at_310 (by decide) (by decide) rfl (fun q => absurd q (by decide)) (fun _ => ?_)
  refine Own.iconst (pc' := 314) (v := (1 : Int32)) at_313 (by decide) rfl ?_
  refine Own.goto (pc' := 318) at_314 (by decide) (by decide) ?_
  refine Own.istore (pc' := 320) (L1 := #[.val (.long p0), .second, .val (.int p1), .val (.int p2), .val (.int p3), .val (.long v74), .second, .val (.int v76), .val (.int v77), .val (.ref a78), .val (.int v94), .val (.int v97), .val (.int (1 : Int32))]) at_318 rfl rfl ?_
  refine Own.iload (pc' := 322) at_320 rfl rfl ?_
  refine Own.if_eq (pc' := 383) (pc2 := 325) at_322 (by decide) (by decide) rfl (fun q => absurd q (by decide)) (fun _ => ?_)
  refine Own.aload (pc' := 327) at_325 rfl rfl rfl ?_
  refine Own.bipush (pc' := 329) (v := (9 : Int32)) at_327 (by decide) rfl ?_
  refine Own.iload (pc' := 331) at_329 rfl rfl ?_
  refine Own.iload (pc' := 333) at_331 rfl rfl ?_
  refine Own.lload (pc' := 335) at_333 rfl rfl ?_
  refine Own.iload (pc' := 337) at_335 rfl rfl ?_
  refine Own.static (pc' := 340) (y := (⟨"com/example/tokens_over_transports/tokensovertransports/engine/MarkingCodecPutPinLaw", "check", "([BIIIJB)Z"⟩ : MethodName)) (rm' := ({ frames := 0, cells := 0, slots := 0, locals := 0 } : Room)) (W := 0) (as := [(.ref a78), (.int (9 : Int32)), (.int v76), (.int v97), (.long v74), (.int v77)]) (rest := []) at_337 rfl (hw _ (List.mem_of_getElem? (i := 11) rfl)) (hw _ (List.mem_of_getElem? (i := 12) rfl)) (hw _ (List.mem_of_getElem? (i := 9) rfl)) (hw _ (List.mem_of_getElem? (i := 13) rfl)) (by decide) (c_own_chk Z a0 hw n0 h92 Zh92 a78 (9 : Int32) v76 v97 v74 v77   9 (by decide) (by decide) (own_end (fun _ => sb) t k v74) Ah92 _ rfl) rfl rfl (lenOf pd_2 rfl) (by decide) rfl (by decide) (by decide) (by decide) fun r141 h140 qh140 => ?_
  obtain ⟨e1, v142, e2, hv142⟩ := qh140
  subst e1 e2
  obtain rfl : v142 = 1 := by rw [hv142]; exact own_chk1 _ _ _ _ _ t k 9 (fun _ => sb) (by decide) ht (by omega) (by decide) hn k9 hend hsb
  show Go K _ _ _ _ _ _ _ _ _ 1 12 h92 340 #[.val (.long p0), .second, .val (.int p1), .val (.int p2), .val (.int p3), .val (.long v74), .second, .val (.int v76), .val (.int v77), .val (.ref a78), .val (.int v94), .val (.int v97), .val (.int (1 : Int32))] [(.int (1 : Int32))]
  refine Own.if_eq (pc' := 383) (pc2 := 343) at_340 (by decide) (by decide) rfl (fun q => absurd q (by decide)) (fun _ => ?_)
  refine Own.aload (pc' := 345) at_343 rfl rfl rfl ?_
  refine Own.bipush (pc' := 347) (v := (10 : Int32)) at_345 (by decide) rfl ?_
  refine Own.iload (pc' := 349) at_347 rfl rfl ?_
  refine Own.iload (pc' := 351) at_349 rfl rfl ?_
  refine Own.lload (pc' := 353) at_351 rfl rfl ?_
  refine Own.iload (pc' := 355) at_353 rfl rfl ?_
  refine Own.static (pc' := 358) (y := (⟨"com/example/tokens_over_transports/tokensovertransports/engine/MarkingCodecPutPinLaw", "check", "([BIIIJB)Z"⟩ : MethodName)) (rm' := ({ frames := 0, cells := 0, slots := 0, locals := 0 } : Room)) (W := 0) (as := [(.ref a78), (.int (10 : Int32)), (.int v76), (.int v97), (.long v74), (.int v77)]) (rest := []) at_355 rfl (hw _ (List.mem_of_getElem? (i := 11) rfl)) (hw _ (List.mem_of_getElem? (i := 12) rfl)) (hw _ (List.mem_of_getElem? (i := 9) rfl)) (hw _ (List.mem_of_getElem? (i := 13) rfl)) (by decide) (c_own_chk Z a0 hw n0 h92 Zh92 a78 (10 : Int32) v76 v97 v74 v77   10 (by decide) (by decide) (own_end (fun _ => sb) t k v74) Ah92 _ rfl) rfl rfl (lenOf pd_2 rfl) (by decide) rfl (by decide) (by decide) (by decide) fun r145 h144 qh144 => ?_
  obtain ⟨e1, v146, e2, hv146⟩ := qh144
  subst e1 e2
  obtain rfl : v146 = 1 := by rw [hv146]; exact own_chk1 _ _ _ _ _ t k 10 (fun _ => sb) (by decide) ht (by omega) (by decide) hn k9 hend hsb
  show Go K _ _ _ _ _ _ _ _ _ 1 12 h92 358 #[.val (.long p0), .second, .val (.int p1), .val (.int p2), .val (.int p3), .val (.long v74), .second, .val (.int v76), .val (.int v77), .val (.ref a78), .val (.int v94), .val (.int v97), .val (.int (1 : Int32))] [(.int (1 : Int32))]
  refine Own.if_eq (pc' := 383) (pc2 := 361) at_358 (by decide) (by decide) rfl (fun q => absurd q (by decide)) (fun _ => ?_)
  refine Own.aload (pc' := 363) at_361 rfl rfl rfl ?_
  refine Own.bipush (pc' := 365) (v := (11 : Int32)) at_363 (by decide) rfl ?_
  refine Own.iload (pc' := 367) at_365 rfl rfl ?_
  refine Own.iload (pc' := 369) at_367 rfl rfl ?_
  refine Own.lload (pc' := 371) at_369 rfl rfl ?_
  refine Own.iload (pc' := 373) at_371 rfl rfl ?_
  refine Own.static (pc' := 376) (y := (⟨"com/example/tokens_over_transports/tokensovertransports/engine/MarkingCodecPutPinLaw", "check", "([BIIIJB)Z"⟩ : MethodName)) (rm' := ({ frames := 0, cells := 0, slots := 0, locals := 0 } : Room)) (W := 0) (as := [(.ref a78), (.int (11 : Int32)), (.int v76), (.int v97), (.long v74), (.int v77)]) (rest := []) at_373 rfl (hw _ (List.mem_of_getElem? (i := 11) rfl)) (hw _ (List.mem_of_getElem? (i := 12) rfl)) (hw _ (List.mem_of_getElem? (i := 9) rfl)) (hw _ (List.mem_of_getElem? (i := 13) rfl)) (by decide) (c_own_chk Z a0 hw n0 h92 Zh92 a78 (11 : Int32) v76 v97 v74 v77   11 (by decide) (by decide) (own_end (fun _ => sb) t k v74) Ah92 _ rfl) rfl rfl (lenOf pd_2 rfl) (by decide) rfl (by decide) (by decide) (by decide) fun r149 h148 qh148 => ?_
  obtain ⟨e1, v150, e2, hv150⟩ := qh148
  subst e1 e2
  obtain rfl : v150 = 1 := by rw [hv150]; exact own_chk1 _ _ _ _ _ t k 11 (fun _ => sb) (by decide) ht (by omega) (by decide) hn k9 hend hsb
  show Go K _ _ _ _ _ _ _ _ _ 1 12 h92 376 #[.val (.long p0), .second, .val (.int p1), .val (.int p2), .val (.int p3), .val (.long v74), .second, .val (.int v76), .val (.int v77), .val (.ref a78), .val (.int v94), .val (.int v97), .val (.int (1 : Int32))] [(.int (1 : Int32))]
  refine Own.if_eq (pc' := 383) (pc2 := 379) at_376 (by decide) (by decide) rfl (fun q => absurd q (by decide)) (fun _ => ?_)
  refine Own.iconst (pc' := 380) (v := (1 : Int32)) at_379 (by decide) rfl ?_
  refine Own.goto (pc' := 384) at_380 (by decide) (by decide) ?_
  refine Own.istore (pc' := 386) (L1 := #[.val (.long p0), .second, .val (.int p1), .val (.int p2), .val (.int p3), .val (.long v74), .second, .val (.int v76), .val (.int v77), .val (.ref a78), .val (.int v94), .val (.int v97), .val (.int (1 : Int32))]) at_384 rfl rfl ?_
  refine Own.iload (pc' := 388) at_386 rfl rfl ?_
  exact Own.ireturnZ (z' := (1 : Int32)) at_388 rfl (by decide) (rfl) (by decide) (by decide)
set_option maxRecDepth 65536 in
set_option maxHeartbeats 40000000 in
theorem comes_1 {Post : Tables → Env → Array Value → State → Outcome → State → Prop} (hpost : ∀ tb e args s v u, (limb_1_1.after args s (.returned v) u = true ∧ limb_1_2.after args s (.returned v) u = true ∧ True) → FrameEnd s (.returned v) u (Jvm.fieldLocs frame_1_writes args s ++ Jvm.arrayLocs frame_1_arrays args s ++ Jvm.staticLocs frame_1_statics s) 16 128 → Post tb e args s (.returned v) u) :
    ArmFor flags0 classFile x code maxLocals ret World_1 tables_1 room_1 Calls_1 rest_1 Pre_1 Post := by
  intro l hfl _ _ p e ha hc hk s m args below hf hA hF happ hP
  obtain ⟨hcalls, hrest, hpre⟩ := hP
  obtain ⟨-, -, -, hnamed, -, -, -, hat⟩ := (Spec.applies_iff hf).mp happ
  obtain ⟨hg, hn⟩ := and_e (Cond.before_iff.mp (show (Jvm.Cond.and given_1 narrow_1).before args s = true from hpre))
  obtain ⟨hcnt, hg0⟩ := and_e hg
  obtain ⟨w0, w1, w2, w3, rfl⟩ : ∃ w0 w1 w2 w3 : Value, args = #[w0, w1, w2, w3] := by
    have hs : args.size = 4 := by simpa [Cond.value, given_1] using hcnt
    obtain ⟨L⟩ := args
    match L, hs with
    | [w0, w1, w2, w3], _ => exact ⟨w0, w1, w2, w3, rfl⟩
  have hw := fun d (hd : d ∈ tables_1) => atoms_spec (ws := Jvm.Cond.code x code maxLocals ret :: tables_1) hat d (List.mem_cons_of_mem _ hd)
  obtain ⟨ha0, hg1⟩ := and_e hg0
  obtain ⟨i0, e0⟩ := isL_v ha0
  obtain rfl : w0 = (.long i0) := Option.some.inj e0
  obtain ⟨ha1, hg2⟩ := and_e hg1
  obtain ⟨i1, e1⟩ := is_v ha1
  obtain rfl : w1 = (.int i1) := Option.some.inj e1
  obtain ⟨ha2, hg3⟩ := and_e hg2
  obtain ⟨i2, e2⟩ := is_v ha2
  obtain rfl : w2 = (.int i2) := Option.some.inj e2
  obtain ⟨i3, e3⟩ := is_v hg3
  obtain rfl : w3 = (.int i3) := Option.some.inj e3
  obtain ⟨n, o, h1, h2, h3, _, L, rfl, ⟨rfl, N⟩, hq⟩ := own_law l s _ hw tables_1 s.heap.size s.heap (Nat.le_refl _) i0 i1 i2 i3  p e ha hc hk s m _ below hf ((Spec.applies_iff_loose hf).mp happ).1 ⟨rfl, State.Warmed39.refl s, rfl⟩ trivial
  refine ⟨n, _, h1, h2, h3, hpost _ _ _ _ _ _ ⟨Cond.after_iff.mpr rfl, Cond.after_iff.mpr (eq_i res_at (Term.int_eval (1)) rfl), trivial⟩ ⟨hq.1, hq.2.1, (hq.2.2.sift fun y hy => Or.inr (N y hy)).mono (by decide) (by decide)⟩⟩
theorem main_1_1 : Claimed_1_1 := comes_1 fun _ _ _ _ _ _ h hF => ⟨h.1, hF⟩
theorem main_1_2 : Claimed_1_2 := comes_1 fun _ _ _ _ _ _ h hF => ⟨h.2.1, hF⟩
end Jvm.Pilot.@@N@@
namespace Jvm.Pilot.@@N@@
open Jvm Jvm.ClassFile Sem Op Lib Jvm.Free Jvm.Stand Jvm.Pilot.@@N@@.Jvm.D
/-! MADE BY PROGRAM (witnessworld.py) out of the Statement's table words and the real class files: 9 classes; the members and pool entries that the words name. The judged class is class 1, her method 1. -/
namespace start1
open Jvm.ClassFile
def u (s : String) : CpInfo := .utf8 (stringToUtf16 s)
/-- a pool by its gaps: so many unusable entries, then the entry; so many at the end -/
def gap : Nat → List CpInfo → List CpInfo
  | 0, r => r
  | n + 1, r => .unusable :: gap n r
def poolList (es : List (Nat × CpInfo)) (last : Nat) : List CpInfo := es.foldr (fun e r => gap e.1 (e.2 :: r)) (gap last [])
def pool (es : List (Nat × CpInfo)) (last : Nat) : Array CpInfo := ⟨poolList es last⟩
def fileOf (pool : Array CpInfo) (this : Nat) (attrs : Array Attribute := #[]) (ms : Array MethodInfo := #[]) (fl : Nat := 33) (sup : Nat := 0) (ifs : Array Nat := #[]) (fds : Array FieldInfo := #[]) : ClassFile where
  minorVersion := 0
  majorVersion := 65
  constantPool := pool
  accessFlags := fl
  thisClass := this
  superClass := sup
  interfaces := ifs
  fields := fds
  methods := ms
  attributes := attrs
def plain (name : String) (sup : Option ClassId) : Class where
  name := name
  kind := .ordinary
  loader := none
  accessFlags := 33
  super := sup
  interfaces := #[]
  cf := none
  fields := #[]
  methods := #[]
  instanceTypes := #[]
  staticTypes := #[]
  resolved := #[]
  callSites := []
  init := .initialized
  statics := none
  mirror := none

def pool0 : Array CpInfo := pool [(5, u "<init>"), (0, u "()V"), (1, .class_ 10), (1, u "java/lang/Object")] 113

def k0m0 : Method := { name := "<init>", desc := "()V", sig := { parameters := [], returnType := none }, accessFlags := 1, code := none }
/-- java/lang/Object -/
def k0 : Class := { plain "java/lang/Object" none with
  accessFlags := 33
  interfaces := #[]
  cf := some (fileOf pool0 8 #[] #[{ accessFlags := 1, nameIndex := 5, descriptorIndex := 6, attributes := #[] }] 33 0 #[] #[])
  fields := #[]
  methods := #[k0m0]
  instanceTypes := #[]
  staticTypes := #[]
  resolved := Array.replicate 124 none
  statics := none }

def pool1 : Array CpInfo := pool [(2, .class_ 4), (1, u "java/lang/Object"), (0, u "<init>"), (0, u "()V"), (0, .integer 2147483647), (0, .methodref 9 10), (0, .class_ 11), (0, .nameAndType 12 13), (0, u "com/example/tokens_over_transports/tokensovertransports/engine/MarkingCodec"), (0, u "put"), (0, u "([BIJ)I"), (0, .methodref 15 16), (0, .class_ 17), (0, .nameAndType 18 19), (0, u "com/example/tokens_over_transports/tokensovertransports/engine/MarkingCodecPutPinLaw"), (0, u "length"), (0, u "(J)I"), (0, .methodref 15 21), (0, .nameAndType 22 23), (0, u "check"), (0, u "([BIIIJB)Z"), (0, .long 127), (1, .long 128), (3, u "law"), (0, u "(JIII)Z")] 5

def k1m0 : Method := { name := "<init>", desc := "()V", sig := { parameters := [], returnType := none }, accessFlags := 1, code := none }
def k1c1 : Code := { maxStack := 7, maxLocals := 13, code := code, exceptionTable := #[], attributes := #[] }
def k1m1 : Method := { name := "law", desc := "(JIII)Z", sig := { parameters := [.long, .int, .int, .int], returnType := some .boolean }, accessFlags := 9, code := some k1c1 }
def k1c2 : Code := { maxStack := 4, maxLocals := 3, code := method_3_code, exceptionTable := #[], attributes := #[] }
def k1m2 : Method := { name := "length", desc := "(J)I", sig := { parameters := [.long], returnType := some .int }, accessFlags := 10, code := some k1c2 }
def k1c3 : Code := { maxStack := 4, maxLocals := 11, code := method_4_code, exceptionTable := #[], attributes := #[] }
def k1m3 : Method := { name := "check", desc := "([BIIIJB)Z", sig := { parameters := [(.array .byte), .int, .int, .int, .long, .byte], returnType := some .boolean }, accessFlags := 10, code := some k1c3 }
/-- com/example/tokens_over_transports/tokensovertransports/engine/MarkingCodecPutPinLaw -/
def k1 : Class := { plain "com/example/tokens_over_transports/tokensovertransports/engine/MarkingCodecPutPinLaw" (some 0) with
  accessFlags := 49
  interfaces := #[]
  cf := some (fileOf pool1 15 #[] #[{ accessFlags := 1, nameIndex := 5, descriptorIndex := 6, attributes := #[] }, { accessFlags := 9, nameIndex := 30, descriptorIndex := 31, attributes := #[] }, { accessFlags := 10, nameIndex := 18, descriptorIndex := 19, attributes := #[] }, { accessFlags := 10, nameIndex := 22, descriptorIndex := 23, attributes := #[] }] 49 2 #[] #[])
  fields := #[]
  methods := #[k1m0, k1m1, k1m2, k1m3]
  instanceTypes := #[]
  staticTypes := #[]
  resolved := Array.replicate 37 none
  statics := none }

def pool2 : Array CpInfo := pool [(2, .class_ 4), (1, u "java/lang/Object"), (3, .class_ 10), (1, u "com/example/tokens_over_transports/tokensovertransports/engine/MarkingCodec"), (0, u "tokens"), (0, u "[Ljava/lang/Object;"), (8, u "tokenIndex"), (0, u "[I"), (2, u "entries"), (0, u "[J"), (2, u "decodedEntries"), (2, u "places"), (0, u "Ljava/util/List;"), (8, u "decodedEntryStarts"), (2, u "decodedByteStarts"), (7, u "keyEnd"), (0, u "I"), (11, u "entryCount"), (63, u "tokenCount"), (0, .class_ 132), (0, u "com/example/tokens_over_transports/tokensovertransports/engine/MarkingCodec$Reader"), (22, u "decodedBytes"), (0, u "[B"), (23, u "emptyEntries"), (16, u "put"), (0, u "([BIJ)I"), (11, .long 18446744073709551488), (1, .long 128), (1, u "MAX_VARINT_BYTES")] 31

def k2c0 : Code := { maxStack := 6, maxLocals := 7, code := prog_27_method_16_code, exceptionTable := #[], attributes := #[] }
def k2m0 : Method := { name := "put", desc := "([BIJ)I", sig := { parameters := [(.array .byte), .int, .long], returnType := some .int }, accessFlags := 8, code := some k2c0 }
/-- com/example/tokens_over_transports/tokensovertransports/engine/MarkingCodec -/
def k2 : Class := { plain "com/example/tokens_over_transports/tokensovertransports/engine/MarkingCodec" (some 0) with
  accessFlags := 32
  interfaces := #[]
  cf := some (fileOf pool2 8 #[.nestMembers #[131]] #[{ accessFlags := 8, nameIndex := 197, descriptorIndex := 198, attributes := #[] }] 32 2 #[] #[{ accessFlags := 26, nameIndex := 214, descriptorIndex := 54, attributes := #[] }, { accessFlags := 18, nameIndex := 32, descriptorIndex := 33, attributes := #[] }, { accessFlags := 2, nameIndex := 11, descriptorIndex := 12, attributes := #[] }, { accessFlags := 2, nameIndex := 130, descriptorIndex := 54, attributes := #[] }, { accessFlags := 2, nameIndex := 21, descriptorIndex := 22, attributes := #[] }, { accessFlags := 2, nameIndex := 53, descriptorIndex := 54, attributes := #[] }, { accessFlags := 2, nameIndex := 25, descriptorIndex := 26, attributes := #[] }, { accessFlags := 2, nameIndex := 66, descriptorIndex := 54, attributes := #[] }, { accessFlags := 2, nameIndex := 180, descriptorIndex := 54, attributes := #[] }, { accessFlags := 2, nameIndex := 155, descriptorIndex := 156, attributes := #[] }, { accessFlags := 2, nameIndex := 29, descriptorIndex := 26, attributes := #[] }, { accessFlags := 18, nameIndex := 42, descriptorIndex := 22, attributes := #[] }, { accessFlags := 18, nameIndex := 45, descriptorIndex := 22, attributes := #[] }])
  fields := #[{ name := "MAX_VARINT_BYTES", type := .int, accessFlags := 26, slot := 0, constantValue := 0 }, { name := "places", type := (.object "java/util/List"), accessFlags := 18, slot := 0, constantValue := 0 }, { name := "tokens", type := (.array (.object "java/lang/Object")), accessFlags := 2, slot := 1, constantValue := 0 }, { name := "tokenCount", type := .int, accessFlags := 2, slot := 2, constantValue := 0 }, { name := "tokenIndex", type := (.array .int), accessFlags := 2, slot := 3, constantValue := 0 }, { name := "keyEnd", type := .int, accessFlags := 2, slot := 4, constantValue := 0 }, { name := "entries", type := (.array .long), accessFlags := 2, slot := 5, constantValue := 0 }, { name := "entryCount", type := .int, accessFlags := 2, slot := 6, constantValue := 0 }, { name := "emptyEntries", type := .int, accessFlags := 2, slot := 7, constantValue := 0 }, { name := "decodedBytes", type := (.array .byte), accessFlags := 2, slot := 8, constantValue := 0 }, { name := "decodedEntries", type := (.array .long), accessFlags := 2, slot := 9, constantValue := 0 }, { name := "decodedEntryStarts", type := (.array .int), accessFlags := 18, slot := 10, constantValue := 0 }, { name := "decodedByteStarts", type := (.array .int), accessFlags := 18, slot := 11, constantValue := 0 }]
  methods := #[k2m0]
  instanceTypes := #[(.object "java/util/List"), (.array (.object "java/lang/Object")), .int, (.array .int), .int, (.array .long), .int, .int, (.array .byte), (.array .long), (.array .int), (.array .int)]
  staticTypes := #[.int]
  resolved := Array.replicate 246 none
  statics := none }

def pool3 : Array CpInfo := pool [(1, u "java/lang/Cloneable"), (0, .class_ 1), (0, u "java/lang/Object"), (0, .class_ 3)] 3

/-- java/lang/Cloneable -/
def k3 : Class := { plain "java/lang/Cloneable" (some 0) with
  accessFlags := 1537
  interfaces := #[]
  cf := some (fileOf pool3 2 #[] #[] 1537 4 #[] #[])
  fields := #[]
  methods := #[]
  instanceTypes := #[]
  staticTypes := #[]
  resolved := Array.replicate 8 none
  statics := none }

def pool4 : Array CpInfo := pool [(1, u "java/io/Serializable"), (0, .class_ 1), (0, u "java/lang/Object"), (0, .class_ 3)] 3

/-- java/io/Serializable -/
def k4 : Class := { plain "java/io/Serializable" (some 0) with
  accessFlags := 1537
  interfaces := #[]
  cf := some (fileOf pool4 2 #[] #[] 1537 4 #[] #[])
  fields := #[]
  methods := #[]
  instanceTypes := #[]
  staticTypes := #[]
  resolved := Array.replicate 8 none
  statics := none }

/-- the primitive byte -/
def k5 : Class := { plain "byte" none with kind := .primitive 'B', accessFlags := 0x411 }
/-- [B -/
def k6 : Class := { plain "[B" (some 0) with kind := .array 5 .byte, interfaces := #[3, 4], accessFlags := 1041 }

/-- the primitive int -/
def k7 : Class := { plain "int" none with kind := .primitive 'I', accessFlags := 0x411 }
/-- [I -/
def k8 : Class := { plain "[I" (some 0) with kind := .array 7 .int, interfaces := #[3, 4], accessFlags := 1041 }

def heap : Heap := #[]
def classes : Array Class := #[k0, k1, k2, k3, k4, k5, k6, k7, k8]
def interned : List (Array UInt16 × Addr) := []
def slotsUsed : Nat := 0
def theMethod : MethodId := ⟨1, 1⟩
def args0 : Array Value := #[.long 500, .int 3, .int 7, .int 9]
def aboutOver (below : List Frame) : State where
  vm := { classes := classes, interned := interned.toArray }
  heap := heap
  slotsUsed := slotsUsed
  threads := #[{ frames := .invoking theMethod args0 :: below }]
def below0 : List Frame := [.native { method := ⟨0, 0⟩, args := #[] }]
def about1 : State := aboutOver below0
def p0 : Program := .bare "" "" ""
def e0 : Env := launch0.env 0 0 0
theorem w_frames : about1.frames = Frame.invoking theMethod args0 :: below0 := rfl
set_option maxRecDepth 65536 in
theorem w_args : argsFit about1.vm theMethod args0 = true := by decide +kernel
set_option maxRecDepth 65536 in
theorem w_heap : heapFits about1 = true := by decide +kernel
set_option maxRecDepth 65536 in
theorem w_runnable : about1.curStatus? = some .runnable := by decide +kernel
set_option maxRecDepth 65536 in
theorem w_alone : about1.alone = true := by decide +kernel
set_option maxRecDepth 65536 in
theorem w_named : about1.methodNamed? x = some theMethod := by decide +kernel
set_option maxRecDepth 65536 in
theorem w_hears : about1.hears theMethod below0 = true := by decide +kernel
set_option maxRecDepth 65536 in
theorem w_ripe : about1.ripe theMethod args0 below0 = true := by decide +kernel
theorem w_running : about1.status = .running := rfl
set_option maxRecDepth 65536 in
theorem w_room : about1.hasRoom e0.platform room_1 = true :=
  launch0.hasRoom_least _ room_1 (by decide +kernel) (by decide +kernel) (by decide +kernel) (by decide +kernel) (by decide +kernel) (by decide +kernel)
theorem allAtoms_all (ts : List Jvm.Cond) (a : Array Jvm.Value) (st : Jvm.State) : (allAtoms ts).before a st = ts.all (fun c => c.before a st) := by
  induction ts with
  | nil => rfl
  | cons c t ih =>
    show (Jvm.Cond.and c (allAtoms t)).before a st = _
    rw [Jvm.Cond.before_and, ih, List.all_cons]
def words1 : List Jvm.Cond := Jvm.Cond.code x code maxLocals ret :: tables_1
/-- a 'code' word, met by the world's own term for the bytes: nothing is compared byte by byte -/
theorem code_word {y : MethodName} {bytes : ByteArray} {mx : Nat} {rt : Option FieldType} {a : Array Value} {s : State} {m : MethodId} {meth : Method} {c : Code} (h1 : s.methodNamed? y = some m) (h2 : s.vm.method? m = some meth) (h3 : meth.code = some c) (h4 : c.code = bytes)
    (h5 : (c.maxLocals == mx && c.exceptionTable.isEmpty && decide (c.maxStack ≤ mostOperands) && decide (meth.sig.returnType = rt) && !meth.locks && decide (parseMethodDescriptor y.desc = some meth.sig)) = true) : (Jvm.Cond.code y bytes mx rt).before a s = true := by
  simp only [Bool.and_eq_true, beq_iff_eq, Bool.not_eq_true', decide_eq_true_eq] at h5
  obtain ⟨⟨⟨⟨⟨g1, g2⟩, g3⟩, g4⟩, g5⟩, g6⟩ := h5
  simp [Cond.before, Cond.holds, Cond.value, h1, h2, h3, h4, g1, g2, g3, g4, g5, g6]
def isCode : Jvm.Cond → Bool
  | .code _ _ _ _ => true
  | _ => false
theorem all_split {L : List Jvm.Cond} {P : Jvm.Cond → Bool} (h1 : L.all (fun c => isCode c || P c) = true) (h2 : ∀ c ∈ L.filter isCode, P c = true) : L.all P = true := by
  refine List.all_eq_true.mpr fun c hc => ?_
  have h := List.all_eq_true.mp h1 c hc
  rcases Bool.eq_false_or_eq_true (isCode c) with hi | hi
  · exact h2 c (List.mem_filter.mpr ⟨hc, hi⟩)
  · simpa [hi] using h
set_option maxRecDepth 65536 in
theorem w_c0 : (Jvm.Cond.code x code maxLocals ret).before args0 about1 = true := code_word (m := ⟨1, 1⟩) (meth := k1m1) (c := k1c1) (by decide +kernel) rfl rfl rfl (by decide +kernel)
set_option maxRecDepth 65536 in
theorem w_c1 : (Jvm.Cond.code ({ cls := "com/example/tokens_over_transports/tokensovertransports/engine/MarkingCodec", name := "put", desc := "([BIJ)I" } : Jvm.MethodName) prog_27_method_16_code (7 : Nat) (Option.some Jvm.ClassFile.FieldType.int)).before args0 about1 = true := code_word (m := ⟨2, 0⟩) (meth := k2m0) (c := k2c0) (by decide +kernel) rfl rfl rfl (by decide +kernel)
set_option maxRecDepth 65536 in
theorem w_c2 : (Jvm.Cond.code ({ cls := "com/example/tokens_over_transports/tokensovertransports/engine/MarkingCodecPutPinLaw", name := "length", desc := "(J)I" } : Jvm.MethodName) method_3_code (3 : Nat) (Option.some Jvm.ClassFile.FieldType.int)).before args0 about1 = true := code_word (m := ⟨1, 2⟩) (meth := k1m2) (c := k1c2) (by decide +kernel) rfl rfl rfl (by decide +kernel)
set_option maxRecDepth 65536 in
theorem w_c3 : (Jvm.Cond.code ({ cls := "com/example/tokens_over_transports/tokensovertransports/engine/MarkingCodecPutPinLaw", name := "check", desc := "([BIIIJB)Z" } : Jvm.MethodName) method_4_code (11 : Nat) (Option.some Jvm.ClassFile.FieldType.boolean)).before args0 about1 = true := code_word (m := ⟨1, 3⟩) (meth := k1m3) (c := k1c3) (by decide +kernel) rfl rfl rfl (by decide +kernel)
def codes1 : List Jvm.Cond := [Jvm.Cond.code x code maxLocals ret, Jvm.Cond.code ({ cls := "com/example/tokens_over_transports/tokensovertransports/engine/MarkingCodec", name := "put", desc := "([BIJ)I" } : Jvm.MethodName) prog_27_method_16_code (7 : Nat) (Option.some Jvm.ClassFile.FieldType.int), Jvm.Cond.code ({ cls := "com/example/tokens_over_transports/tokensovertransports/engine/MarkingCodecPutPinLaw", name := "length", desc := "(J)I" } : Jvm.MethodName) method_3_code (3 : Nat) (Option.some Jvm.ClassFile.FieldType.int), Jvm.Cond.code ({ cls := "com/example/tokens_over_transports/tokensovertransports/engine/MarkingCodecPutPinLaw", name := "check", desc := "([BIIIJB)Z" } : Jvm.MethodName) method_4_code (11 : Nat) (Option.some Jvm.ClassFile.FieldType.boolean)]
set_option maxRecDepth 65536 in
theorem codes_eq : words1.filter isCode = codes1 := rfl
theorem w_codes : ∀ c ∈ words1.filter isCode, c.before args0 about1 = true := by
  rw [codes_eq]
  intro c hc
  simp only [codes1, List.mem_cons, List.not_mem_nil, or_false] at hc
  rcases hc with rfl | rfl | rfl | rfl
  · exact w_c0
  · exact w_c1
  · exact w_c2
  · exact w_c3
set_option maxRecDepth 65536 in
theorem w_t1 : words1.all (fun c => isCode c || c.before args0 about1) = true := by decide +kernel
theorem w_tables : (allAtoms (Jvm.Cond.code x code maxLocals ret :: tables_1)).before args0 about1 = true := by
  rw [allAtoms_all]
  show words1.all (fun c => c.before args0 about1) = true
  refine all_split ?_ w_codes
  rw [w_t1]
set_option maxRecDepth 65536 in
theorem w_case : (Jvm.Cond.and given_1 narrow_1).before args0 about1 = true := by decide +kernel
theorem w_applies : (headSpec (Jvm.Cond.code x code maxLocals ret :: tables_1) room_1).applies x e0.platform about1 = true :=
  (Spec.applies_iff w_frames).mpr ⟨w_running, w_runnable, w_alone, w_named, w_hears, w_ripe, w_room, w_tables⟩
theorem atStart : AtStart classFile x code maxLocals ret World_1 tables_1 room_1 Calls_1 rest_1 Pre_1 launch0 p0 e0 about1 theMethod args0 below0 :=
  ⟨lists_1, trivial, launch0.admits_env _ _ _, launch0.least_env, fairChoices_fair.cas, fairChoices_fair.clock, w_frames, w_args, w_heap, w_applies, trivial, trivial, w_case⟩
end start1
theorem witness_1 : WitnessClaimed_1 := ⟨start1.p0, start1.e0, start1.about1, start1.theMethod, start1.args0, start1.below0, start1.atStart⟩
end Jvm.Pilot.@@N@@
