import JvmDerived
import JvmDerived.Pilot.@@N@@Statement
import JvmDerived.Pilot.@@N@@Code
set_option linter.unusedVariables false
set_option linter.unusedSimpArgs false
namespace Jvm.Own
open Sem ClassFile Op Lib Jvm.Stand Jvm.Free Jvm.LawKit Jvm.RoadKit
abbrev Ctx := Program × Launch × Env × State × MethodId × Array Value × List Frame × Method × Code
def ushr (x y : Int32) : Int32 := (x.toUInt32 >>> (y &&& 31).toUInt32).toInt32
def ushrL (x : Int64) (y : Int32) : Int64 := (x.toUInt64 >>> (y &&& 63).toInt64.toUInt64).toInt64
/-- from here the body comes to its return, and Q holds of what it returns and of the heap -/
def Go (K : Ctx) (rm : Room) (Z : State) (n0 : Nat) (bs : ByteArray) (ml : Nat) (ret : Option FieldType) (own nm : String) (Q : Option Value → Heap → Prop) (kc ks : Nat) (h : Heap) (pc : Nat) (L : Array Slot) (S : List Value) : Prop :=
  match K with
  | (p, l, e, s, m, args, below, meth, c) =>
    p.tables.exec = Jvm.exec → c.code = bs → c.maxLocals = ml → s.vm.findClass own = some m.cls → Z.Warmed39 s.vm → meth.sig.returnType = ret → meth.locks = false → meth.name = nm →
    ∀ T locs, Stand p l e rm s m args below meth c T locs kc ks → Fr n0 locs → T.heap = h →
    ∃ s₂ v L', Steps p.tables e below (T.setTop (mkF m pc L S)) s₂ ∧ s₂.status = .running ∧ Ended s₂ below (.returned v) ∧ Q v s₂.heap ∧ Fr n0 L' ∧ FrameEnd s (.returned v) s₂ L' rm.cells rm.slots
/-- a body's contract -/
def Con (Z : State) (n0 : Nat) (y : MethodName) (bs : ByteArray) (ml : Nat) (ret : Option FieldType) (rm : Room) (as : List Value) (h : Heap) (Q : Option Value → Heap → Prop) : Prop :=
  ∀ l, MetFree l y (head1 [Jvm.Cond.code y bs ml ret] rm) (fun a U => a = as.toArray ∧ Z.Warmed39 U.vm ∧ U.heap = h) (fun _ _ _ _ _ => True) (fun _ U o U' => ∃ v L, o = .returned v ∧ (Q v U'.heap ∧ Fr n0 L) ∧ FrameEnd U o U' L rm.cells rm.slots)
section Laws
variable {K : Ctx} {rm : Room} {Z : State} {n0 : Nat} {bs : ByteArray} {ml : Nat} {ret : Option FieldType} {own nm : String} {Q : Option Value → Heap → Prop} {kc ks : Nat} {h : Heap} {pc pc' : Nat} {L : Array Slot} {S : List Value} {a0 : Array Value}
theorem enterW {l : Launch} {y : MethodName} {ws : List Jvm.Cond} {as : Array Value} {L0 : Array Slot} (hpl : plainFor y = true) (hL : ∀ m, entryFrame m as ml = mkF m 0 L0 [])
    (H : ∀ K, Go K rm Z n0 bs ml ret y.cls y.name Q 0 0 h 0 L0 []) :
    MetFree l y (head1 (Jvm.Cond.code y bs ml ret :: ws) rm) (fun a U => a = as ∧ Z.Warmed39 U.vm ∧ U.heap = h) (fun _ _ _ _ _ => True) (fun _ U o U' => ∃ v L, o = .returned v ∧ (Q v U'.heap ∧ Fr n0 L) ∧ FrameEnd U o U' L rm.cells rm.slots) := by
  refine MetFree.of_bodySF hpl hisR ?_
  intro p e s m args below meth c s₁ Bd hml0 hP hK
  obtain ⟨rfl, hZ, hh⟩ := hP
  have X0 : Stand p l e rm s m args below meth c s₁ [] 0 0 := Stand.of_body Bd
  obtain ⟨s₂, v, L', st, h1, h2, h3, h4, h5⟩ := H (p, l, e, s, m, args, below, meth, c) Bd.exec Bd.bytes hml0 (findClass_of_methodNamed Bd.named) hZ Bd.returns Bd.notSynchronized (name_of_methodNamed Bd.named Bd.method).1 s₁ [] X0 (Fr.nil n0) (by rw [← hh, Bd.state]; rfl)
  exact ⟨s₂, _, castTop (hL m) st, h1, h2, v, L', rfl, ⟨h3, h4⟩, h5⟩
theorem enter {y : MethodName} {as : List Value} {L0 : Array Slot} (hpl : plainFor y = true) (hL : ∀ m, entryFrame m as.toArray ml = mkF m 0 L0 [])
    (H : ∀ K, Go K rm Z n0 bs ml ret y.cls y.name Q 0 0 h 0 L0 []) : Con Z n0 y bs ml ret rm as h Q := fun _ => enterW hpl hL H
theorem iload {k : Nat} {v : Int32} (hd : decode bs pc = .ok (.iload k, 2)) (hl : L[k]? = some (.val (.int v))) (hp : pc + 2 = pc') (hr : Go K rm Z n0 bs ml ret own nm Q kc ks h pc' L (.int v :: S)) : Go K rm Z n0 bs ml ret own nm Q kc ks h pc L S := by
  subst hp
  obtain ⟨p, l, e, s, m, args, below, meth, c⟩ := K
  intro hx hby hml hown hZ hret hlk hnm T locs X hF hh
  obtain ⟨s₂, v, L', st, r⟩ := hr hx hby hml hown hZ hret hlk hnm T locs X hF hh
  exact ⟨s₂, v, L', XS.iload X.here hx rfl (hb hby hd) hl st, r⟩
theorem iloadN {k : Fin 4} {v : Int32} (hd : decode bs pc = .ok (.iload_n k, 1)) (hl : L[k.val]? = some (.val (.int v))) (hp : pc + 1 = pc') (hr : Go K rm Z n0 bs ml ret own nm Q kc ks h pc' L (.int v :: S)) : Go K rm Z n0 bs ml ret own nm Q kc ks h pc L S := by
  subst hp
  obtain ⟨p, l, e, s, m, args, below, meth, c⟩ := K
  intro hx hby hml hown hZ hret hlk hnm T locs X hF hh
  obtain ⟨s₂, v, L', st, r⟩ := hr hx hby hml hown hZ hret hlk hnm T locs X hF hh
  exact ⟨s₂, v, L', XS.iloadN X.here hx rfl (hb hby hd) hl st, r⟩
theorem lload {k : Nat} {v : Int64} (hd : decode bs pc = .ok (.lload k, 2)) (hl : L[k]? = some (.val (.long v))) (hp : pc + 2 = pc') (hr : Go K rm Z n0 bs ml ret own nm Q kc ks h pc' L (.long v :: S)) : Go K rm Z n0 bs ml ret own nm Q kc ks h pc L S := by
  subst hp
  obtain ⟨p, l, e, s, m, args, below, meth, c⟩ := K
  intro hx hby hml hown hZ hret hlk hnm T locs X hF hh
  obtain ⟨s₂, v, L', st, r⟩ := hr hx hby hml hown hZ hret hlk hnm T locs X hF hh
  exact ⟨s₂, v, L', XS.lload X.here hx rfl (hb hby hd) hl st, r⟩
theorem lloadN {k : Fin 4} {v : Int64} (hd : decode bs pc = .ok (.lload_n k, 1)) (hl : L[k.val]? = some (.val (.long v))) (hp : pc + 1 = pc') (hr : Go K rm Z n0 bs ml ret own nm Q kc ks h pc' L (.long v :: S)) : Go K rm Z n0 bs ml ret own nm Q kc ks h pc L S := by
  subst hp
  obtain ⟨p, l, e, s, m, args, below, meth, c⟩ := K
  intro hx hby hml hown hZ hret hlk hnm T locs X hF hh
  obtain ⟨s₂, v, L', st, r⟩ := hr hx hby hml hown hZ hret hlk hnm T locs X hF hh
  exact ⟨s₂, v, L', XS.lloadN X.here hx rfl (hb hby hd) hl st, r⟩
theorem aload {k : Nat} {v : Value} (hd : decode bs pc = .ok (.aload k, 2)) (hl : L[k]? = some (.val v)) (hv : v.isRef = true) (hp : pc + 2 = pc') (hr : Go K rm Z n0 bs ml ret own nm Q kc ks h pc' L (v :: S)) : Go K rm Z n0 bs ml ret own nm Q kc ks h pc L S := by
  subst hp
  obtain ⟨p, l, e, s, m, args, below, meth, c⟩ := K
  intro hx hby hml hown hZ hret hlk hnm T locs X hF hh
  obtain ⟨s₂, v, L', st, r⟩ := hr hx hby hml hown hZ hret hlk hnm T locs X hF hh
  exact ⟨s₂, v, L', XS.aload X.here hx rfl (hb hby hd) hl hv st, r⟩
theorem aloadN {k : Fin 4} {v : Value} (hd : decode bs pc = .ok (.aload_n k, 1)) (hl : L[k.val]? = some (.val v)) (hv : v.isRef = true) (hp : pc + 1 = pc') (hr : Go K rm Z n0 bs ml ret own nm Q kc ks h pc' L (v :: S)) : Go K rm Z n0 bs ml ret own nm Q kc ks h pc L S := by
  subst hp
  obtain ⟨p, l, e, s, m, args, below, meth, c⟩ := K
  intro hx hby hml hown hZ hret hlk hnm T locs X hF hh
  obtain ⟨s₂, v, L', st, r⟩ := hr hx hby hml hown hZ hret hlk hnm T locs X hF hh
  exact ⟨s₂, v, L', XS.aloadN X.here hx rfl (hb hby hd) hl hv st, r⟩
theorem istore {k : Nat} {x : Int32} {L1 : Array Slot} (hd : decode bs pc = .ok (.istore k, 2)) (hl : storeLocals L k (.int x) = some L1) (hp : pc + 2 = pc') (hr : Go K rm Z n0 bs ml ret own nm Q kc ks h pc' L1 S) : Go K rm Z n0 bs ml ret own nm Q kc ks h pc L (.int x :: S) := by
  subst hp
  obtain ⟨p, l, e, s, m, args, below, meth, c⟩ := K
  intro hx hby hml hown hZ hret hlk hnm T locs X hF hh
  obtain ⟨s₂, v, L', st, r⟩ := hr hx hby hml hown hZ hret hlk hnm T locs X hF hh
  exact ⟨s₂, v, L', XS.istore X.here hx rfl (hb hby hd) rfl hl st, r⟩
theorem istoreN {k : Fin 4} {x : Int32} {L1 : Array Slot} (hd : decode bs pc = .ok (.istore_n k, 1)) (hl : storeLocals L k.val (.int x) = some L1) (hp : pc + 1 = pc') (hr : Go K rm Z n0 bs ml ret own nm Q kc ks h pc' L1 S) : Go K rm Z n0 bs ml ret own nm Q kc ks h pc L (.int x :: S) := by
  subst hp
  obtain ⟨p, l, e, s, m, args, below, meth, c⟩ := K
  intro hx hby hml hown hZ hret hlk hnm T locs X hF hh
  obtain ⟨s₂, v, L', st, r⟩ := hr hx hby hml hown hZ hret hlk hnm T locs X hF hh
  exact ⟨s₂, v, L', XS.istoreN X.here hx rfl (hb hby hd) rfl hl st, r⟩
theorem lstore {k : Nat} {x : Int64} {L1 : Array Slot} (hd : decode bs pc = .ok (.lstore k, 2)) (hl : storeLocals L k (.long x) = some L1) (hp : pc + 2 = pc') (hr : Go K rm Z n0 bs ml ret own nm Q kc ks h pc' L1 S) : Go K rm Z n0 bs ml ret own nm Q kc ks h pc L (.long x :: S) := by
  subst hp
  obtain ⟨p, l, e, s, m, args, below, meth, c⟩ := K
  intro hx hby hml hown hZ hret hlk hnm T locs X hF hh
  obtain ⟨s₂, v, L', st, r⟩ := hr hx hby hml hown hZ hret hlk hnm T locs X hF hh
  exact ⟨s₂, v, L', XS.lstore X.here hx rfl (hb hby hd) rfl hl st, r⟩
theorem lstoreN {k : Fin 4} {x : Int64} {L1 : Array Slot} (hd : decode bs pc = .ok (.lstore_n k, 1)) (hl : storeLocals L k.val (.long x) = some L1) (hp : pc + 1 = pc') (hr : Go K rm Z n0 bs ml ret own nm Q kc ks h pc' L1 S) : Go K rm Z n0 bs ml ret own nm Q kc ks h pc L (.long x :: S) := by
  subst hp
  obtain ⟨p, l, e, s, m, args, below, meth, c⟩ := K
  intro hx hby hml hown hZ hret hlk hnm T locs X hF hh
  obtain ⟨s₂, v, L', st, r⟩ := hr hx hby hml hown hZ hret hlk hnm T locs X hF hh
  exact ⟨s₂, v, L', XS.lstoreN X.here hx rfl (hb hby hd) rfl hl st, r⟩
theorem astore {k : Nat} {x : Value} {L1 : Array Slot} (hd : decode bs pc = .ok (.astore k, 2)) (hv : x.isRef = true) (hl : storeLocals L k x = some L1) (hp : pc + 2 = pc') (hr : Go K rm Z n0 bs ml ret own nm Q kc ks h pc' L1 S) : Go K rm Z n0 bs ml ret own nm Q kc ks h pc L (x :: S) := by
  subst hp
  obtain ⟨p, l, e, s, m, args, below, meth, c⟩ := K
  intro hx hby hml hown hZ hret hlk hnm T locs X hF hh
  obtain ⟨s₂, v, L', st, r⟩ := hr hx hby hml hown hZ hret hlk hnm T locs X hF hh
  exact ⟨s₂, v, L', XS.astore X.here hx rfl (hb hby hd) rfl hv hl st, r⟩
theorem astoreN {k : Fin 4} {x : Value} {L1 : Array Slot} (hd : decode bs pc = .ok (.astore_n k, 1)) (hv : x.isRef = true) (hl : storeLocals L k.val x = some L1) (hp : pc + 1 = pc') (hr : Go K rm Z n0 bs ml ret own nm Q kc ks h pc' L1 S) : Go K rm Z n0 bs ml ret own nm Q kc ks h pc L (x :: S) := by
  subst hp
  obtain ⟨p, l, e, s, m, args, below, meth, c⟩ := K
  intro hx hby hml hown hZ hret hlk hnm T locs X hF hh
  obtain ⟨s₂, v, L', st, r⟩ := hr hx hby hml hown hZ hret hlk hnm T locs X hF hh
  exact ⟨s₂, v, L', XS.astoreN X.here hx rfl (hb hby hd) rfl hv hl st, r⟩
theorem iconst {i : Int} {v : Int32} (hd : decode bs pc = .ok (.iconst i, 1)) (hv : Int32.ofInt i = v) (hp : pc + 1 = pc') (hr : Go K rm Z n0 bs ml ret own nm Q kc ks h pc' L (.int v :: S)) : Go K rm Z n0 bs ml ret own nm Q kc ks h pc L S := by
  subst hp
  obtain ⟨p, l, e, s, m, args, below, meth, c⟩ := K
  intro hx hby hml hown hZ hret hlk hnm T locs X hF hh
  obtain ⟨s₂, v, L', st, r⟩ := hr hx hby hml hown hZ hret hlk hnm T locs X hF hh
  exact ⟨s₂, v, L', XS.iconst X.here hx rfl (hb hby hd) (hv ▸ st), r⟩
theorem bipush {i : Int} {v : Int32} (hd : decode bs pc = .ok (.bipush i, 2)) (hv : (Int8.ofInt i).toInt32 = v) (hp : pc + 2 = pc') (hr : Go K rm Z n0 bs ml ret own nm Q kc ks h pc' L (.int v :: S)) : Go K rm Z n0 bs ml ret own nm Q kc ks h pc L S := by
  subst hp
  obtain ⟨p, l, e, s, m, args, below, meth, c⟩ := K
  intro hx hby hml hown hZ hret hlk hnm T locs X hF hh
  obtain ⟨s₂, v, L', st, r⟩ := hr hx hby hml hown hZ hret hlk hnm T locs X hF hh
  exact ⟨s₂, v, L', XS.bipush X.here hx rfl (hb hby hd) (hv ▸ st), r⟩
theorem sipush {i : Int} {v : Int32} (hd : decode bs pc = .ok (.sipush i, 3)) (hv : (Int16.ofInt i).toInt32 = v) (hp : pc + 3 = pc') (hr : Go K rm Z n0 bs ml ret own nm Q kc ks h pc' L (.int v :: S)) : Go K rm Z n0 bs ml ret own nm Q kc ks h pc L S := by
  subst hp
  obtain ⟨p, l, e, s, m, args, below, meth, c⟩ := K
  intro hx hby hml hown hZ hret hlk hnm T locs X hF hh
  obtain ⟨s₂, v, L', st, r⟩ := hr hx hby hml hown hZ hret hlk hnm T locs X hF hh
  exact ⟨s₂, v, L', XS.sipush X.here hx rfl (hb hby hd) (hv ▸ st), r⟩
theorem aconstNull  (hd : decode bs pc = .ok (.aconst_null, 1)) (hp : pc + 1 = pc') (hr : Go K rm Z n0 bs ml ret own nm Q kc ks h pc' L (.null :: S)) : Go K rm Z n0 bs ml ret own nm Q kc ks h pc L S := by
  subst hp
  obtain ⟨p, l, e, s, m, args, below, meth, c⟩ := K
  intro hx hby hml hown hZ hret hlk hnm T locs X hF hh
  obtain ⟨s₂, v, L', st, r⟩ := hr hx hby hml hown hZ hret hlk hnm T locs X hF hh
  exact ⟨s₂, v, L', XS.aconstNull X.here hx rfl (hb hby hd) st, r⟩
theorem lconst0  (hd : decode bs pc = .ok (.lconst 0, 1)) (hp : pc + 1 = pc') (hr : Go K rm Z n0 bs ml ret own nm Q kc ks h pc' L (.long 0 :: S)) : Go K rm Z n0 bs ml ret own nm Q kc ks h pc L S := by
  subst hp
  obtain ⟨p, l, e, s, m, args, below, meth, c⟩ := K
  intro hx hby hml hown hZ hret hlk hnm T locs X hF hh
  obtain ⟨s₂, v, L', st, r⟩ := hr hx hby hml hown hZ hret hlk hnm T locs X hF hh
  exact ⟨s₂, v, L', XS.lconst X.here hx rfl (hb hby hd) st, r⟩
theorem lconst1  (hd : decode bs pc = .ok (.lconst 1, 1)) (hp : pc + 1 = pc') (hr : Go K rm Z n0 bs ml ret own nm Q kc ks h pc' L (.long 1 :: S)) : Go K rm Z n0 bs ml ret own nm Q kc ks h pc L S := by
  subst hp
  obtain ⟨p, l, e, s, m, args, below, meth, c⟩ := K
  intro hx hby hml hown hZ hret hlk hnm T locs X hF hh
  obtain ⟨s₂, v, L', st, r⟩ := hr hx hby hml hown hZ hret hlk hnm T locs X hF hh
  exact ⟨s₂, v, L', XS.lconst X.here hx rfl (hb hby hd) st, r⟩
theorem ldcInt {i : Nat} {v : Int32} (hd : decode bs pc = .ok (.ldc i, 2)) (w : (Jvm.Cond.constant own i v).before a0 Z = true) (hp : pc + 2 = pc') (hr : Go K rm Z n0 bs ml ret own nm Q kc ks h pc' L (.int v :: S)) : Go K rm Z n0 bs ml ret own nm Q kc ks h pc L S := by
  subst hp
  obtain ⟨p, l, e, s, m, args, below, meth, c⟩ := K
  intro hx hby hml hown hZ hret hlk hnm T locs X hF hh
  obtain ⟨s₂, v, L', st, r⟩ := hr hx hby hml hown hZ hret hlk hnm T locs X hF hh
  exact ⟨s₂, v, L', X.ldcInt hx hown (mvT hZ w) (g := mkF m pc L S) rfl (hb hby hd) _ st, r⟩
theorem ldc2Long {i : Nat} {v : Int64} (hd : decode bs pc = .ok (.ldc2_w i, 3)) (w : (Jvm.Cond.constantLong own i v).before a0 Z = true) (hp : pc + 3 = pc') (hr : Go K rm Z n0 bs ml ret own nm Q kc ks h pc' L (.long v :: S)) : Go K rm Z n0 bs ml ret own nm Q kc ks h pc L S := by
  subst hp
  obtain ⟨p, l, e, s, m, args, below, meth, c⟩ := K
  intro hx hby hml hown hZ hret hlk hnm T locs X hF hh
  obtain ⟨s₂, v, L', st, r⟩ := hr hx hby hml hown hZ hret hlk hnm T locs X hF hh
  exact ⟨s₂, v, L', X.ldc2Long hx hown (mvT hZ w) (g := mkF m pc L S) rfl (hb hby hd) _ st, r⟩
theorem iadd {x y : Int32} (hd : decode bs pc = .ok (.iadd, 1)) (hp : pc + 1 = pc') (hr : ∀ z, z = x + y → Go K rm Z n0 bs ml ret own nm Q kc ks h pc' L (.int z :: S)) : Go K rm Z n0 bs ml ret own nm Q kc ks h pc L (.int y :: .int x :: S) := by
  subst hp
  obtain ⟨p, l, e, s, m, args, below, meth, c⟩ := K
  intro hx hby hml hown hZ hret hlk hnm T locs X hF hh
  obtain ⟨s₂, v, L', st, r⟩ := hr _ rfl hx hby hml hown hZ hret hlk hnm T locs X hF hh
  exact ⟨s₂, v, L', XS.iadd X.here hx rfl (hb hby hd) rfl st, r⟩
theorem isub {x y : Int32} (hd : decode bs pc = .ok (.isub, 1)) (hp : pc + 1 = pc') (hr : ∀ z, z = x - y → Go K rm Z n0 bs ml ret own nm Q kc ks h pc' L (.int z :: S)) : Go K rm Z n0 bs ml ret own nm Q kc ks h pc L (.int y :: .int x :: S) := by
  subst hp
  obtain ⟨p, l, e, s, m, args, below, meth, c⟩ := K
  intro hx hby hml hown hZ hret hlk hnm T locs X hF hh
  obtain ⟨s₂, v, L', st, r⟩ := hr _ rfl hx hby hml hown hZ hret hlk hnm T locs X hF hh
  exact ⟨s₂, v, L', XS.isub X.here hx rfl (hb hby hd) rfl st, r⟩
theorem imul {x y : Int32} (hd : decode bs pc = .ok (.imul, 1)) (hp : pc + 1 = pc') (hr : ∀ z, z = x * y → Go K rm Z n0 bs ml ret own nm Q kc ks h pc' L (.int z :: S)) : Go K rm Z n0 bs ml ret own nm Q kc ks h pc L (.int y :: .int x :: S) := by
  subst hp
  obtain ⟨p, l, e, s, m, args, below, meth, c⟩ := K
  intro hx hby hml hown hZ hret hlk hnm T locs X hF hh
  obtain ⟨s₂, v, L', st, r⟩ := hr _ rfl hx hby hml hown hZ hret hlk hnm T locs X hF hh
  exact ⟨s₂, v, L', XS.imul X.here hx rfl (hb hby hd) rfl st, r⟩
theorem iand {x y : Int32} (hd : decode bs pc = .ok (.iand, 1)) (hp : pc + 1 = pc') (hr : ∀ z, z = x &&& y → Go K rm Z n0 bs ml ret own nm Q kc ks h pc' L (.int z :: S)) : Go K rm Z n0 bs ml ret own nm Q kc ks h pc L (.int y :: .int x :: S) := by
  subst hp
  obtain ⟨p, l, e, s, m, args, below, meth, c⟩ := K
  intro hx hby hml hown hZ hret hlk hnm T locs X hF hh
  obtain ⟨s₂, v, L', st, r⟩ := hr _ rfl hx hby hml hown hZ hret hlk hnm T locs X hF hh
  exact ⟨s₂, v, L', XS.iand X.here hx rfl (hb hby hd) rfl st, r⟩
theorem ior {x y : Int32} (hd : decode bs pc = .ok (.ior, 1)) (hp : pc + 1 = pc') (hr : ∀ z, z = x ||| y → Go K rm Z n0 bs ml ret own nm Q kc ks h pc' L (.int z :: S)) : Go K rm Z n0 bs ml ret own nm Q kc ks h pc L (.int y :: .int x :: S) := by
  subst hp
  obtain ⟨p, l, e, s, m, args, below, meth, c⟩ := K
  intro hx hby hml hown hZ hret hlk hnm T locs X hF hh
  obtain ⟨s₂, v, L', st, r⟩ := hr _ rfl hx hby hml hown hZ hret hlk hnm T locs X hF hh
  exact ⟨s₂, v, L', XS.ior X.here hx rfl (hb hby hd) rfl st, r⟩
theorem ixor {x y : Int32} (hd : decode bs pc = .ok (.ixor, 1)) (hp : pc + 1 = pc') (hr : ∀ z, z = x ^^^ y → Go K rm Z n0 bs ml ret own nm Q kc ks h pc' L (.int z :: S)) : Go K rm Z n0 bs ml ret own nm Q kc ks h pc L (.int y :: .int x :: S) := by
  subst hp
  obtain ⟨p, l, e, s, m, args, below, meth, c⟩ := K
  intro hx hby hml hown hZ hret hlk hnm T locs X hF hh
  obtain ⟨s₂, v, L', st, r⟩ := hr _ rfl hx hby hml hown hZ hret hlk hnm T locs X hF hh
  exact ⟨s₂, v, L', XS.ixor X.here hx rfl (hb hby hd) rfl st, r⟩
theorem ishl {x y : Int32} (hd : decode bs pc = .ok (.ishl, 1)) (hp : pc + 1 = pc') (hr : ∀ z, z = x <<< (y &&& 31) → Go K rm Z n0 bs ml ret own nm Q kc ks h pc' L (.int z :: S)) : Go K rm Z n0 bs ml ret own nm Q kc ks h pc L (.int y :: .int x :: S) := by
  subst hp
  obtain ⟨p, l, e, s, m, args, below, meth, c⟩ := K
  intro hx hby hml hown hZ hret hlk hnm T locs X hF hh
  obtain ⟨s₂, v, L', st, r⟩ := hr _ rfl hx hby hml hown hZ hret hlk hnm T locs X hF hh
  exact ⟨s₂, v, L', XS.ishl X.here hx rfl (hb hby hd) rfl st, r⟩
theorem ishr {x y : Int32} (hd : decode bs pc = .ok (.ishr, 1)) (hp : pc + 1 = pc') (hr : ∀ z, z = x >>> (y &&& 31) → Go K rm Z n0 bs ml ret own nm Q kc ks h pc' L (.int z :: S)) : Go K rm Z n0 bs ml ret own nm Q kc ks h pc L (.int y :: .int x :: S) := by
  subst hp
  obtain ⟨p, l, e, s, m, args, below, meth, c⟩ := K
  intro hx hby hml hown hZ hret hlk hnm T locs X hF hh
  obtain ⟨s₂, v, L', st, r⟩ := hr _ rfl hx hby hml hown hZ hret hlk hnm T locs X hF hh
  exact ⟨s₂, v, L', XS.ishr X.here hx rfl (hb hby hd) rfl st, r⟩
theorem iushr {x y : Int32} (hd : decode bs pc = .ok (.iushr, 1)) (hp : pc + 1 = pc') (hr : ∀ z, z = Jvm.Own.ushr x y → Go K rm Z n0 bs ml ret own nm Q kc ks h pc' L (.int z :: S)) : Go K rm Z n0 bs ml ret own nm Q kc ks h pc L (.int y :: .int x :: S) := by
  subst hp
  obtain ⟨p, l, e, s, m, args, below, meth, c⟩ := K
  intro hx hby hml hown hZ hret hlk hnm T locs X hF hh
  obtain ⟨s₂, v, L', st, r⟩ := hr _ rfl hx hby hml hown hZ hret hlk hnm T locs X hF hh
  exact ⟨s₂, v, L', XS.iushr X.here hx rfl (hb hby hd) rfl st, r⟩
theorem ladd {x y : Int64} (hd : decode bs pc = .ok (.ladd, 1)) (hp : pc + 1 = pc') (hr : ∀ z, z = x + y → Go K rm Z n0 bs ml ret own nm Q kc ks h pc' L (.long z :: S)) : Go K rm Z n0 bs ml ret own nm Q kc ks h pc L (.long y :: .long x :: S) := by
  subst hp
  obtain ⟨p, l, e, s, m, args, below, meth, c⟩ := K
  intro hx hby hml hown hZ hret hlk hnm T locs X hF hh
  obtain ⟨s₂, v, L', st, r⟩ := hr _ rfl hx hby hml hown hZ hret hlk hnm T locs X hF hh
  exact ⟨s₂, v, L', XS.ladd X.here hx rfl (hb hby hd) rfl st, r⟩
theorem lsub {x y : Int64} (hd : decode bs pc = .ok (.lsub, 1)) (hp : pc + 1 = pc') (hr : ∀ z, z = x - y → Go K rm Z n0 bs ml ret own nm Q kc ks h pc' L (.long z :: S)) : Go K rm Z n0 bs ml ret own nm Q kc ks h pc L (.long y :: .long x :: S) := by
  subst hp
  obtain ⟨p, l, e, s, m, args, below, meth, c⟩ := K
  intro hx hby hml hown hZ hret hlk hnm T locs X hF hh
  obtain ⟨s₂, v, L', st, r⟩ := hr _ rfl hx hby hml hown hZ hret hlk hnm T locs X hF hh
  exact ⟨s₂, v, L', XS.lsub X.here hx rfl (hb hby hd) rfl st, r⟩
theorem lmul {x y : Int64} (hd : decode bs pc = .ok (.lmul, 1)) (hp : pc + 1 = pc') (hr : ∀ z, z = x * y → Go K rm Z n0 bs ml ret own nm Q kc ks h pc' L (.long z :: S)) : Go K rm Z n0 bs ml ret own nm Q kc ks h pc L (.long y :: .long x :: S) := by
  subst hp
  obtain ⟨p, l, e, s, m, args, below, meth, c⟩ := K
  intro hx hby hml hown hZ hret hlk hnm T locs X hF hh
  obtain ⟨s₂, v, L', st, r⟩ := hr _ rfl hx hby hml hown hZ hret hlk hnm T locs X hF hh
  exact ⟨s₂, v, L', XS.lmul X.here hx rfl (hb hby hd) rfl st, r⟩
theorem land {x y : Int64} (hd : decode bs pc = .ok (.land, 1)) (hp : pc + 1 = pc') (hr : ∀ z, z = x &&& y → Go K rm Z n0 bs ml ret own nm Q kc ks h pc' L (.long z :: S)) : Go K rm Z n0 bs ml ret own nm Q kc ks h pc L (.long y :: .long x :: S) := by
  subst hp
  obtain ⟨p, l, e, s, m, args, below, meth, c⟩ := K
  intro hx hby hml hown hZ hret hlk hnm T locs X hF hh
  obtain ⟨s₂, v, L', st, r⟩ := hr _ rfl hx hby hml hown hZ hret hlk hnm T locs X hF hh
  exact ⟨s₂, v, L', XS.land X.here hx rfl (hb hby hd) rfl st, r⟩
theorem lor {x y : Int64} (hd : decode bs pc = .ok (.lor, 1)) (hp : pc + 1 = pc') (hr : ∀ z, z = x ||| y → Go K rm Z n0 bs ml ret own nm Q kc ks h pc' L (.long z :: S)) : Go K rm Z n0 bs ml ret own nm Q kc ks h pc L (.long y :: .long x :: S) := by
  subst hp
  obtain ⟨p, l, e, s, m, args, below, meth, c⟩ := K
  intro hx hby hml hown hZ hret hlk hnm T locs X hF hh
  obtain ⟨s₂, v, L', st, r⟩ := hr _ rfl hx hby hml hown hZ hret hlk hnm T locs X hF hh
  exact ⟨s₂, v, L', XS.lor X.here hx rfl (hb hby hd) rfl st, r⟩
theorem lxor {x y : Int64} (hd : decode bs pc = .ok (.lxor, 1)) (hp : pc + 1 = pc') (hr : ∀ z, z = x ^^^ y → Go K rm Z n0 bs ml ret own nm Q kc ks h pc' L (.long z :: S)) : Go K rm Z n0 bs ml ret own nm Q kc ks h pc L (.long y :: .long x :: S) := by
  subst hp
  obtain ⟨p, l, e, s, m, args, below, meth, c⟩ := K
  intro hx hby hml hown hZ hret hlk hnm T locs X hF hh
  obtain ⟨s₂, v, L', st, r⟩ := hr _ rfl hx hby hml hown hZ hret hlk hnm T locs X hF hh
  exact ⟨s₂, v, L', XS.lxor X.here hx rfl (hb hby hd) rfl st, r⟩
theorem lshl {x : Int64} {y : Int32} (hd : decode bs pc = .ok (.lshl, 1)) (hp : pc + 1 = pc') (hr : ∀ z, z = x <<< (y &&& 63).toInt64 → Go K rm Z n0 bs ml ret own nm Q kc ks h pc' L (.long z :: S)) : Go K rm Z n0 bs ml ret own nm Q kc ks h pc L (.int y :: .long x :: S) := by
  subst hp
  obtain ⟨p, l, e, s, m, args, below, meth, c⟩ := K
  intro hx hby hml hown hZ hret hlk hnm T locs X hF hh
  obtain ⟨s₂, v, L', st, r⟩ := hr _ rfl hx hby hml hown hZ hret hlk hnm T locs X hF hh
  exact ⟨s₂, v, L', XS.lshl X.here hx rfl (hb hby hd) rfl st, r⟩
theorem lshr {x : Int64} {y : Int32} (hd : decode bs pc = .ok (.lshr, 1)) (hp : pc + 1 = pc') (hr : ∀ z, z = x >>> (y &&& 63).toInt64 → Go K rm Z n0 bs ml ret own nm Q kc ks h pc' L (.long z :: S)) : Go K rm Z n0 bs ml ret own nm Q kc ks h pc L (.int y :: .long x :: S) := by
  subst hp
  obtain ⟨p, l, e, s, m, args, below, meth, c⟩ := K
  intro hx hby hml hown hZ hret hlk hnm T locs X hF hh
  obtain ⟨s₂, v, L', st, r⟩ := hr _ rfl hx hby hml hown hZ hret hlk hnm T locs X hF hh
  exact ⟨s₂, v, L', XS.lshr X.here hx rfl (hb hby hd) rfl st, r⟩
theorem lushr {x : Int64} {y : Int32} (hd : decode bs pc = .ok (.lushr, 1)) (hp : pc + 1 = pc') (hr : ∀ z, z = Jvm.Own.ushrL x y → Go K rm Z n0 bs ml ret own nm Q kc ks h pc' L (.long z :: S)) : Go K rm Z n0 bs ml ret own nm Q kc ks h pc L (.int y :: .long x :: S) := by
  subst hp
  obtain ⟨p, l, e, s, m, args, below, meth, c⟩ := K
  intro hx hby hml hown hZ hret hlk hnm T locs X hF hh
  obtain ⟨s₂, v, L', st, r⟩ := hr _ rfl hx hby hml hown hZ hret hlk hnm T locs X hF hh
  exact ⟨s₂, v, L', XS.lushr X.here hx rfl (hb hby hd) rfl st, r⟩
theorem idiv {x y : Int32} (hd : decode bs pc = .ok (.idiv, 1)) (hy : y ≠ 0) (hp : pc + 1 = pc') (hr : ∀ z, z = x / y → Go K rm Z n0 bs ml ret own nm Q kc ks h pc' L (.int z :: S)) : Go K rm Z n0 bs ml ret own nm Q kc ks h pc L (.int y :: .int x :: S) := by
  subst hp
  obtain ⟨p, l, e, s, m, args, below, meth, c⟩ := K
  intro hx hby hml hown hZ hret hlk hnm T locs X hF hh
  obtain ⟨s₂, v, L', st, r⟩ := hr _ rfl hx hby hml hown hZ hret hlk hnm T locs X hF hh
  exact ⟨s₂, v, L', XS.idiv X.here hx rfl (hb hby hd) rfl hy st, r⟩
theorem irem {x y : Int32} (hd : decode bs pc = .ok (.irem, 1)) (hy : y ≠ 0) (hp : pc + 1 = pc') (hr : ∀ z, z = x % y → Go K rm Z n0 bs ml ret own nm Q kc ks h pc' L (.int z :: S)) : Go K rm Z n0 bs ml ret own nm Q kc ks h pc L (.int y :: .int x :: S) := by
  subst hp
  obtain ⟨p, l, e, s, m, args, below, meth, c⟩ := K
  intro hx hby hml hown hZ hret hlk hnm T locs X hF hh
  obtain ⟨s₂, v, L', st, r⟩ := hr _ rfl hx hby hml hown hZ hret hlk hnm T locs X hF hh
  exact ⟨s₂, v, L', iremM X hx rfl (hb hby hd) rfl hy st, r⟩
theorem ldiv {x y : Int64} (hd : decode bs pc = .ok (.ldiv, 1)) (hy : y ≠ 0) (hp : pc + 1 = pc') (hr : ∀ z, z = x / y → Go K rm Z n0 bs ml ret own nm Q kc ks h pc' L (.long z :: S)) : Go K rm Z n0 bs ml ret own nm Q kc ks h pc L (.long y :: .long x :: S) := by
  subst hp
  obtain ⟨p, l, e, s, m, args, below, meth, c⟩ := K
  intro hx hby hml hown hZ hret hlk hnm T locs X hF hh
  obtain ⟨s₂, v, L', st, r⟩ := hr _ rfl hx hby hml hown hZ hret hlk hnm T locs X hF hh
  exact ⟨s₂, v, L', XS.ldiv X.here hx rfl (hb hby hd) rfl hy st, r⟩
theorem lrem {x y : Int64} (hd : decode bs pc = .ok (.lrem, 1)) (hy : y ≠ 0) (hp : pc + 1 = pc') (hr : ∀ z, z = x - (x / y) * y → Go K rm Z n0 bs ml ret own nm Q kc ks h pc' L (.long z :: S)) : Go K rm Z n0 bs ml ret own nm Q kc ks h pc L (.long y :: .long x :: S) := by
  subst hp
  obtain ⟨p, l, e, s, m, args, below, meth, c⟩ := K
  intro hx hby hml hown hZ hret hlk hnm T locs X hF hh
  obtain ⟨s₂, v, L', st, r⟩ := hr _ rfl hx hby hml hown hZ hret hlk hnm T locs X hF hh
  exact ⟨s₂, v, L', XS.lrem X.here hx rfl (hb hby hd) rfl hy st, r⟩
theorem ineg {x : Int32} (hd : decode bs pc = .ok (.ineg, 1)) (hp : pc + 1 = pc') (hr : ∀ z, z = -x → Go K rm Z n0 bs ml ret own nm Q kc ks h pc' L (.int z :: S)) : Go K rm Z n0 bs ml ret own nm Q kc ks h pc L (.int x :: S) := by
  subst hp
  obtain ⟨p, l, e, s, m, args, below, meth, c⟩ := K
  intro hx hby hml hown hZ hret hlk hnm T locs X hF hh
  obtain ⟨s₂, v, L', st, r⟩ := hr _ rfl hx hby hml hown hZ hret hlk hnm T locs X hF hh
  exact ⟨s₂, v, L', XS.ineg X.here hx rfl (hb hby hd) rfl st, r⟩
theorem lneg {x : Int64} (hd : decode bs pc = .ok (.lneg, 1)) (hp : pc + 1 = pc') (hr : ∀ z, z = -x → Go K rm Z n0 bs ml ret own nm Q kc ks h pc' L (.long z :: S)) : Go K rm Z n0 bs ml ret own nm Q kc ks h pc L (.long x :: S) := by
  subst hp
  obtain ⟨p, l, e, s, m, args, below, meth, c⟩ := K
  intro hx hby hml hown hZ hret hlk hnm T locs X hF hh
  obtain ⟨s₂, v, L', st, r⟩ := hr _ rfl hx hby hml hown hZ hret hlk hnm T locs X hF hh
  exact ⟨s₂, v, L', XS.lneg X.here hx rfl (hb hby hd) rfl st, r⟩
theorem i2l {x : Int32} (hd : decode bs pc = .ok (.i2l, 1)) (hp : pc + 1 = pc') (hr : ∀ z, z = x.toInt64 → Go K rm Z n0 bs ml ret own nm Q kc ks h pc' L (.long z :: S)) : Go K rm Z n0 bs ml ret own nm Q kc ks h pc L (.int x :: S) := by
  subst hp
  obtain ⟨p, l, e, s, m, args, below, meth, c⟩ := K
  intro hx hby hml hown hZ hret hlk hnm T locs X hF hh
  obtain ⟨s₂, v, L', st, r⟩ := hr _ rfl hx hby hml hown hZ hret hlk hnm T locs X hF hh
  exact ⟨s₂, v, L', XS.i2l X.here hx rfl (hb hby hd) rfl st, r⟩
theorem l2i {x : Int64} (hd : decode bs pc = .ok (.l2i, 1)) (hp : pc + 1 = pc') (hr : ∀ z, z = x.toInt32 → Go K rm Z n0 bs ml ret own nm Q kc ks h pc' L (.int z :: S)) : Go K rm Z n0 bs ml ret own nm Q kc ks h pc L (.long x :: S) := by
  subst hp
  obtain ⟨p, l, e, s, m, args, below, meth, c⟩ := K
  intro hx hby hml hown hZ hret hlk hnm T locs X hF hh
  obtain ⟨s₂, v, L', st, r⟩ := hr _ rfl hx hby hml hown hZ hret hlk hnm T locs X hF hh
  exact ⟨s₂, v, L', XS.l2i X.here hx rfl (hb hby hd) rfl st, r⟩
theorem i2b {x : Int32} (hd : decode bs pc = .ok (.i2b, 1)) (hp : pc + 1 = pc') (hr : ∀ z, z = x.toInt8.toInt32 → Go K rm Z n0 bs ml ret own nm Q kc ks h pc' L (.int z :: S)) : Go K rm Z n0 bs ml ret own nm Q kc ks h pc L (.int x :: S) := by
  subst hp
  obtain ⟨p, l, e, s, m, args, below, meth, c⟩ := K
  intro hx hby hml hown hZ hret hlk hnm T locs X hF hh
  obtain ⟨s₂, v, L', st, r⟩ := hr _ rfl hx hby hml hown hZ hret hlk hnm T locs X hF hh
  exact ⟨s₂, v, L', XS.i2b X.here hx rfl (hb hby hd) rfl st, r⟩
theorem i2c {x : Int32} (hd : decode bs pc = .ok (.i2c, 1)) (hp : pc + 1 = pc') (hr : ∀ z, z = x.toUInt32.toUInt16.toUInt32.toInt32 → Go K rm Z n0 bs ml ret own nm Q kc ks h pc' L (.int z :: S)) : Go K rm Z n0 bs ml ret own nm Q kc ks h pc L (.int x :: S) := by
  subst hp
  obtain ⟨p, l, e, s, m, args, below, meth, c⟩ := K
  intro hx hby hml hown hZ hret hlk hnm T locs X hF hh
  obtain ⟨s₂, v, L', st, r⟩ := hr _ rfl hx hby hml hown hZ hret hlk hnm T locs X hF hh
  exact ⟨s₂, v, L', XS.i2c X.here hx rfl (hb hby hd) rfl st, r⟩
theorem iinc {k : Nat} {i : Int} {x : Int32} {L1 : Int32 → Array Slot} (hd : decode bs pc = .ok (.iinc k i, 3)) (hl : L[k]? = some (.val (.int x))) (hl1 : ∀ z : Int32, storeLocals L k (.int z) = some (L1 z)) (hp : pc + 3 = pc') (hr : ∀ z, z = x + Int32.ofInt i → Go K rm Z n0 bs ml ret own nm Q kc ks h pc' (L1 z) S) : Go K rm Z n0 bs ml ret own nm Q kc ks h pc L S := by
  subst hp
  obtain ⟨p, l, e, s, m, args, below, meth, c⟩ := K
  intro hx hby hml hown hZ hret hlk hnm T locs X hF hh
  obtain ⟨s₂, v, L', st, r⟩ := hr _ rfl hx hby hml hown hZ hret hlk hnm T locs X hF hh
  exact ⟨s₂, v, L', XS.iinc X.here hx rfl (hb hby hd) hl (hl1 _) st, r⟩
theorem dup {x : Value} (hd : decode bs pc = .ok (.dup, 1)) (hc : x.category = 1) (hp : pc + 1 = pc') (hr : Go K rm Z n0 bs ml ret own nm Q kc ks h pc' L (x :: x :: S)) : Go K rm Z n0 bs ml ret own nm Q kc ks h pc L (x :: S) := by
  subst hp
  obtain ⟨p, l, e, s, m, args, below, meth, c⟩ := K
  intro hx hby hml hown hZ hret hlk hnm T locs X hF hh
  obtain ⟨s₂, v, L', st, r⟩ := hr hx hby hml hown hZ hret hlk hnm T locs X hF hh
  exact ⟨s₂, v, L', XS.dup X.here hx rfl (hb hby hd) rfl hc st, r⟩
theorem pop {x : Value} (hd : decode bs pc = .ok (.pop, 1)) (hc : x.category = 1) (hp : pc + 1 = pc') (hr : Go K rm Z n0 bs ml ret own nm Q kc ks h pc' L S) : Go K rm Z n0 bs ml ret own nm Q kc ks h pc L (x :: S) := by
  subst hp
  obtain ⟨p, l, e, s, m, args, below, meth, c⟩ := K
  intro hx hby hml hown hZ hret hlk hnm T locs X hF hh
  obtain ⟨s₂, v, L', st, r⟩ := hr hx hby hml hown hZ hret hlk hnm T locs X hF hh
  exact ⟨s₂, v, L', XS.pop X.here hx rfl (hb hby hd) rfl hc st, r⟩
theorem dupX1 {x y : Value} (hd : decode bs pc = .ok (.dup_x1, 1)) (hc : x.category = 1) (hc2 : y.category = 1) (hp : pc + 1 = pc') (hr : Go K rm Z n0 bs ml ret own nm Q kc ks h pc' L (x :: y :: x :: S)) : Go K rm Z n0 bs ml ret own nm Q kc ks h pc L (x :: y :: S) := by
  subst hp
  obtain ⟨p, l, e, s, m, args, below, meth, c⟩ := K
  intro hx hby hml hown hZ hret hlk hnm T locs X hF hh
  obtain ⟨s₂, v, L', st, r⟩ := hr hx hby hml hown hZ hret hlk hnm T locs X hF hh
  exact ⟨s₂, v, L', XS.dupX1 X.here hx rfl (hb hby hd) rfl hc hc2 st, r⟩
theorem goto {o : Int} (hd : decode bs pc = .ok (.goto o, 3)) (ho : 0 ≤ (pc : Int) + o) (hp : ((pc : Int) + o).toNat = pc') (hr : Go K rm Z n0 bs ml ret own nm Q kc ks h pc' L S) : Go K rm Z n0 bs ml ret own nm Q kc ks h pc L S := by
  obtain ⟨p, l, e, s, m, args, below, meth, c⟩ := K
  intro hx hby hml hown hZ hret hlk hnm T locs X hF hh
  obtain ⟨s₂, v, L', st, r⟩ := hr hx hby hml hown hZ hret hlk hnm T locs X hF hh
  exact ⟨s₂, v, L', XS.goto X.here hx rfl (pc0 := pc) (pc' := pc') rfl (hb hby hd) ho hp st, r⟩
theorem holds_iff (cd : ClassFile.Cond) (x y : Int32) : if_icmp.holds cd x y = true ↔ (match cd with | .lt => x.toInt < y.toInt | .ge => y.toInt ≤ x.toInt | .gt => y.toInt < x.toInt | .le => x.toInt ≤ y.toInt | .eq => x = y | .ne => x ≠ y) := by
  cases cd <;> simp [if_icmp.holds, Int32.lt_iff_toInt_lt, Int32.le_iff_toInt_le]
theorem icmp_lt {x y : Int32} {o : Int} {pc2 : Nat} (hd : decode bs pc = .ok (.if_icmp .lt o, 3)) (ho : 0 ≤ (pc : Int) + o) (hp : ((pc : Int) + o).toNat = pc') (hp2 : pc + 3 = pc2)
    (hy : x.toInt < y.toInt → Go K rm Z n0 bs ml ret own nm Q kc ks h pc' L S) (hn : ¬ (x.toInt < y.toInt) → Go K rm Z n0 bs ml ret own nm Q kc ks h pc2 L S) : Go K rm Z n0 bs ml ret own nm Q kc ks h pc L (.int y :: .int x :: S) := by
  subst hp2
  by_cases q : x.toInt < y.toInt
  · have q2 := (holds_iff .lt x y).mpr q
    replace hy := hy q
    obtain ⟨p, l, e, s, m, args, below, meth, c⟩ := K
    intro hx hby hml hown hZ hret hlk hnm T locs X hF hh
    obtain ⟨s₂, v, L', st, r⟩ := hy hx hby hml hown hZ hret hlk hnm T locs X hF hh
    exact ⟨s₂, v, L', XS.icmpYes X.here hx rfl (pc0 := pc) (pc' := pc') rfl (hb hby hd) rfl q2 ho hp st, r⟩
  · have q2 : if_icmp.holds .lt x y = false := by rw [← Bool.not_eq_true]; exact fun t => q ((holds_iff .lt x y).mp t)
    replace hn := hn q
    obtain ⟨p, l, e, s, m, args, below, meth, c⟩ := K
    intro hx hby hml hown hZ hret hlk hnm T locs X hF hh
    obtain ⟨s₂, v, L', st, r⟩ := hn hx hby hml hown hZ hret hlk hnm T locs X hF hh
    exact ⟨s₂, v, L', XS.icmpNo X.here hx rfl (hb hby hd) rfl q2 st, r⟩
theorem icmp_ge {x y : Int32} {o : Int} {pc2 : Nat} (hd : decode bs pc = .ok (.if_icmp .ge o, 3)) (ho : 0 ≤ (pc : Int) + o) (hp : ((pc : Int) + o).toNat = pc') (hp2 : pc + 3 = pc2)
    (hy : y.toInt ≤ x.toInt → Go K rm Z n0 bs ml ret own nm Q kc ks h pc' L S) (hn : ¬ (y.toInt ≤ x.toInt) → Go K rm Z n0 bs ml ret own nm Q kc ks h pc2 L S) : Go K rm Z n0 bs ml ret own nm Q kc ks h pc L (.int y :: .int x :: S) := by
  subst hp2
  by_cases q : y.toInt ≤ x.toInt
  · have q2 := (holds_iff .ge x y).mpr q
    replace hy := hy q
    obtain ⟨p, l, e, s, m, args, below, meth, c⟩ := K
    intro hx hby hml hown hZ hret hlk hnm T locs X hF hh
    obtain ⟨s₂, v, L', st, r⟩ := hy hx hby hml hown hZ hret hlk hnm T locs X hF hh
    exact ⟨s₂, v, L', XS.icmpYes X.here hx rfl (pc0 := pc) (pc' := pc') rfl (hb hby hd) rfl q2 ho hp st, r⟩
  · have q2 : if_icmp.holds .ge x y = false := by rw [← Bool.not_eq_true]; exact fun t => q ((holds_iff .ge x y).mp t)
    replace hn := hn q
    obtain ⟨p, l, e, s, m, args, below, meth, c⟩ := K
    intro hx hby hml hown hZ hret hlk hnm T locs X hF hh
    obtain ⟨s₂, v, L', st, r⟩ := hn hx hby hml hown hZ hret hlk hnm T locs X hF hh
    exact ⟨s₂, v, L', XS.icmpNo X.here hx rfl (hb hby hd) rfl q2 st, r⟩
theorem icmp_gt {x y : Int32} {o : Int} {pc2 : Nat} (hd : decode bs pc = .ok (.if_icmp .gt o, 3)) (ho : 0 ≤ (pc : Int) + o) (hp : ((pc : Int) + o).toNat = pc') (hp2 : pc + 3 = pc2)
    (hy : y.toInt < x.toInt → Go K rm Z n0 bs ml ret own nm Q kc ks h pc' L S) (hn : ¬ (y.toInt < x.toInt) → Go K rm Z n0 bs ml ret own nm Q kc ks h pc2 L S) : Go K rm Z n0 bs ml ret own nm Q kc ks h pc L (.int y :: .int x :: S) := by
  subst hp2
  by_cases q : y.toInt < x.toInt
  · have q2 := (holds_iff .gt x y).mpr q
    replace hy := hy q
    obtain ⟨p, l, e, s, m, args, below, meth, c⟩ := K
    intro hx hby hml hown hZ hret hlk hnm T locs X hF hh
    obtain ⟨s₂, v, L', st, r⟩ := hy hx hby hml hown hZ hret hlk hnm T locs X hF hh
    exact ⟨s₂, v, L', XS.icmpYes X.here hx rfl (pc0 := pc) (pc' := pc') rfl (hb hby hd) rfl q2 ho hp st, r⟩
  · have q2 : if_icmp.holds .gt x y = false := by rw [← Bool.not_eq_true]; exact fun t => q ((holds_iff .gt x y).mp t)
    replace hn := hn q
    obtain ⟨p, l, e, s, m, args, below, meth, c⟩ := K
    intro hx hby hml hown hZ hret hlk hnm T locs X hF hh
    obtain ⟨s₂, v, L', st, r⟩ := hn hx hby hml hown hZ hret hlk hnm T locs X hF hh
    exact ⟨s₂, v, L', XS.icmpNo X.here hx rfl (hb hby hd) rfl q2 st, r⟩
theorem icmp_le {x y : Int32} {o : Int} {pc2 : Nat} (hd : decode bs pc = .ok (.if_icmp .le o, 3)) (ho : 0 ≤ (pc : Int) + o) (hp : ((pc : Int) + o).toNat = pc') (hp2 : pc + 3 = pc2)
    (hy : x.toInt ≤ y.toInt → Go K rm Z n0 bs ml ret own nm Q kc ks h pc' L S) (hn : ¬ (x.toInt ≤ y.toInt) → Go K rm Z n0 bs ml ret own nm Q kc ks h pc2 L S) : Go K rm Z n0 bs ml ret own nm Q kc ks h pc L (.int y :: .int x :: S) := by
  subst hp2
  by_cases q : x.toInt ≤ y.toInt
  · have q2 := (holds_iff .le x y).mpr q
    replace hy := hy q
    obtain ⟨p, l, e, s, m, args, below, meth, c⟩ := K
    intro hx hby hml hown hZ hret hlk hnm T locs X hF hh
    obtain ⟨s₂, v, L', st, r⟩ := hy hx hby hml hown hZ hret hlk hnm T locs X hF hh
    exact ⟨s₂, v, L', XS.icmpYes X.here hx rfl (pc0 := pc) (pc' := pc') rfl (hb hby hd) rfl q2 ho hp st, r⟩
  · have q2 : if_icmp.holds .le x y = false := by rw [← Bool.not_eq_true]; exact fun t => q ((holds_iff .le x y).mp t)
    replace hn := hn q
    obtain ⟨p, l, e, s, m, args, below, meth, c⟩ := K
    intro hx hby hml hown hZ hret hlk hnm T locs X hF hh
    obtain ⟨s₂, v, L', st, r⟩ := hn hx hby hml hown hZ hret hlk hnm T locs X hF hh
    exact ⟨s₂, v, L', XS.icmpNo X.here hx rfl (hb hby hd) rfl q2 st, r⟩
theorem icmp_eq {x y : Int32} {o : Int} {pc2 : Nat} (hd : decode bs pc = .ok (.if_icmp .eq o, 3)) (ho : 0 ≤ (pc : Int) + o) (hp : ((pc : Int) + o).toNat = pc') (hp2 : pc + 3 = pc2)
    (hy : x = y → Go K rm Z n0 bs ml ret own nm Q kc ks h pc' L S) (hn : ¬ (x = y) → Go K rm Z n0 bs ml ret own nm Q kc ks h pc2 L S) : Go K rm Z n0 bs ml ret own nm Q kc ks h pc L (.int y :: .int x :: S) := by
  subst hp2
  by_cases q : x = y
  · have q2 := (holds_iff .eq x y).mpr q
    replace hy := hy q
    obtain ⟨p, l, e, s, m, args, below, meth, c⟩ := K
    intro hx hby hml hown hZ hret hlk hnm T locs X hF hh
    obtain ⟨s₂, v, L', st, r⟩ := hy hx hby hml hown hZ hret hlk hnm T locs X hF hh
    exact ⟨s₂, v, L', XS.icmpYes X.here hx rfl (pc0 := pc) (pc' := pc') rfl (hb hby hd) rfl q2 ho hp st, r⟩
  · have q2 : if_icmp.holds .eq x y = false := by rw [← Bool.not_eq_true]; exact fun t => q ((holds_iff .eq x y).mp t)
    replace hn := hn q
    obtain ⟨p, l, e, s, m, args, below, meth, c⟩ := K
    intro hx hby hml hown hZ hret hlk hnm T locs X hF hh
    obtain ⟨s₂, v, L', st, r⟩ := hn hx hby hml hown hZ hret hlk hnm T locs X hF hh
    exact ⟨s₂, v, L', XS.icmpNo X.here hx rfl (hb hby hd) rfl q2 st, r⟩
theorem icmp_ne {x y : Int32} {o : Int} {pc2 : Nat} (hd : decode bs pc = .ok (.if_icmp .ne o, 3)) (ho : 0 ≤ (pc : Int) + o) (hp : ((pc : Int) + o).toNat = pc') (hp2 : pc + 3 = pc2)
    (hy : x ≠ y → Go K rm Z n0 bs ml ret own nm Q kc ks h pc' L S) (hn : ¬ (x ≠ y) → Go K rm Z n0 bs ml ret own nm Q kc ks h pc2 L S) : Go K rm Z n0 bs ml ret own nm Q kc ks h pc L (.int y :: .int x :: S) := by
  subst hp2
  by_cases q : x ≠ y
  · have q2 := (holds_iff .ne x y).mpr q
    replace hy := hy q
    obtain ⟨p, l, e, s, m, args, below, meth, c⟩ := K
    intro hx hby hml hown hZ hret hlk hnm T locs X hF hh
    obtain ⟨s₂, v, L', st, r⟩ := hy hx hby hml hown hZ hret hlk hnm T locs X hF hh
    exact ⟨s₂, v, L', XS.icmpYes X.here hx rfl (pc0 := pc) (pc' := pc') rfl (hb hby hd) rfl q2 ho hp st, r⟩
  · have q2 : if_icmp.holds .ne x y = false := by rw [← Bool.not_eq_true]; exact fun t => q ((holds_iff .ne x y).mp t)
    replace hn := hn q
    obtain ⟨p, l, e, s, m, args, below, meth, c⟩ := K
    intro hx hby hml hown hZ hret hlk hnm T locs X hF hh
    obtain ⟨s₂, v, L', st, r⟩ := hn hx hby hml hown hZ hret hlk hnm T locs X hF hh
    exact ⟨s₂, v, L', XS.icmpNo X.here hx rfl (hb hby hd) rfl q2 st, r⟩
theorem if_lt {x : Int32} {o : Int} {pc2 : Nat} (hd : decode bs pc = .ok (.ifCond .lt o, 3)) (ho : 0 ≤ (pc : Int) + o) (hp : ((pc : Int) + o).toNat = pc') (hp2 : pc + 3 = pc2)
    (hy : x.toInt < 0 → Go K rm Z n0 bs ml ret own nm Q kc ks h pc' L S) (hn : ¬ (x.toInt < 0) → Go K rm Z n0 bs ml ret own nm Q kc ks h pc2 L S) : Go K rm Z n0 bs ml ret own nm Q kc ks h pc L (.int x :: S) := by
  subst hp2
  by_cases q : x.toInt < 0
  · have q2 : ifCond.holds .lt x = true := (if0 _ _).trans ((holds_iff .lt x 0).mpr (by simpa using q))
    replace hy := hy q
    obtain ⟨p, l, e, s, m, args, below, meth, c⟩ := K
    intro hx hby hml hown hZ hret hlk hnm T locs X hF hh
    obtain ⟨s₂, v, L', st, r⟩ := hy hx hby hml hown hZ hret hlk hnm T locs X hF hh
    exact ⟨s₂, v, L', XS.ifYes X.here hx rfl (pc0 := pc) (pc' := pc') rfl (hb hby hd) rfl q2 ho hp st, r⟩
  · have q2 : ifCond.holds .lt x = false := by rw [← Bool.not_eq_true, if0]; exact fun t => q (by simpa using (holds_iff .lt x 0).mp t)
    replace hn := hn q
    obtain ⟨p, l, e, s, m, args, below, meth, c⟩ := K
    intro hx hby hml hown hZ hret hlk hnm T locs X hF hh
    obtain ⟨s₂, v, L', st, r⟩ := hn hx hby hml hown hZ hret hlk hnm T locs X hF hh
    exact ⟨s₂, v, L', XS.ifNo X.here hx rfl (hb hby hd) rfl q2 st, r⟩
theorem if_ge {x : Int32} {o : Int} {pc2 : Nat} (hd : decode bs pc = .ok (.ifCond .ge o, 3)) (ho : 0 ≤ (pc : Int) + o) (hp : ((pc : Int) + o).toNat = pc') (hp2 : pc + 3 = pc2)
    (hy : 0 ≤ x.toInt → Go K rm Z n0 bs ml ret own nm Q kc ks h pc' L S) (hn : ¬ (0 ≤ x.toInt) → Go K rm Z n0 bs ml ret own nm Q kc ks h pc2 L S) : Go K rm Z n0 bs ml ret own nm Q kc ks h pc L (.int x :: S) := by
  subst hp2
  by_cases q : 0 ≤ x.toInt
  · have q2 : ifCond.holds .ge x = true := (if0 _ _).trans ((holds_iff .ge x 0).mpr (by simpa using q))
    replace hy := hy q
    obtain ⟨p, l, e, s, m, args, below, meth, c⟩ := K
    intro hx hby hml hown hZ hret hlk hnm T locs X hF hh
    obtain ⟨s₂, v, L', st, r⟩ := hy hx hby hml hown hZ hret hlk hnm T locs X hF hh
    exact ⟨s₂, v, L', XS.ifYes X.here hx rfl (pc0 := pc) (pc' := pc') rfl (hb hby hd) rfl q2 ho hp st, r⟩
  · have q2 : ifCond.holds .ge x = false := by rw [← Bool.not_eq_true, if0]; exact fun t => q (by simpa using (holds_iff .ge x 0).mp t)
    replace hn := hn q
    obtain ⟨p, l, e, s, m, args, below, meth, c⟩ := K
    intro hx hby hml hown hZ hret hlk hnm T locs X hF hh
    obtain ⟨s₂, v, L', st, r⟩ := hn hx hby hml hown hZ hret hlk hnm T locs X hF hh
    exact ⟨s₂, v, L', XS.ifNo X.here hx rfl (hb hby hd) rfl q2 st, r⟩
theorem if_gt {x : Int32} {o : Int} {pc2 : Nat} (hd : decode bs pc = .ok (.ifCond .gt o, 3)) (ho : 0 ≤ (pc : Int) + o) (hp : ((pc : Int) + o).toNat = pc') (hp2 : pc + 3 = pc2)
    (hy : 0 < x.toInt → Go K rm Z n0 bs ml ret own nm Q kc ks h pc' L S) (hn : ¬ (0 < x.toInt) → Go K rm Z n0 bs ml ret own nm Q kc ks h pc2 L S) : Go K rm Z n0 bs ml ret own nm Q kc ks h pc L (.int x :: S) := by
  subst hp2
  by_cases q : 0 < x.toInt
  · have q2 : ifCond.holds .gt x = true := (if0 _ _).trans ((holds_iff .gt x 0).mpr (by simpa using q))
    replace hy := hy q
    obtain ⟨p, l, e, s, m, args, below, meth, c⟩ := K
    intro hx hby hml hown hZ hret hlk hnm T locs X hF hh
    obtain ⟨s₂, v, L', st, r⟩ := hy hx hby hml hown hZ hret hlk hnm T locs X hF hh
    exact ⟨s₂, v, L', XS.ifYes X.here hx rfl (pc0 := pc) (pc' := pc') rfl (hb hby hd) rfl q2 ho hp st, r⟩
  · have q2 : ifCond.holds .gt x = false := by rw [← Bool.not_eq_true, if0]; exact fun t => q (by simpa using (holds_iff .gt x 0).mp t)
    replace hn := hn q
    obtain ⟨p, l, e, s, m, args, below, meth, c⟩ := K
    intro hx hby hml hown hZ hret hlk hnm T locs X hF hh
    obtain ⟨s₂, v, L', st, r⟩ := hn hx hby hml hown hZ hret hlk hnm T locs X hF hh
    exact ⟨s₂, v, L', XS.ifNo X.here hx rfl (hb hby hd) rfl q2 st, r⟩
theorem if_le {x : Int32} {o : Int} {pc2 : Nat} (hd : decode bs pc = .ok (.ifCond .le o, 3)) (ho : 0 ≤ (pc : Int) + o) (hp : ((pc : Int) + o).toNat = pc') (hp2 : pc + 3 = pc2)
    (hy : x.toInt ≤ 0 → Go K rm Z n0 bs ml ret own nm Q kc ks h pc' L S) (hn : ¬ (x.toInt ≤ 0) → Go K rm Z n0 bs ml ret own nm Q kc ks h pc2 L S) : Go K rm Z n0 bs ml ret own nm Q kc ks h pc L (.int x :: S) := by
  subst hp2
  by_cases q : x.toInt ≤ 0
  · have q2 : ifCond.holds .le x = true := (if0 _ _).trans ((holds_iff .le x 0).mpr (by simpa using q))
    replace hy := hy q
    obtain ⟨p, l, e, s, m, args, below, meth, c⟩ := K
    intro hx hby hml hown hZ hret hlk hnm T locs X hF hh
    obtain ⟨s₂, v, L', st, r⟩ := hy hx hby hml hown hZ hret hlk hnm T locs X hF hh
    exact ⟨s₂, v, L', XS.ifYes X.here hx rfl (pc0 := pc) (pc' := pc') rfl (hb hby hd) rfl q2 ho hp st, r⟩
  · have q2 : ifCond.holds .le x = false := by rw [← Bool.not_eq_true, if0]; exact fun t => q (by simpa using (holds_iff .le x 0).mp t)
    replace hn := hn q
    obtain ⟨p, l, e, s, m, args, below, meth, c⟩ := K
    intro hx hby hml hown hZ hret hlk hnm T locs X hF hh
    obtain ⟨s₂, v, L', st, r⟩ := hn hx hby hml hown hZ hret hlk hnm T locs X hF hh
    exact ⟨s₂, v, L', XS.ifNo X.here hx rfl (hb hby hd) rfl q2 st, r⟩
theorem if_eq {x : Int32} {o : Int} {pc2 : Nat} (hd : decode bs pc = .ok (.ifCond .eq o, 3)) (ho : 0 ≤ (pc : Int) + o) (hp : ((pc : Int) + o).toNat = pc') (hp2 : pc + 3 = pc2)
    (hy : x = 0 → Go K rm Z n0 bs ml ret own nm Q kc ks h pc' L S) (hn : ¬ (x = 0) → Go K rm Z n0 bs ml ret own nm Q kc ks h pc2 L S) : Go K rm Z n0 bs ml ret own nm Q kc ks h pc L (.int x :: S) := by
  subst hp2
  by_cases q : x = 0
  · have q2 : ifCond.holds .eq x = true := (if0 _ _).trans ((holds_iff .eq x 0).mpr (by simpa using q))
    replace hy := hy q
    obtain ⟨p, l, e, s, m, args, below, meth, c⟩ := K
    intro hx hby hml hown hZ hret hlk hnm T locs X hF hh
    obtain ⟨s₂, v, L', st, r⟩ := hy hx hby hml hown hZ hret hlk hnm T locs X hF hh
    exact ⟨s₂, v, L', XS.ifYes X.here hx rfl (pc0 := pc) (pc' := pc') rfl (hb hby hd) rfl q2 ho hp st, r⟩
  · have q2 : ifCond.holds .eq x = false := by rw [← Bool.not_eq_true, if0]; exact fun t => q (by simpa using (holds_iff .eq x 0).mp t)
    replace hn := hn q
    obtain ⟨p, l, e, s, m, args, below, meth, c⟩ := K
    intro hx hby hml hown hZ hret hlk hnm T locs X hF hh
    obtain ⟨s₂, v, L', st, r⟩ := hn hx hby hml hown hZ hret hlk hnm T locs X hF hh
    exact ⟨s₂, v, L', XS.ifNo X.here hx rfl (hb hby hd) rfl q2 st, r⟩
theorem if_ne {x : Int32} {o : Int} {pc2 : Nat} (hd : decode bs pc = .ok (.ifCond .ne o, 3)) (ho : 0 ≤ (pc : Int) + o) (hp : ((pc : Int) + o).toNat = pc') (hp2 : pc + 3 = pc2)
    (hy : x ≠ 0 → Go K rm Z n0 bs ml ret own nm Q kc ks h pc' L S) (hn : ¬ (x ≠ 0) → Go K rm Z n0 bs ml ret own nm Q kc ks h pc2 L S) : Go K rm Z n0 bs ml ret own nm Q kc ks h pc L (.int x :: S) := by
  subst hp2
  by_cases q : x ≠ 0
  · have q2 : ifCond.holds .ne x = true := (if0 _ _).trans ((holds_iff .ne x 0).mpr (by simpa using q))
    replace hy := hy q
    obtain ⟨p, l, e, s, m, args, below, meth, c⟩ := K
    intro hx hby hml hown hZ hret hlk hnm T locs X hF hh
    obtain ⟨s₂, v, L', st, r⟩ := hy hx hby hml hown hZ hret hlk hnm T locs X hF hh
    exact ⟨s₂, v, L', XS.ifYes X.here hx rfl (pc0 := pc) (pc' := pc') rfl (hb hby hd) rfl q2 ho hp st, r⟩
  · have q2 : ifCond.holds .ne x = false := by rw [← Bool.not_eq_true, if0]; exact fun t => q (by simpa using (holds_iff .ne x 0).mp t)
    replace hn := hn q
    obtain ⟨p, l, e, s, m, args, below, meth, c⟩ := K
    intro hx hby hml hown hZ hret hlk hnm T locs X hF hh
    obtain ⟨s₂, v, L', st, r⟩ := hn hx hby hml hown hZ hret hlk hnm T locs X hF hh
    exact ⟨s₂, v, L', XS.ifNo X.here hx rfl (hb hby hd) rfl q2 st, r⟩
theorem lcmp0 {x y : Int64} (hd : decode bs pc = .ok (.lcmp, 1)) (hp : pc + 1 = pc') (hr : Go K rm Z n0 bs ml ret own nm Q kc ks h pc' L (.int (lcmpW x y) :: S)) : Go K rm Z n0 bs ml ret own nm Q kc ks h pc L (.long y :: .long x :: S) := by
  subst hp
  obtain ⟨p, l, e, s, m, args, below, meth, c⟩ := K
  intro hx hby hml hown hZ hret hlk hnm T locs X hF hh
  obtain ⟨s₂, v, L', st, r⟩ := hr hx hby hml hown hZ hret hlk hnm T locs X hF hh
  exact ⟨s₂, v, L', XS.lcmp X.here hx rfl (hb hby hd) rfl st, r⟩
theorem lw_pos (x y : Int64) : (lcmpW x y).toInt < 0 ↔ x.toInt < y.toInt := by
  have := lw_lt x y; rw [Int32.lt_iff_toInt_lt, Int64.lt_iff_toInt_lt] at this; simpa using this
theorem lw_neg (x y : Int64) : 0 < (lcmpW x y).toInt ↔ y.toInt < x.toInt := by
  have := lw_gt x y; rw [Int32.lt_iff_toInt_lt, Int64.lt_iff_toInt_lt] at this; simpa using this
theorem lcmp_lt {x y : Int64} {o : Int} {pc1 pc2 : Nat} (hd : decode bs pc = .ok (.lcmp, 1)) (hp1 : pc + 1 = pc1) (hd1 : decode bs pc1 = .ok (.ifCond .lt o, 3)) (ho : 0 ≤ (pc1 : Int) + o) (hp : ((pc1 : Int) + o).toNat = pc') (hp2 : pc1 + 3 = pc2)
    (hy : x.toInt < y.toInt → Go K rm Z n0 bs ml ret own nm Q kc ks h pc' L S) (hn : ¬ (x.toInt < y.toInt) → Go K rm Z n0 bs ml ret own nm Q kc ks h pc2 L S) : Go K rm Z n0 bs ml ret own nm Q kc ks h pc L (.long y :: .long x :: S) := by
  have e : ((lcmpW x y).toInt < 0) ↔ (x.toInt < y.toInt) := lw_pos x y
  exact lcmp0 hd hp1 (if_lt hd1 ho hp hp2 (fun q => hy (e.mp q)) (fun q => hn (fun t => q (e.mpr t))))
theorem lcmp_ge {x y : Int64} {o : Int} {pc1 pc2 : Nat} (hd : decode bs pc = .ok (.lcmp, 1)) (hp1 : pc + 1 = pc1) (hd1 : decode bs pc1 = .ok (.ifCond .ge o, 3)) (ho : 0 ≤ (pc1 : Int) + o) (hp : ((pc1 : Int) + o).toNat = pc') (hp2 : pc1 + 3 = pc2)
    (hy : y.toInt ≤ x.toInt → Go K rm Z n0 bs ml ret own nm Q kc ks h pc' L S) (hn : ¬ (y.toInt ≤ x.toInt) → Go K rm Z n0 bs ml ret own nm Q kc ks h pc2 L S) : Go K rm Z n0 bs ml ret own nm Q kc ks h pc L (.long y :: .long x :: S) := by
  have e : (0 ≤ (lcmpW x y).toInt) ↔ (y.toInt ≤ x.toInt) := (by rw [← Int.not_lt, ← Int.not_lt, lw_pos])
  exact lcmp0 hd hp1 (if_ge hd1 ho hp hp2 (fun q => hy (e.mp q)) (fun q => hn (fun t => q (e.mpr t))))
theorem lcmp_gt {x y : Int64} {o : Int} {pc1 pc2 : Nat} (hd : decode bs pc = .ok (.lcmp, 1)) (hp1 : pc + 1 = pc1) (hd1 : decode bs pc1 = .ok (.ifCond .gt o, 3)) (ho : 0 ≤ (pc1 : Int) + o) (hp : ((pc1 : Int) + o).toNat = pc') (hp2 : pc1 + 3 = pc2)
    (hy : y.toInt < x.toInt → Go K rm Z n0 bs ml ret own nm Q kc ks h pc' L S) (hn : ¬ (y.toInt < x.toInt) → Go K rm Z n0 bs ml ret own nm Q kc ks h pc2 L S) : Go K rm Z n0 bs ml ret own nm Q kc ks h pc L (.long y :: .long x :: S) := by
  have e : (0 < (lcmpW x y).toInt) ↔ (y.toInt < x.toInt) := lw_neg x y
  exact lcmp0 hd hp1 (if_gt hd1 ho hp hp2 (fun q => hy (e.mp q)) (fun q => hn (fun t => q (e.mpr t))))
theorem lcmp_le {x y : Int64} {o : Int} {pc1 pc2 : Nat} (hd : decode bs pc = .ok (.lcmp, 1)) (hp1 : pc + 1 = pc1) (hd1 : decode bs pc1 = .ok (.ifCond .le o, 3)) (ho : 0 ≤ (pc1 : Int) + o) (hp : ((pc1 : Int) + o).toNat = pc') (hp2 : pc1 + 3 = pc2)
    (hy : x.toInt ≤ y.toInt → Go K rm Z n0 bs ml ret own nm Q kc ks h pc' L S) (hn : ¬ (x.toInt ≤ y.toInt) → Go K rm Z n0 bs ml ret own nm Q kc ks h pc2 L S) : Go K rm Z n0 bs ml ret own nm Q kc ks h pc L (.long y :: .long x :: S) := by
  have e : ((lcmpW x y).toInt ≤ 0) ↔ (x.toInt ≤ y.toInt) := (by rw [← Int.not_lt, ← Int.not_lt, lw_neg])
  exact lcmp0 hd hp1 (if_le hd1 ho hp hp2 (fun q => hy (e.mp q)) (fun q => hn (fun t => q (e.mpr t))))
theorem lcmp_eq {x y : Int64} {o : Int} {pc1 pc2 : Nat} (hd : decode bs pc = .ok (.lcmp, 1)) (hp1 : pc + 1 = pc1) (hd1 : decode bs pc1 = .ok (.ifCond .eq o, 3)) (ho : 0 ≤ (pc1 : Int) + o) (hp : ((pc1 : Int) + o).toNat = pc') (hp2 : pc1 + 3 = pc2)
    (hy : x = y → Go K rm Z n0 bs ml ret own nm Q kc ks h pc' L S) (hn : ¬ (x = y) → Go K rm Z n0 bs ml ret own nm Q kc ks h pc2 L S) : Go K rm Z n0 bs ml ret own nm Q kc ks h pc L (.long y :: .long x :: S) := by
  have e : ((lcmpW x y) = 0) ↔ (x = y) := lw_eq x y
  exact lcmp0 hd hp1 (if_eq hd1 ho hp hp2 (fun q => hy (e.mp q)) (fun q => hn (fun t => q (e.mpr t))))
theorem lcmp_ne {x y : Int64} {o : Int} {pc1 pc2 : Nat} (hd : decode bs pc = .ok (.lcmp, 1)) (hp1 : pc + 1 = pc1) (hd1 : decode bs pc1 = .ok (.ifCond .ne o, 3)) (ho : 0 ≤ (pc1 : Int) + o) (hp : ((pc1 : Int) + o).toNat = pc') (hp2 : pc1 + 3 = pc2)
    (hy : x ≠ y → Go K rm Z n0 bs ml ret own nm Q kc ks h pc' L S) (hn : ¬ (x ≠ y) → Go K rm Z n0 bs ml ret own nm Q kc ks h pc2 L S) : Go K rm Z n0 bs ml ret own nm Q kc ks h pc L (.long y :: .long x :: S) := by
  have e : ((lcmpW x y) ≠ 0) ↔ (x ≠ y) := not_congr (lw_eq x y)
  exact lcmp0 hd hp1 (if_ne hd1 ho hp hp2 (fun q => hy (e.mp q)) (fun q => hn (fun t => q (e.mpr t))))
theorem ifnull_yes {o : Int} (hd : decode bs pc = .ok (.ifnull o, 3)) (ho : 0 ≤ (pc : Int) + o) (hp : ((pc : Int) + o).toNat = pc') (hr : Go K rm Z n0 bs ml ret own nm Q kc ks h pc' L S) : Go K rm Z n0 bs ml ret own nm Q kc ks h pc L (.null :: S) := by
  obtain ⟨p, l, e, s, m, args, below, meth, c⟩ := K
  intro hx hby hml hown hZ hret hlk hnm T locs X hF hh
  obtain ⟨s₂, v, L', st, r⟩ := hr hx hby hml hown hZ hret hlk hnm T locs X hF hh
  exact ⟨s₂, v, L', XS.ifnullYes X.here hx rfl (pc0 := pc) (pc' := pc') rfl (hb hby hd) rfl ho hp st, r⟩
theorem ifnull_no {o : Int} {b : Addr} (hd : decode bs pc = .ok (.ifnull o, 3)) (hp : pc + 3 = pc') (hr : Go K rm Z n0 bs ml ret own nm Q kc ks h pc' L S) : Go K rm Z n0 bs ml ret own nm Q kc ks h pc L (.ref b :: S) := by
  subst hp
  obtain ⟨p, l, e, s, m, args, below, meth, c⟩ := K
  intro hx hby hml hown hZ hret hlk hnm T locs X hF hh
  obtain ⟨s₂, v, L', st, r⟩ := hr hx hby hml hown hZ hret hlk hnm T locs X hF hh
  exact ⟨s₂, v, L', XS.ifnullNo X.here hx rfl (hb hby hd) rfl st, r⟩
theorem getfield {R0 O n d host : String} {idx : Nat} {a : Addr} {v : Value} (hd : decode bs pc = .ok (.getfield idx, 3)) (hp : pc + 3 = pc') (w : (Jvm.Cond.fieldLink own idx R0 n d).before a0 Z = true ∨ (Jvm.Cond.fieldLinkNest own idx R0 n d host).before a0 Z = true) (via : Via Z R0 O n d) (F : Fld Z h a O n d v) (hr : Go K rm Z n0 bs ml ret own nm Q kc ks h pc' L (v :: S)) : Go K rm Z n0 bs ml ret own nm Q kc ks h pc L (.ref a :: S) := by
  subst hp
  obtain ⟨p, l, e, s, m, args, below, meth, c⟩ := K
  intro hx hby hml hown hZ hret hlk hnm T locs X hF hh
  obtain ⟨T', X', e', st'⟩ := getF X hx hZ hown w via hh F (g := mkF m pc L (.ref a :: S)) rfl rfl (hb hby hd)
  obtain ⟨s₂, v, L', st, r⟩ := hr hx hby hml hown hZ hret hlk hnm T' locs X' hF e'
  exact ⟨s₂, v, L', st' _ st, r⟩
theorem getstatic {R0 O n d : String} {idx : Nat} {v : Value} (hd : decode bs pc = .ok (.getstatic idx, 3)) (hp : pc + 3 = pc') (w : (Jvm.Cond.fieldLink own idx R0 n d).before a0 Z = true) (via : Via Z R0 O n d) (F : Sta Z h O n d v) (hr : Go K rm Z n0 bs ml ret own nm Q kc ks h pc' L (v :: S)) : Go K rm Z n0 bs ml ret own nm Q kc ks h pc L S := by
  subst hp
  obtain ⟨p, l, e, s, m, args, below, meth, c⟩ := K
  intro hx hby hml hown hZ hret hlk hnm T locs X hF hh
  obtain ⟨T', X', e', st'⟩ := getS (host := "") X hx hZ hown w via hh F (g := mkF m pc L S) rfl (hb hby hd)
  obtain ⟨s₂, v, L', st, r⟩ := hr hx hby hml hown hZ hret hlk hnm T' locs X' hF e'
  exact ⟨s₂, v, L', st' _ st, r⟩
theorem putfield {R0 O n d host C : String} {idx kk : Nat} {ty : FieldType} {a : Addr} {v old : Value} (hd : decode bs pc = .ok (.putfield idx, 3)) (hp : pc + 3 = pc') (w : (Jvm.Cond.fieldLink own idx R0 n d).before a0 Z = true ∨ (Jvm.Cond.fieldLinkNest own idx R0 n d host).before a0 Z = true) (via : Via Z R0 O n d)
    (F : Fld Z h a O n d old) (E : Exa Z h a C) (Lw : (Jvm.Cond.lays C O n d).before a0 Z = true ∨ ((Jvm.Cond.laysFinal C O n d).before a0 Z = true ∧ own = O ∧ nm = "<init>")) (wi : (Jvm.Cond.instantiable C kk).before a0 Z = true)
    (hty : parseFieldDescriptor d = some ty) (hn : narrow ty v = v) (hf : fits ty v = true) (hg : n0 ≤ a) (hr : ∀ h', Wr h h' a (Jvm.RoadKit.slotOf Z O n d) v → Go K rm Z n0 bs ml ret own nm Q kc ks h' pc' L S) : Go K rm Z n0 bs ml ret own nm Q kc ks h pc L (v :: .ref a :: S) := by
  subst hp
  obtain ⟨p, l, e, s, m, args, below, meth, c⟩ := K
  intro hx hby hml hown hZ hret hlk hnm T locs X hF hh
  obtain ⟨T', h', X', e', W', st'⟩ := putF X hx hZ hown w via hh F E (Lw.imp id fun q => ⟨q.1, q.2.1, hnm.trans q.2.2⟩) wi hty hn hf (g := mkF m pc L (v :: .ref a :: S)) rfl rfl (hb hby hd)
  obtain ⟨s₂, v, L', st, r⟩ := hr h' W' hx hby hml hown hZ hret hlk hnm T' _ X' (Fr.snoc X' hF hg) e'
  exact ⟨s₂, v, L', st' _ st, r⟩
theorem newobj {C : String} {idx n : Nat} (hd : decode bs pc = .ok (.new idx, 3)) (hp : pc + 3 = pc') (w : (Jvm.Cond.classLink own idx C).before a0 Z = true) (wi : (Jvm.Cond.instantiable C n).before a0 Z = true) (wz : (Jvm.Cond.initialized C).before a0 Z = true) (hc : kc + 1 ≤ rm.cells) (hs : ks + n ≤ rm.slots)
    (hr : ∀ a h', a = h.size → Ext h h' → Exa Z h' a C → (∀ {O nm d : String} {ty : FieldType}, Laid Z a0 C O nm d → parseFieldDescriptor d = some ty → Fld Z h' a O nm d (defaultValue ty)) → Go K rm Z n0 bs ml ret own nm Q (kc + 1) (ks + n) h' pc' L (.ref a :: S)) : Go K rm Z n0 bs ml ret own nm Q kc ks h pc L S := by
  subst hp
  obtain ⟨p, l, e, s, m, args, below, meth, c⟩ := K
  intro hx hby hml hown hZ hret hlk hnm T locs X hF hh
  obtain ⟨T', h', X', e', E', A', D', -, st'⟩ := newO X hx hZ hown w wi wz hh (g := mkF m pc L S) rfl (hb hby hd) hc hs
  obtain ⟨s₂, v, L', st, r⟩ := hr _ h' rfl E' A' D' hx hby hml hown hZ hret hlk hnm T' _ X' hF e'
  exact ⟨s₂, v, L', st' _ st, r⟩
theorem objinit {idx : Nat} {a : Addr} (hd : decode bs pc = .ok (.invokespecial idx, 3)) (hp : pc + 3 = pc') (w1 : (Jvm.Cond.methodLink own idx Lib.objectInit).before a0 Z = true) (w2 : (Jvm.Cond.instanceMethod Lib.objectInit).before a0 Z = true) (w3 : (Jvm.Cond.code Lib.objectInit ⟨#[0xb1]⟩ 1 none).before a0 Z = true)
    (hL : L.size = ml) (hf : 1 ≤ rm.frames) {W : Nat} (hW : (S.map fun v => v.category).sum = W) (hl : W + 12 ≤ rm.locals) (hr : Go K rm Z n0 bs ml ret own nm Q kc ks h pc' L S) : Go K rm Z n0 bs ml ret own nm Q kc ks h pc L (.ref a :: S) := by
  subst hp
  obtain ⟨p, l, e, s, m, args, below, meth, c⟩ := K
  intro hx hby hml hown hZ hret hlk hnm T locs X hF hh
  obtain ⟨T', X', e', st'⟩ := initO X hx hZ hown w1 w2 w3 hh (g := mkF m pc L (.ref a :: S)) rfl (by rw [hml]; exact hL) rfl (hb hby hd) hf (W := W) (by show 2 * 0 + _ ≤ _; omega) hl
  obtain ⟨s₂, v, L', st, r⟩ := hr hx hby hml hown hZ hret hlk hnm T' locs X' hF e'
  exact ⟨s₂, v, L', st' _ st, r⟩
theorem static {W : Nat} {y : MethodName} {bs' : ByteArray} {ml' idx : Nat} {ret' : Option FieldType} {rm' : Room} {as rest : List Value} {Q' : Option Value → Heap → Prop} (hd : decode bs pc = .ok (.invokestatic idx, 3)) (hp : pc + 3 = pc') (w1 : (Jvm.Cond.methodLink own idx y).before a0 Z = true) (w2 : (Jvm.Cond.static y).before a0 Z = true) (w3 : (Jvm.Cond.initialized y.cls).before a0 Z = true) (w4 : (Jvm.Cond.code y bs' ml' ret').before a0 Z = true)
    (hy : y.cls ≠ "java/lang/invoke/MethodHandle" ∧ y.cls ≠ "java/lang/invoke/VarHandle") (C : Con Z n0 y bs' ml' ret' rm' as h Q') (hst : S = as.reverse ++ rest) (hL : L.size = ml) (hlen : ∀ sig, parseMethodDescriptor y.desc = some sig → as.length = sig.parameters.length)
    (hf : rm'.frames + 1 ≤ rm.frames) (hW : (rest.map fun v => v.category).sum = W) (hl : W + (ml' + 11) + rm'.locals ≤ rm.locals) (hc : kc + rm'.cells ≤ rm.cells) (hs : ks + rm'.slots ≤ rm.slots)
    (hr : ∀ v h', Q' v h' → Go K rm Z n0 bs ml ret own nm Q (kc + rm'.cells) (ks + rm'.slots) h' pc' L (v.toList ++ rest)) : Go K rm Z n0 bs ml ret own nm Q kc ks h pc L S := by
  subst hp
  obtain ⟨p, l, e, s, m, args, below, meth, c⟩ := K
  intro hx hby hml hown hZ hret hlk hnm T locs X hF hh
  obtain ⟨_, _, ⟨T', L1, k1, n1⟩, -, X', ⟨Lc, hQ, l1, y1, z1⟩, st'⟩ := Jvm.LawKit.callS X hx hown (mvT hZ w1) (mvT hZ w2) (mvT hZ w3) (mvT hZ w4) hy (backOf (Q := fun v h L => Q' v h ∧ Fr n0 L) (W := W) (C l) hZ w4 w3 hf hl) (g := mkF m pc L S) rfl (by rw [hml]; exact hL) (argsL := as) (rest := rest) hlen hst (by show 2 * 0 + _ ≤ _; omega) (hb hby hd) (fun _ _ => ⟨rfl, hh, hc, hs⟩)
  dsimp only [Pt.U, Pt.locs, Pt.cells, Pt.slots] at X' l1 y1 z1 st' hQ
  subst l1 y1 z1
  obtain ⟨s₂, v, L', st, r⟩ := hr _ _ hQ.1 hx hby hml hown hZ hret hlk hnm T' _ X' (Fr.app hF hQ.2) rfl
  exact ⟨s₂, v, L', st' _ st, r⟩
theorem special {W : Nat} {y : MethodName} {bs' : ByteArray} {ml' idx : Nat} {rm' : Room} {as rest : List Value} {Q' : Option Value → Heap → Prop} {a : Addr} (hd : decode bs pc = .ok (.invokespecial idx, 3)) (hp : pc + 3 = pc') (hy1 : y.name = "<init>") (w1 : (Jvm.Cond.methodLink own idx y).before a0 Z = true) (w2 : (Jvm.Cond.instanceMethod y).before a0 Z = true) (w3 : (Jvm.Cond.initialized y.cls).before a0 Z = true) (w4 : (Jvm.Cond.code y bs' ml' none).before a0 Z = true)
    (hy : y.cls ≠ "java/lang/invoke/MethodHandle" ∧ y.cls ≠ "java/lang/invoke/VarHandle") (C : Con Z n0 y bs' ml' none rm' (.ref a :: as) h Q') (hst : S = as.reverse ++ .ref a :: rest) (hL : L.size = ml) (hlen : ∀ sig, parseMethodDescriptor y.desc = some sig → as.length = sig.parameters.length)
    (hf : rm'.frames + 1 ≤ rm.frames) (hW : (rest.map fun v => v.category).sum = W) (hl : W + (ml' + 11) + rm'.locals ≤ rm.locals) (hc : kc + rm'.cells ≤ rm.cells) (hs : ks + rm'.slots ≤ rm.slots)
    (hr : ∀ v h', Q' v h' → Go K rm Z n0 bs ml ret own nm Q (kc + rm'.cells) (ks + rm'.slots) h' pc' L (v.toList ++ rest)) : Go K rm Z n0 bs ml ret own nm Q kc ks h pc L S := by
  subst hp
  obtain ⟨p, l, e, s, m, args, below, meth, c⟩ := K
  intro hx hby hml hown hZ hret hlk hnm T locs X hF hh
  obtain ⟨_, _, ⟨T', L1, k1, n1⟩, -, X', ⟨Lc, hQ, l1, y1, z1⟩, st'⟩ := X.specialBack hx hy1 hown (mvT hZ w1) (mvT hZ w2) (mvT hZ w4) hy (backOf (Q := fun v h L => Q' v h ∧ Fr n0 L) (W := W) (C l) hZ w4 w3 hf hl) (g := mkF m pc L S) rfl (by rw [hml]; exact hL) (Steps.refl _) (a := a) (argsL := as) (rest := rest) hlen hst (by show 2 * 0 + _ ≤ _; omega) (hb hby hd) (fun _ _ => ⟨rfl, hh, hc, hs⟩)
  dsimp only [Pt.U, Pt.locs, Pt.cells, Pt.slots] at X' l1 y1 z1 st' hQ
  subst l1 y1 z1
  obtain ⟨s₂, v, L', st, r⟩ := hr _ _ hQ.1 hx hby hml hown hZ hret hlk hnm T' _ X' (Fr.app hF hQ.2) rfl
  exact ⟨s₂, v, L', st'.trans st, r⟩
theorem virtual {W : Nat} {y : MethodName} {bs' : ByteArray} {ml' idx : Nat} {ret' : Option FieldType} {rm' : Room} {as rest : List Value} {Q' : Option Value → Heap → Prop} {C' : String} {a : Addr} (hd : decode bs pc = .ok (.invokevirtual idx, 3)) (hp : pc + 3 = pc') (w1 : (Jvm.Cond.methodLink own idx y).before a0 Z = true) (w2 : (Jvm.Cond.declares y).before a0 Z = true) (w5 : (Jvm.Cond.selects C' y y).before a0 Z = true) (w6 : (Jvm.Cond.instanceMethod y).before a0 Z = true) (w3 : (Jvm.Cond.initialized y.cls).before a0 Z = true) (w4 : (Jvm.Cond.code y bs' ml' ret').before a0 Z = true)
    (hy : y.cls ≠ "java/lang/invoke/MethodHandle" ∧ y.cls ≠ "java/lang/invoke/VarHandle") (E : Exa Z h a C') (C : Con Z n0 y bs' ml' ret' rm' (.ref a :: as) h Q') (hst : S = as.reverse ++ .ref a :: rest) (hL : L.size = ml) (hlen : ∀ sig, parseMethodDescriptor y.desc = some sig → as.length = sig.parameters.length)
    (hf : rm'.frames + 1 ≤ rm.frames) (hW : (rest.map fun v => v.category).sum = W) (hl : W + (ml' + 11) + rm'.locals ≤ rm.locals) (hc : kc + rm'.cells ≤ rm.cells) (hs : ks + rm'.slots ≤ rm.slots)
    (hr : ∀ v h', Q' v h' → Go K rm Z n0 bs ml ret own nm Q (kc + rm'.cells) (ks + rm'.slots) h' pc' L (v.toList ++ rest)) : Go K rm Z n0 bs ml ret own nm Q kc ks h pc L S := by
  subst hp
  obtain ⟨p, l, e, s, m, args, below, meth, c⟩ := K
  intro hx hby hml hown hZ hret hlk hnm T locs X hF hh
  obtain ⟨cq, kq, qa, qb, qc⟩ := isOf (T := T) hZ hh E
  obtain ⟨_, _, ⟨T', L1, k1, n1⟩, -, X', ⟨Lc, hQ, l1, y1, z1⟩, st'⟩ := X.virtualBack hx (y := y) (z := y) hown (mvT hZ w1) (mvT hZ w2) (notFace_of_selects (args := #[]) (mvT hZ w5)) (mvT hZ w5) (mvT hZ w6) hy (backOf (Q := fun v h L => Q' v h ∧ Fr n0 L) (W := W) (C l) hZ w4 w3 hf hl) qa qc (g := mkF m pc L S) rfl (by rw [hml]; exact hL) (Steps.refl _) (argsL := as) (rest := rest) hlen hst (by show 2 * 0 + _ ≤ _; omega) (hb hby hd) (fun _ _ => ⟨rfl, hh, hc, hs⟩)
  dsimp only [Pt.U, Pt.locs, Pt.cells, Pt.slots] at X' l1 y1 z1 st' hQ
  subst l1 y1 z1
  obtain ⟨s₂, v, L', st, r⟩ := hr _ _ hQ.1 hx hby hml hown hZ hret hlk hnm T' _ X' (Fr.app hF hQ.2) rfl
  exact ⟨s₂, v, L', st'.trans st, r⟩
theorem privat {W : Nat} {y : MethodName} {bs' : ByteArray} {ml' idx : Nat} {ret' : Option FieldType} {rm' : Room} {as rest : List Value} {Q' : Option Value → Heap → Prop} {a : Addr} (hd : decode bs pc = .ok (.invokevirtual idx, 3)) (hp : pc + 3 = pc') (w1 : (Jvm.Cond.methodLink own idx y).before a0 Z = true) (w6 : (Jvm.Cond.instanceMethod y).before a0 Z = true) (w5 : (Jvm.Cond.selects y.cls y y).before a0 Z = true) (w7 : (Jvm.Cond.privateMethod y).before a0 Z = true) (w3 : (Jvm.Cond.initialized y.cls).before a0 Z = true) (w4 : (Jvm.Cond.code y bs' ml' ret').before a0 Z = true)
    (hy : y.cls ≠ "java/lang/invoke/MethodHandle" ∧ y.cls ≠ "java/lang/invoke/VarHandle") (E : Exa Z h a y.cls) (C : Con Z n0 y bs' ml' ret' rm' (.ref a :: as) h Q') (hst : S = as.reverse ++ .ref a :: rest) (hL : L.size = ml) (hlen : ∀ sig, parseMethodDescriptor y.desc = some sig → as.length = sig.parameters.length)
    (hf : rm'.frames + 1 ≤ rm.frames) (hW : (rest.map fun v => v.category).sum = W) (hl : W + (ml' + 11) + rm'.locals ≤ rm.locals) (hc : kc + rm'.cells ≤ rm.cells) (hs : ks + rm'.slots ≤ rm.slots)
    (hr : ∀ v h', Q' v h' → Go K rm Z n0 bs ml ret own nm Q (kc + rm'.cells) (ks + rm'.slots) h' pc' L (v.toList ++ rest)) : Go K rm Z n0 bs ml ret own nm Q kc ks h pc L S := by
  subst hp
  obtain ⟨p, l, e, s, m, args, below, meth, c⟩ := K
  intro hx hby hml hown hZ hret hlk hnm T locs X hF hh
  obtain ⟨cq, q1, q2⟩ := E.cell
  obtain ⟨_, _, ⟨T', L1, k1, n1⟩, -, X', ⟨Lc, hQ, l1, y1, z1⟩, st'⟩ := X.privateBack hx hown (mvT hZ w1) (mvT hZ w6) (mvT hZ w5) (Cond.privateMethod_at (mvP hZ w7 (args := #[]))) (mvT hZ w4) hy (backOf (Q := fun v h L => Q' v h ∧ Fr n0 L) (W := W) (C l) hZ w4 w3 hf hl) (g := mkF m pc L S) rfl (by rw [hml]; exact hL) (Steps.refl _) (a := a) (by rw [hh]; exact q1) q2 (argsL := as) (rest := rest) hlen hst (by show 2 * 0 + _ ≤ _; omega) (hb hby hd) (fun _ _ => ⟨rfl, hh, hc, hs⟩)
  dsimp only [Pt.U, Pt.locs, Pt.cells, Pt.slots] at X' l1 y1 z1 st' hQ
  subst l1 y1 z1
  obtain ⟨s₂, v, L', st, r⟩ := hr _ _ hQ.1 hx hby hml hown hZ hret hlk hnm T' _ X' (Fr.app hF hQ.2) rfl
  exact ⟨s₂, v, L', st'.trans st, r⟩
theorem ireturnZ {z z' : Int32} (hd : decode bs pc = .ok (.ireturn, 1)) (ht : ret = some .boolean) (hz : nar .boolean z = z') (hQ : Q (some (.int z')) h) (hc : kc ≤ rm.cells) (hs : ks ≤ rm.slots) : Go K rm Z n0 bs ml ret own nm Q kc ks h pc L (.int z :: S) := by
  subst ht hz
  obtain ⟨p, l, e, s, m, args, below, meth, c⟩ := K
  intro hx hby hml hown hZ hret hlk hnm T locs X hF hh
  obtain ⟨fs, hr, hrun, hended, hW, hsame⟩ := X.leave (v := some (.int (nar .boolean z))) (fun q => by rw [hret] at q; cases q) hlk
  exact ⟨T.setFrames fs, _, locs, retN X hx (t := .boolean) hret (by simp) (hb hby hd) hr, hrun, hended, by rw [show (T.setFrames fs).heap = h from hh]; exact hQ, hF, ⟨_, rfl⟩, hW, hsame.mono hc hs⟩
theorem ireturnI {z : Int32} (hd : decode bs pc = .ok (.ireturn, 1)) (ht : ret = some .int) (hQ : Q (some (.int z)) h) (hc : kc ≤ rm.cells) (hs : ks ≤ rm.slots) : Go K rm Z n0 bs ml ret own nm Q kc ks h pc L (.int z :: S) := by
  subst ht
  obtain ⟨p, l, e, s, m, args, below, meth, c⟩ := K
  intro hx hby hml hown hZ hret hlk hnm T locs X hF hh
  obtain ⟨fs, hr, hrun, hended, hW, hsame⟩ := X.leave (v := some (.int z)) (fun q => by rw [hret] at q; cases q) hlk
  exact ⟨T.setFrames fs, _, locs, retOut X hx hret rfl (Or.inl ⟨rfl, Or.inl rfl, z, rfl⟩) (hb hby hd) hr, hrun, hended, by rw [show (T.setFrames fs).heap = h from hh]; exact hQ, hF, ⟨_, rfl⟩, hW, hsame.mono hc hs⟩
theorem lreturn {z : Int64} (hd : decode bs pc = .ok (.lreturn, 1)) (ht : ret = some .long) (hQ : Q (some (.long z)) h) (hc : kc ≤ rm.cells) (hs : ks ≤ rm.slots) : Go K rm Z n0 bs ml ret own nm Q kc ks h pc L (.long z :: S) := by
  subst ht
  obtain ⟨p, l, e, s, m, args, below, meth, c⟩ := K
  intro hx hby hml hown hZ hret hlk hnm T locs X hF hh
  obtain ⟨fs, hr, hrun, hended, hW, hsame⟩ := X.leave (v := some (.long z)) (fun q => by rw [hret] at q; cases q) hlk
  exact ⟨T.setFrames fs, _, locs, retOut X hx hret rfl (Or.inr (Or.inl ⟨rfl, rfl, z, rfl⟩)) (hb hby hd) hr, hrun, hended, by rw [show (T.setFrames fs).heap = h from hh]; exact hQ, hF, ⟨_, rfl⟩, hW, hsame.mono hc hs⟩
theorem areturn {t : FieldType} {v : Value} (hd : decode bs pc = .ok (.areturn, 1)) (ht : ret = some t) (htr : t.isReference = true) (hv : v.isRef = true) (hnn : narrow t v = v) (hQ : Q (some v) h) (hc : kc ≤ rm.cells) (hs : ks ≤ rm.slots) : Go K rm Z n0 bs ml ret own nm Q kc ks h pc L (v :: S) := by
  subst ht
  obtain ⟨p, l, e, s, m, args, below, meth, c⟩ := K
  intro hx hby hml hown hZ hret hlk hnm T locs X hF hh
  obtain ⟨fs, hr, hrun, hended, hW, hsame⟩ := X.leave (v := some v) (fun q => by rw [hret] at q; cases q) hlk
  exact ⟨T.setFrames fs, _, locs, retOut X hx hret hnn (Or.inr (Or.inr (Or.inr (Or.inr ⟨rfl, htr, hv⟩)))) (hb hby hd) hr, hrun, hended, by rw [show (T.setFrames fs).heap = h from hh]; exact hQ, hF, ⟨_, rfl⟩, hW, hsame.mono hc hs⟩
theorem vreturn (hd : decode bs pc = .ok (.return_, 1)) (ht : ret = none) (hQ : Q none h) (hc : kc ≤ rm.cells) (hs : ks ≤ rm.slots) : Go K rm Z n0 bs ml ret own nm Q kc ks h pc L [] := by
  subst ht
  obtain ⟨p, l, e, s, m, args, below, meth, c⟩ := K
  intro hx hby hml hown hZ hret hlk hnm T locs X hF hh
  obtain ⟨fs, hr, hrun, hended, hW, hsame⟩ := X.leave (v := none) (fun _ => rfl) hlk
  exact ⟨T.setFrames fs, _, locs, X.returnOut hx hret (hb hby hd) hr, hrun, hended, by rw [show (T.setFrames fs).heap = h from hh]; exact hQ, hF, ⟨_, rfl⟩, hW, hsame.mono hc hs⟩
theorem join {pc2 : Nat} {L2 : Array Slot} {S2 : List Value} (h1 : Go K rm Z n0 bs ml ret own nm Q kc ks h pc2 L2 S2 → Go K rm Z n0 bs ml ret own nm Q kc ks h pc L S) (h2 : Go K rm Z n0 bs ml ret own nm Q kc ks h pc2 L2 S2) : Go K rm Z n0 bs ml ret own nm Q kc ks h pc L S := h1 h2
theorem ifnonnull_yes {o : Int} {b : Addr} (hd : decode bs pc = .ok (.ifnonnull o, 3)) (ho : 0 ≤ (pc : Int) + o) (hp : ((pc : Int) + o).toNat = pc') (hr : Go K rm Z n0 bs ml ret own nm Q kc ks h pc' L S) : Go K rm Z n0 bs ml ret own nm Q kc ks h pc L (.ref b :: S) := by
  obtain ⟨p, l, e, s, m, args, below, meth, c⟩ := K
  intro hx hby hml hown hZ hret hlk hnm T locs X hF hh
  obtain ⟨s₂, v, L', st, r⟩ := hr hx hby hml hown hZ hret hlk hnm T locs X hF hh
  exact ⟨s₂, v, L', XS.ifnonnullYes X.here hx rfl (pc0 := pc) (pc' := pc') rfl (hb hby hd) rfl ho hp st, r⟩
theorem Go.more {kc' ks' : Nat} (hc : kc ≤ kc') (hs : ks ≤ ks') (hr : Go K rm Z n0 bs ml ret own nm Q kc' ks' h pc L S) : Go K rm Z n0 bs ml ret own nm Q kc ks h pc L S := by
  obtain ⟨p, l, e, s, m, args, below, meth, c⟩ := K
  intro hx hby hml hown hZ hret hlk hnm T locs X hF hh
  exact hr hx hby hml hown hZ hret hlk hnm T locs (X.more hc hs) hF hh
theorem Con.post {y : MethodName} {rm' : Room} {bs' : ByteArray} {ml' : Nat} {ret' : Option FieldType} {as : List Value} {Q1 Q2 : Option Value → Heap → Prop} (C : Con Z n0 y bs' ml' ret' rm' as h Q1) (q : ∀ v h', Q1 v h' → Q2 v h') : Con Z n0 y bs' ml' ret' rm' as h Q2 := fun l p e h1 h2 h3 s m args below h4 h5 h6 h7 => by
  obtain ⟨n, o, g1, g2, g3, v, L, g4, g5, g6⟩ := C l p e h1 h2 h3 s m args below h4 h5 h6 h7
  exact ⟨n, o, g1, g2, g3, v, L, g4, ⟨q _ _ g5.1, g5.2⟩, g6⟩
/-- an int[] of n places that hold f 0 .. f (n - 1) -/
def AI (Z : State) (h : Heap) (a : Addr) (n : Nat) (f : Nat → Int32) : Prop := ∃ cl : Cell, Arr Z h a cl .int ∧ cl.slots.size = n ∧ n < 2 ^ 31 ∧ ∀ k, k < n → cl.slots[k]? = some (.int (f k))
def AJ (Z : State) (h : Heap) (a : Addr) (n : Nat) (f : Nat → Int64) : Prop := ∃ cl : Cell, Arr Z h a cl .long ∧ cl.slots.size = n ∧ n < 2 ^ 31 ∧ ∀ k, k < n → cl.slots[k]? = some (.long (f k))
def AB (Z : State) (h : Heap) (a : Addr) (n : Nat) (f : Nat → Int32) : Prop := ∃ cl : Cell, Arr Z h a cl .byte ∧ cl.slots.size = n ∧ n < 2 ^ 31 ∧ ∀ k, k < n → cl.slots[k]? = some (.int (f k))
def upd {α : Type} (f : Nat → α) (i : Nat) (x : α) : Nat → α := fun k => if k = i then x else f k
theorem inb {j : Int32} {i n : Nat} (hj : j.toInt = (i : Int)) (hi : i < n) : ¬ (j < 0 ∨ n ≤ j.toNatClampNeg) ∧ j.toNatClampNeg = i := by
  have e : j.toNatClampNeg = i := by simp [Int32.toNatClampNeg, hj]
  refine ⟨?_, e⟩
  rw [e, Int32.lt_iff_toInt_lt, hj]
  simp; omega
theorem AI.ext {h' : Heap} {a : Addr} {n : Nat} {f : Nat → Int32} (F : AI Z h a n f) (E : Ext h h') : AI Z h' a n f := by obtain ⟨c, A, r⟩ := F; exact ⟨c, A.ext E, r⟩
theorem AI.other {h' : Heap} {a b : Addr} {sl n : Nat} {v : Value} {f : Nat → Int32} (F : AI Z h b n f) (W : Wr h h' a sl v) (q : b ≠ a) : AI Z h' b n f := by obtain ⟨c, A, r⟩ := F; exact ⟨c, A.other W q, r⟩
theorem AI.keep {h' : Heap} {a : Addr} {n : Nat} {ws : List Addr} {f : Nat → Int32} (F : AI Z h a n f) (K : Keep h h' ws) (q : a ∉ ws) : AI Z h' a n f := by obtain ⟨c, A, r⟩ := F; exact ⟨c, ⟨K.2.1 a c A.1 q, A.2⟩, r⟩
theorem AI.lt {a : Addr} {n : Nat} {f : Nat → Int32} (F : AI Z h a n f) : a < h.size := by obtain ⟨c, A, -⟩ := F; exact A.lt
theorem AI.set {h' : Heap} {a : Addr} {n i : Nat} {x : Int32} {f : Nat → Int32} (F : AI Z h a n f) (W : Wr h h' a i (.int x)) : AI Z h' a n (upd f i x) := by
  obtain ⟨c, A, r1, r2, r3⟩ := F
  refine ⟨_, A.same W, by rw [sz_set]; exact r1, r2, fun k hk => ?_⟩
  by_cases e : k = i
  · subst e; simp [Cell.setSlot, upd, r1, hk]
  · rw [show (c.setSlot i (.int x)).slots[k]? = c.slots[k]? from Array.getElem?_setIfInBounds_ne (Ne.symm e), r3 k hk]; simp [upd, e]
theorem AI.cong {a : Addr} {n : Nat} {f g : Nat → Int32} (F : AI Z h a n f) (q : ∀ k, k < n → f k = g k) : AI Z h a n g := by obtain ⟨c, A, r1, r2, r3⟩ := F; exact ⟨c, A, r1, r2, fun k hk => by rw [r3 k hk, q k hk]⟩
theorem AJ.ext {h' : Heap} {a : Addr} {n : Nat} {f : Nat → Int64} (F : AJ Z h a n f) (E : Ext h h') : AJ Z h' a n f := by obtain ⟨c, A, r⟩ := F; exact ⟨c, A.ext E, r⟩
theorem AJ.other {h' : Heap} {a b : Addr} {sl n : Nat} {v : Value} {f : Nat → Int64} (F : AJ Z h b n f) (W : Wr h h' a sl v) (q : b ≠ a) : AJ Z h' b n f := by obtain ⟨c, A, r⟩ := F; exact ⟨c, A.other W q, r⟩
theorem AJ.keep {h' : Heap} {a : Addr} {n : Nat} {ws : List Addr} {f : Nat → Int64} (F : AJ Z h a n f) (K : Keep h h' ws) (q : a ∉ ws) : AJ Z h' a n f := by obtain ⟨c, A, r⟩ := F; exact ⟨c, ⟨K.2.1 a c A.1 q, A.2⟩, r⟩
theorem AJ.lt {a : Addr} {n : Nat} {f : Nat → Int64} (F : AJ Z h a n f) : a < h.size := by obtain ⟨c, A, -⟩ := F; exact A.lt
theorem AJ.set {h' : Heap} {a : Addr} {n i : Nat} {x : Int64} {f : Nat → Int64} (F : AJ Z h a n f) (W : Wr h h' a i (.long x)) : AJ Z h' a n (upd f i x) := by
  obtain ⟨c, A, r1, r2, r3⟩ := F
  refine ⟨_, A.same W, by rw [sz_set]; exact r1, r2, fun k hk => ?_⟩
  by_cases e : k = i
  · subst e; simp [Cell.setSlot, upd, r1, hk]
  · rw [show (c.setSlot i (.long x)).slots[k]? = c.slots[k]? from Array.getElem?_setIfInBounds_ne (Ne.symm e), r3 k hk]; simp [upd, e]
theorem AJ.cong {a : Addr} {n : Nat} {f g : Nat → Int64} (F : AJ Z h a n f) (q : ∀ k, k < n → f k = g k) : AJ Z h a n g := by obtain ⟨c, A, r1, r2, r3⟩ := F; exact ⟨c, A, r1, r2, fun k hk => by rw [r3 k hk, q k hk]⟩
theorem AB.ext {h' : Heap} {a : Addr} {n : Nat} {f : Nat → Int32} (F : AB Z h a n f) (E : Ext h h') : AB Z h' a n f := by obtain ⟨c, A, r⟩ := F; exact ⟨c, A.ext E, r⟩
theorem AB.other {h' : Heap} {a b : Addr} {sl n : Nat} {v : Value} {f : Nat → Int32} (F : AB Z h b n f) (W : Wr h h' a sl v) (q : b ≠ a) : AB Z h' b n f := by obtain ⟨c, A, r⟩ := F; exact ⟨c, A.other W q, r⟩
theorem AB.keep {h' : Heap} {a : Addr} {n : Nat} {ws : List Addr} {f : Nat → Int32} (F : AB Z h a n f) (K : Keep h h' ws) (q : a ∉ ws) : AB Z h' a n f := by obtain ⟨c, A, r⟩ := F; exact ⟨c, ⟨K.2.1 a c A.1 q, A.2⟩, r⟩
theorem AB.lt {a : Addr} {n : Nat} {f : Nat → Int32} (F : AB Z h a n f) : a < h.size := by obtain ⟨c, A, -⟩ := F; exact A.lt
theorem AB.set {h' : Heap} {a : Addr} {n i : Nat} {x : Int32} {f : Nat → Int32} (F : AB Z h a n f) (W : Wr h h' a i (.int x)) : AB Z h' a n (upd f i x) := by
  obtain ⟨c, A, r1, r2, r3⟩ := F
  refine ⟨_, A.same W, by rw [sz_set]; exact r1, r2, fun k hk => ?_⟩
  by_cases e : k = i
  · subst e; simp [Cell.setSlot, upd, r1, hk]
  · rw [show (c.setSlot i (.int x)).slots[k]? = c.slots[k]? from Array.getElem?_setIfInBounds_ne (Ne.symm e), r3 k hk]; simp [upd, e]
theorem AB.cong {a : Addr} {n : Nat} {f g : Nat → Int32} (F : AB Z h a n f) (q : ∀ k, k < n → f k = g k) : AB Z h a n g := by obtain ⟨c, A, r1, r2, r3⟩ := F; exact ⟨c, A, r1, r2, fun k hk => by rw [r3 k hk, q k hk]⟩
theorem iaload {a : Addr} {j : Int32} {i n : Nat} {f : Nat → Int32} (hd : decode bs pc = .ok (.iaload, 1)) (hp : pc + 1 = pc') (A : AI Z h a n f) (hj : j.toInt = (i : Int)) (hi : i < n) (hr : Go K rm Z n0 bs ml ret own nm Q kc ks h pc' L (.int (f i) :: S)) : Go K rm Z n0 bs ml ret own nm Q kc ks h pc L (.int j :: .ref a :: S) := by
  subst hp
  obtain ⟨p, l, e, s, m, args, below, meth, c⟩ := K
  intro hx hby hml hown hZ hret hlk hnm T locs X hF hh
  obtain ⟨cl, A1, r1, r2, r3⟩ := A
  obtain ⟨g1, g2⟩ := inb hj hi
  obtain ⟨s₂, v, L', st, r⟩ := hr hx hby hml hown hZ hret hlk hnm T locs X hF hh
  exact ⟨s₂, v, L', X.iaload hx (j := j) (v := .int (f i)) (by rw [hh]; exact A1.1) (State.isArrayOf_alike hZ.alike A1.2.1) A1.2.2 (by rw [r1]; exact g1) (by rw [g2]; exact r3 i hi) (g := mkF m pc L (.int j :: .ref a :: S)) rfl rfl (hb hby hd) _ st, r⟩
theorem laload {a : Addr} {j : Int32} {i n : Nat} {f : Nat → Int64} (hd : decode bs pc = .ok (.laload, 1)) (hp : pc + 1 = pc') (A : AJ Z h a n f) (hj : j.toInt = (i : Int)) (hi : i < n) (hr : Go K rm Z n0 bs ml ret own nm Q kc ks h pc' L (.long (f i) :: S)) : Go K rm Z n0 bs ml ret own nm Q kc ks h pc L (.int j :: .ref a :: S) := by
  subst hp
  obtain ⟨p, l, e, s, m, args, below, meth, c⟩ := K
  intro hx hby hml hown hZ hret hlk hnm T locs X hF hh
  obtain ⟨cl, A1, r1, r2, r3⟩ := A
  obtain ⟨g1, g2⟩ := inb hj hi
  obtain ⟨s₂, v, L', st, r⟩ := hr hx hby hml hown hZ hret hlk hnm T locs X hF hh
  exact ⟨s₂, v, L', X.laload hx (j := j) (v := .long (f i)) (by rw [hh]; exact A1.1) (State.isArrayOf_alike hZ.alike A1.2.1) A1.2.2 (by rw [r1]; exact g1) (by rw [g2]; exact r3 i hi) (g := mkF m pc L (.int j :: .ref a :: S)) rfl rfl (hb hby hd) _ st, r⟩
theorem baload {a : Addr} {j : Int32} {i n : Nat} {f : Nat → Int32} (hd : decode bs pc = .ok (.baload, 1)) (hp : pc + 1 = pc') (A : AB Z h a n f) (hj : j.toInt = (i : Int)) (hi : i < n) (hr : Go K rm Z n0 bs ml ret own nm Q kc ks h pc' L (.int (f i) :: S)) : Go K rm Z n0 bs ml ret own nm Q kc ks h pc L (.int j :: .ref a :: S) := by
  subst hp
  obtain ⟨p, l, e, s, m, args, below, meth, c⟩ := K
  intro hx hby hml hown hZ hret hlk hnm T locs X hF hh
  obtain ⟨cl, A1, r1, r2, r3⟩ := A
  obtain ⟨g1, g2⟩ := inb hj hi
  obtain ⟨s₂, v, L', st, r⟩ := hr hx hby hml hown hZ hret hlk hnm T locs X hF hh
  exact ⟨s₂, v, L', X.baloadBytes hx (j := j) (v := .int (f i)) (by rw [hh]; exact A1.1) (State.isArrayOf_alike hZ.alike A1.2.1) A1.2.2 (by rw [r1]; exact g1) (by rw [g2]; exact r3 i hi) (g := mkF m pc L (.int j :: .ref a :: S)) rfl rfl (hb hby hd) _ st, r⟩
theorem iastore {a : Addr} {j : Int32} {x : Int32} {i n : Nat} {f : Nat → Int32} (hd : decode bs pc = .ok (.iastore, 1)) (hp : pc + 1 = pc') (A : AI Z h a n f) (hg : n0 ≤ a) (hj : j.toInt = (i : Int)) (hi : i < n) (hr : ∀ h', Wr h h' a i (.int x) → AI Z h' a n (upd f i x) → Go K rm Z n0 bs ml ret own nm Q kc ks h' pc' L S) : Go K rm Z n0 bs ml ret own nm Q kc ks h pc L (.int x :: .int j :: .ref a :: S) := by
  subst hp
  have A0 := A
  obtain ⟨p, l, e, s, m, args, below, meth, c⟩ := K
  intro hx hby hml hown hZ hret hlk hnm T locs X hF hh
  obtain ⟨cl, A1, r1, r2, r3⟩ := A
  obtain ⟨g1, g2⟩ := inb hj hi
  obtain ⟨T', h', X', e', W', st'⟩ := stI X hx hZ hh A1 (j := j) (by rw [r1]; exact g1) (g := mkF m pc L (.int x :: .int j :: .ref a :: S)) rfl rfl (hb hby hd)
  have W2 : Wr h h' a i (.int x) := by rw [g2] at W'; exact W'
  obtain ⟨s₂, v, L', st, r⟩ := hr h' W2 (A0.set W2) hx hby hml hown hZ hret hlk hnm T' _ X' (Fr.snoc X' hF hg) e'
  exact ⟨s₂, v, L', st' _ st, r⟩
theorem lastore {a : Addr} {j : Int32} {x : Int64} {i n : Nat} {f : Nat → Int64} (hd : decode bs pc = .ok (.lastore, 1)) (hp : pc + 1 = pc') (A : AJ Z h a n f) (hg : n0 ≤ a) (hj : j.toInt = (i : Int)) (hi : i < n) (hr : ∀ h', Wr h h' a i (.long x) → AJ Z h' a n (upd f i x) → Go K rm Z n0 bs ml ret own nm Q kc ks h' pc' L S) : Go K rm Z n0 bs ml ret own nm Q kc ks h pc L (.long x :: .int j :: .ref a :: S) := by
  subst hp
  have A0 := A
  obtain ⟨p, l, e, s, m, args, below, meth, c⟩ := K
  intro hx hby hml hown hZ hret hlk hnm T locs X hF hh
  obtain ⟨cl, A1, r1, r2, r3⟩ := A
  obtain ⟨g1, g2⟩ := inb hj hi
  obtain ⟨T', h', X', e', W', st'⟩ := stJ X hx hZ hh A1 (j := j) (by rw [r1]; exact g1) (g := mkF m pc L (.long x :: .int j :: .ref a :: S)) rfl rfl (hb hby hd)
  have W2 : Wr h h' a i (.long x) := by rw [g2] at W'; exact W'
  obtain ⟨s₂, v, L', st, r⟩ := hr h' W2 (A0.set W2) hx hby hml hown hZ hret hlk hnm T' _ X' (Fr.snoc X' hF hg) e'
  exact ⟨s₂, v, L', st' _ st, r⟩
theorem bastore {a : Addr} {j x : Int32} {i n : Nat} {f : Nat → Int32} (hd : decode bs pc = .ok (.bastore, 1)) (hp : pc + 1 = pc') (A : AB Z h a n f) (hg : n0 ≤ a) (hj : j.toInt = (i : Int)) (hi : i < n) (hr : ∀ h', Wr h h' a i (.int x.toInt8.toInt32) → AB Z h' a n (upd f i x.toInt8.toInt32) → Go K rm Z n0 bs ml ret own nm Q kc ks h' pc' L S) : Go K rm Z n0 bs ml ret own nm Q kc ks h pc L (.int x :: .int j :: .ref a :: S) := by
  subst hp
  have A0 := A
  obtain ⟨p, l, e, s, m, args, below, meth, c⟩ := K
  intro hx hby hml hown hZ hret hlk hnm T locs X hF hh
  obtain ⟨cl, A1, r1, r2, r3⟩ := A
  obtain ⟨g1, g2⟩ := inb hj hi
  obtain ⟨T', h', X', e', W', st'⟩ := stB X hx hZ hh A1 (j := j) (by rw [r1]; exact g1) (g := mkF m pc L (.int x :: .int j :: .ref a :: S)) rfl rfl (hb hby hd)
  have W2 : Wr h h' a i (.int x.toInt8.toInt32) := by rw [g2] at W'; exact W'
  obtain ⟨s₂, v, L', st, r⟩ := hr h' W2 (A0.set W2) hx hby hml hown hZ hret hlk hnm T' _ X' (Fr.snoc X' hF hg) e'
  exact ⟨s₂, v, L', st' _ st, r⟩
theorem newI {j : Int32} {n cap : Nat} (hd : decode bs pc = .ok (.newarray .int, 2)) (hp : pc + 2 = pc') (w : (Jvm.Cond.arrayClass .int).before a0 Z = true) (hj : j.toInt = (n : Int)) (hcap : n ≤ cap) (hb8 : cap * 8 ≤ 536870912) (hc : kc + 1 ≤ rm.cells) (hs : ks + cap ≤ rm.slots)
    (hr : ∀ a h', a = h.size → Ext h h' → AI Z h' a n (fun _ => 0) → Go K rm Z n0 bs ml ret own nm Q (kc + 1) (ks + cap) h' pc' L (.ref a :: S)) : Go K rm Z n0 bs ml ret own nm Q kc ks h pc L (.int j :: S) := by
  subst hp
  obtain ⟨p, l, e, s, m, args, below, meth, c⟩ := K
  intro hx hby hml hown hZ hret hlk hnm T locs X hF hh
  have hn : ¬ j < 0 := by rw [Int32.lt_iff_toInt_lt, hj]; simp
  have e : j.toNatClampNeg = n := by simp [Int32.toNatClampNeg, hj]
  obtain ⟨T', h', cA, X', e', E', A', st'⟩ := newP (aty := .int) X hx hZ w hh (g := mkF m pc L (.int j :: S)) rfl (hb hby hd) rfl hn (cap := cap) (by rw [e]; exact hcap) hb8 hc hs
  have hj2 := Int32.toInt_lt j
  have F : AI Z h' h.size n (fun _ => 0) := ⟨_, A', by rw [sz_new]; exact e, by omega, fun k hk => by
    have q : (newA cA .int j).slots[k]? = some (defaultValue .int) := by simp only [newA, e, Array.getElem?_replicate, if_pos hk]
    exact q⟩
  obtain ⟨s₂, v, L', st, r⟩ := hr _ h' rfl E' F hx hby hml hown hZ hret hlk hnm T' _ X' hF e'
  exact ⟨s₂, v, L', st' _ st, r⟩
theorem newJ {j : Int32} {n cap : Nat} (hd : decode bs pc = .ok (.newarray .long, 2)) (hp : pc + 2 = pc') (w : (Jvm.Cond.arrayClass .long).before a0 Z = true) (hj : j.toInt = (n : Int)) (hcap : n ≤ cap) (hb8 : cap * 8 ≤ 536870912) (hc : kc + 1 ≤ rm.cells) (hs : ks + cap ≤ rm.slots)
    (hr : ∀ a h', a = h.size → Ext h h' → AJ Z h' a n (fun _ => 0) → Go K rm Z n0 bs ml ret own nm Q (kc + 1) (ks + cap) h' pc' L (.ref a :: S)) : Go K rm Z n0 bs ml ret own nm Q kc ks h pc L (.int j :: S) := by
  subst hp
  obtain ⟨p, l, e, s, m, args, below, meth, c⟩ := K
  intro hx hby hml hown hZ hret hlk hnm T locs X hF hh
  have hn : ¬ j < 0 := by rw [Int32.lt_iff_toInt_lt, hj]; simp
  have e : j.toNatClampNeg = n := by simp [Int32.toNatClampNeg, hj]
  obtain ⟨T', h', cA, X', e', E', A', st'⟩ := newP (aty := .long) X hx hZ w hh (g := mkF m pc L (.int j :: S)) rfl (hb hby hd) rfl hn (cap := cap) (by rw [e]; exact hcap) hb8 hc hs
  have hj2 := Int32.toInt_lt j
  have F : AJ Z h' h.size n (fun _ => 0) := ⟨_, A', by rw [sz_new]; exact e, by omega, fun k hk => by
    have q : (newA cA .long j).slots[k]? = some (defaultValue .long) := by simp only [newA, e, Array.getElem?_replicate, if_pos hk]
    exact q⟩
  obtain ⟨s₂, v, L', st, r⟩ := hr _ h' rfl E' F hx hby hml hown hZ hret hlk hnm T' _ X' hF e'
  exact ⟨s₂, v, L', st' _ st, r⟩
theorem newB {j : Int32} {n cap : Nat} (hd : decode bs pc = .ok (.newarray .byte, 2)) (hp : pc + 2 = pc') (w : (Jvm.Cond.arrayClass .byte).before a0 Z = true) (hj : j.toInt = (n : Int)) (hcap : n ≤ cap) (hb8 : cap * 8 ≤ 536870912) (hc : kc + 1 ≤ rm.cells) (hs : ks + cap ≤ rm.slots)
    (hr : ∀ a h', a = h.size → Ext h h' → AB Z h' a n (fun _ => 0) → Go K rm Z n0 bs ml ret own nm Q (kc + 1) (ks + cap) h' pc' L (.ref a :: S)) : Go K rm Z n0 bs ml ret own nm Q kc ks h pc L (.int j :: S) := by
  subst hp
  obtain ⟨p, l, e, s, m, args, below, meth, c⟩ := K
  intro hx hby hml hown hZ hret hlk hnm T locs X hF hh
  have hn : ¬ j < 0 := by rw [Int32.lt_iff_toInt_lt, hj]; simp
  have e : j.toNatClampNeg = n := by simp [Int32.toNatClampNeg, hj]
  obtain ⟨T', h', cA, X', e', E', A', st'⟩ := newP (aty := .byte) X hx hZ w hh (g := mkF m pc L (.int j :: S)) rfl (hb hby hd) rfl hn (cap := cap) (by rw [e]; exact hcap) hb8 hc hs
  have hj2 := Int32.toInt_lt j
  have F : AB Z h' h.size n (fun _ => 0) := ⟨_, A', by rw [sz_new]; exact e, by omega, fun k hk => by
    have q : (newA cA .byte j).slots[k]? = some (defaultValue .byte) := by simp only [newA, e, Array.getElem?_replicate, if_pos hk]
    exact q⟩
  obtain ⟨s₂, v, L', st, r⟩ := hr _ h' rfl E' F hx hby hml hown hZ hret hlk hnm T' _ X' hF e'
  exact ⟨s₂, v, L', st' _ st, r⟩
theorem lenI {a : Addr} {n : Nat} {f : Nat → Int32} (hd : decode bs pc = .ok (.arraylength, 1)) (hp : pc + 1 = pc') (A : AI Z h a n f) (hr : ∀ z : Int32, z.toInt = (n : Int) → Go K rm Z n0 bs ml ret own nm Q kc ks h pc' L (.int z :: S)) : Go K rm Z n0 bs ml ret own nm Q kc ks h pc L (.ref a :: S) := by
  subst hp
  obtain ⟨p, l, e, s, m, args, below, meth, c⟩ := K
  intro hx hby hml hown hZ hret hlk hnm T locs X hF hh
  obtain ⟨cl, A1, r1, r2, r3⟩ := A
  obtain ⟨s₂, v, L', st, r⟩ := hr cl.slots.size.toInt32 (by rw [r1]; exact len_toInt r2) hx hby hml hown hZ hret hlk hnm T locs X hF hh
  exact ⟨s₂, v, L', X.arraylength hx (by rw [hh]; exact A1.1) (State.isArrayOf_alike hZ.alike A1.2.1) (g := mkF m pc L (.ref a :: S)) rfl rfl (hb hby hd) _ st, r⟩
theorem lenJ {a : Addr} {n : Nat} {f : Nat → Int64} (hd : decode bs pc = .ok (.arraylength, 1)) (hp : pc + 1 = pc') (A : AJ Z h a n f) (hr : ∀ z : Int32, z.toInt = (n : Int) → Go K rm Z n0 bs ml ret own nm Q kc ks h pc' L (.int z :: S)) : Go K rm Z n0 bs ml ret own nm Q kc ks h pc L (.ref a :: S) := by
  subst hp
  obtain ⟨p, l, e, s, m, args, below, meth, c⟩ := K
  intro hx hby hml hown hZ hret hlk hnm T locs X hF hh
  obtain ⟨cl, A1, r1, r2, r3⟩ := A
  obtain ⟨s₂, v, L', st, r⟩ := hr cl.slots.size.toInt32 (by rw [r1]; exact len_toInt r2) hx hby hml hown hZ hret hlk hnm T locs X hF hh
  exact ⟨s₂, v, L', X.arraylength hx (by rw [hh]; exact A1.1) (State.isArrayOf_alike hZ.alike A1.2.1) (g := mkF m pc L (.ref a :: S)) rfl rfl (hb hby hd) _ st, r⟩
theorem lenB {a : Addr} {n : Nat} {f : Nat → Int32} (hd : decode bs pc = .ok (.arraylength, 1)) (hp : pc + 1 = pc') (A : AB Z h a n f) (hr : ∀ z : Int32, z.toInt = (n : Int) → Go K rm Z n0 bs ml ret own nm Q kc ks h pc' L (.int z :: S)) : Go K rm Z n0 bs ml ret own nm Q kc ks h pc L (.ref a :: S) := by
  subst hp
  obtain ⟨p, l, e, s, m, args, below, meth, c⟩ := K
  intro hx hby hml hown hZ hret hlk hnm T locs X hF hh
  obtain ⟨cl, A1, r1, r2, r3⟩ := A
  obtain ⟨s₂, v, L', st, r⟩ := hr cl.slots.size.toInt32 (by rw [r1]; exact len_toInt r2) hx hby hml hown hZ hret hlk hnm T locs X hF hh
  exact ⟨s₂, v, L', X.arraylength hx (by rw [hh]; exact A1.1) (State.isArrayOf_alike hZ.alike A1.2.1) (g := mkF m pc L (.ref a :: S)) rfl rfl (hb hby hd) _ st, r⟩
end Laws
end Jvm.Own
@@BLOCK:NumsL.lean.txt@@
namespace Jvm.Own
theorem i64_nat (x : Int64) (h : 0 ≤ x.toInt) : (x.toBitVec.toNat : Int) = x.toInt := by
  have hl := x.toBitVec.isLt
  have e : x.toInt = x.toBitVec.toInt := rfl
  rw [e] at h ⊢
  rw [BitVec.toInt_eq_toNat_cond] at h ⊢
  split at h <;> rename_i hc
  · rw [if_pos hc]
  · omega
theorem i64_ofnat (x : Int64) (h : x.toBitVec.toNat < 2 ^ 63) : x.toInt = (x.toBitVec.toNat : Int) := by
  show x.toBitVec.toInt = _
  rw [BitVec.toInt_eq_toNat_cond, if_pos (by omega)]
theorem i64_or (x y : Int64) (k q : Nat) (hx : x.toInt = (q : Int) * 2 ^ k) (hy0 : 0 ≤ y.toInt) (hy : y.toInt < 2 ^ k) (hb : (q : Int) * 2 ^ k + 2 ^ k ≤ 2 ^ 63) : (x ||| y).toInt = x.toInt + y.toInt := by
  have c : ((q * 2 ^ k : Nat) : Int) = (q : Int) * 2 ^ k := by simp
  have c2 : ((2 ^ k : Nat) : Int) = 2 ^ k := by simp
  have x0 : 0 ≤ x.toInt := by omega
  have hx' := i64_nat x x0
  have hy' := i64_nat y hy0
  have ex : x.toBitVec.toNat = 2 ^ k * q := by rw [Nat.mul_comm]; omega
  have ey : y.toBitVec.toNat < 2 ^ k := by omega
  have e : (x ||| y).toBitVec.toNat = x.toBitVec.toNat + y.toBitVec.toNat := by
    rw [Int64.toBitVec_or, BitVec.toNat_or, ex, ← Nat.two_pow_add_eq_or_of_lt ey]
  rw [i64_ofnat _ (by omega), e]; omega
theorem i64_hi (x m : Int64) (k : Nat) (hk : k < 63) (hm : m.toBitVec.toNat = (2 ^ (64 - k) - 1) * 2 ^ k) (h0 : 0 ≤ x.toInt) : (x &&& m).toInt = x.toInt / 2 ^ k * 2 ^ k := by
  have hx' := i64_nat x h0
  have hl := x.toBitVec.isLt
  have c2 : ((2 ^ k : Nat) : Int) = 2 ^ k := by simp
  have hlt := Int64.toInt_lt x
  have e : (x &&& m).toBitVec.toNat = x.toBitVec.toNat / 2 ^ k * 2 ^ k := by
    rw [Int64.toBitVec_and, BitVec.toNat_and, hm, ← Nat.shiftLeft_eq, ← Nat.shiftLeft_eq, ← Nat.shiftRight_eq_div_pow]
    apply Nat.eq_of_testBit_eq
    intro i
    rw [Nat.testBit_and, Nat.testBit_shiftLeft, Nat.testBit_shiftLeft, Nat.testBit_two_pow_sub_one, Nat.testBit_shiftRight]
    by_cases q : k ≤ i
    · rw [show k + (i - k) = i by omega]
      by_cases q2 : i < 64
      · simp [q, show i - k < 64 - k by omega]
      · rw [Nat.testBit_lt_two_pow (Nat.lt_of_lt_of_le hl (Nat.pow_le_pow_right (by omega) (by omega)))]; simp
    · simp [q]
  have le : x.toBitVec.toNat / 2 ^ k * 2 ^ k ≤ x.toBitVec.toNat := Nat.div_mul_le_self _ _
  rw [i64_ofnat _ (by omega), e, ← hx', ← c2]; simp
theorem i32_nat (x : Int32) (h : 0 ≤ x.toInt) : (x.toBitVec.toNat : Int) = x.toInt := by
  have hl := x.toBitVec.isLt
  have e : x.toInt = x.toBitVec.toInt := rfl
  rw [e] at h ⊢
  rw [BitVec.toInt_eq_toNat_cond] at h ⊢
  split at h <;> rename_i hc
  · rw [if_pos hc]
  · omega
theorem i32_ofnat (x : Int32) (h : x.toBitVec.toNat < 2 ^ 31) : x.toInt = (x.toBitVec.toNat : Int) := by
  show x.toBitVec.toInt = _
  rw [BitVec.toInt_eq_toNat_cond, if_pos (by omega)]
theorem i2c_small (y : Int32) (h0 : 0 ≤ y.toInt) (h1 : y.toInt < 65536) : y.toUInt32.toUInt16.toUInt32.toInt32 = y := by
  apply Int32.toBitVec_inj.mp
  apply BitVec.eq_of_toNat_eq
  have h := i32_nat y h0
  have e : y.toUInt32.toUInt16.toUInt32.toInt32.toBitVec.toNat = y.toUInt32.toUInt16.toUInt32.toNat := rfl
  rw [e, UInt16.toNat_toUInt32, UInt32.toNat_toUInt16]
  show y.toBitVec.toNat % 2 ^ 16 = _
  omega
theorem ushrL_nn (x : Int64) (h0 : 0 ≤ x.toInt) (y : Int32) {k : Nat} (hy : y.toInt = (k : Int)) (hk : k < 64) : (Jvm.Own.ushrL x y).toInt = x.toInt / 2 ^ k := by
  refine Jvm.Kit.i64_lushr (Jvm.Kit.i64_nonneg.mpr h0) ?_ hk
  have e1 := i32_nat y (by omega)
  have e2 : y.toInt64.toBitVec.toNat = k := by
    have := i64_nat y.toInt64 (by rw [Int32.toInt_toInt64]; omega)
    rw [Int32.toInt_toInt64] at this; omega
  have e4 := Jvm.Kit.i32_mask y 63 (k := 6) (by decide) (by decide)
  have e5 := i64_nat (y &&& 63).toInt64 (by rw [Int32.toInt_toInt64]; omega)
  rw [Int32.toInt_toInt64] at e5
  have e6 : (y &&& 63).toInt64.toUInt64.toNat = (y &&& 63).toInt64.toBitVec.toNat := rfl
  omega
theorem ushrL_bv (x : Int64) (y : Int32) (k : Nat) (hy : y.toInt = (k : Int)) (hk : k < 64) : Jvm.Own.ushrL x y = Int64.ofBitVec (x.toBitVec >>> k) := by
  have e4 := Jvm.Kit.i32_mask y 63 (k := 6) (by decide) (by decide)
  have e5 := i64_nat (y &&& 63).toInt64 (by rw [Int32.toInt_toInt64]; omega)
  rw [Int32.toInt_toInt64] at e5
  have e6 : (y &&& 63).toInt64.toUInt64.toBitVec.toNat = k := by
    have : (y &&& 63).toInt64.toUInt64.toBitVec.toNat = (y &&& 63).toInt64.toBitVec.toNat := rfl
    omega
  apply Int64.toBitVec_inj.mp
  apply BitVec.eq_of_toNat_eq
  show (x.toUInt64 >>> (y &&& 63).toInt64.toUInt64).toBitVec.toNat = (x.toBitVec >>> k).toNat
  rw [UInt64.toBitVec_shiftRight, BitVec.ushiftRight_eq', BitVec.toNat_ushiftRight, BitVec.toNat_ushiftRight, BitVec.toNat_umod, e6]
  show x.toBitVec.toNat >>> (k % 64) = _
  rw [Nat.mod_eq_of_lt hk]
end Jvm.Own
namespace Jvm.Pilot.@@N@@
open Jvm Jvm.ClassFile Sem Op Lib Jvm.Free Jvm.Stand Jvm.LawKit Jvm.RoadKit Bundle Jvm.Own Jvm.Pilot.@@N@@.Jvm.D

theorem d_jdk_29_method_70_0 : decode jdk_29_method_70_code 0 = .ok (.lload_n 0, 1) := by decide +kernel
theorem d_jdk_29_method_70_1 : decode jdk_29_method_70_code 1 = .ok (.lload_n 2, 1) := by decide +kernel
theorem d_jdk_29_method_70_2 : decode jdk_29_method_70_code 2 = .ok (.lcmp, 1) := by decide +kernel
theorem d_jdk_29_method_70_3 : decode jdk_29_method_70_code 3 = .ok (.ifCond .gt 7, 3) := by decide +kernel
theorem d_jdk_29_method_70_10 : decode jdk_29_method_70_code 10 = .ok (.lload_n 2, 1) := by decide +kernel
theorem d_jdk_29_method_70_11 : decode jdk_29_method_70_code 11 = .ok (.lreturn, 1) := by decide +kernel
theorem d_jdk_29_method_70_6 : decode jdk_29_method_70_code 6 = .ok (.lload_n 0, 1) := by decide +kernel
theorem d_jdk_29_method_70_7 : decode jdk_29_method_70_code 7 = .ok (.goto 4, 3) := by decide +kernel
theorem d_jdk_29_method_66_0 : decode jdk_29_method_66_code 0 = .ok (.lload_n 0, 1) := by decide +kernel
theorem d_jdk_29_method_66_1 : decode jdk_29_method_66_code 1 = .ok (.lload_n 2, 1) := by decide +kernel
theorem d_jdk_29_method_66_2 : decode jdk_29_method_66_code 2 = .ok (.lcmp, 1) := by decide +kernel
theorem d_jdk_29_method_66_3 : decode jdk_29_method_66_code 3 = .ok (.ifCond .lt 7, 3) := by decide +kernel
theorem d_jdk_29_method_66_10 : decode jdk_29_method_66_code 10 = .ok (.lload_n 2, 1) := by decide +kernel
theorem d_jdk_29_method_66_11 : decode jdk_29_method_66_code 11 = .ok (.lreturn, 1) := by decide +kernel
theorem d_jdk_29_method_66_6 : decode jdk_29_method_66_code 6 = .ok (.lload_n 0, 1) := by decide +kernel
theorem d_jdk_29_method_66_7 : decode jdk_29_method_66_code 7 = .ok (.goto 4, 3) := by decide +kernel
theorem d_method_4_0 : decode method_4_code 0 = .ok (.lconst 1, 1) := by decide +kernel
theorem d_method_4_1 : decode method_4_code 1 = .ok (.lload_n 2, 1) := by decide +kernel
theorem d_method_4_2 : decode method_4_code 2 = .ok (.ldc2_w 38, 3) := by decide +kernel
theorem d_method_4_5 : decode method_4_code 5 = .ok (.land, 1) := by decide +kernel
theorem d_method_4_6 : decode method_4_code 6 = .ok (.ladd, 1) := by decide +kernel
theorem d_method_4_7 : decode method_4_code 7 = .ok (.lstore 5, 2) := by decide +kernel
theorem d_method_4_9 : decode method_4_code 9 = .ok (.iload 4, 2) := by decide +kernel
theorem d_method_4_11 : decode method_4_code 11 = .ok (.ifCond .ne 8, 3) := by decide +kernel
theorem d_method_4_19 : decode method_4_code 19 = .ok (.iload 4, 2) := by decide +kernel
theorem d_method_4_21 : decode method_4_code 21 = .ok (.iconst 1, 1) := by decide +kernel
theorem d_method_4_22 : decode method_4_code 22 = .ok (.if_icmp .ne 13, 3) := by decide +kernel
theorem d_method_4_35 : decode method_4_code 35 = .ok (.lload_n 0, 1) := by decide +kernel
theorem d_method_4_36 : decode method_4_code 36 = .ok (.lconst 1, 1) := by decide +kernel
theorem d_method_4_37 : decode method_4_code 37 = .ok (.lsub, 1) := by decide +kernel
theorem d_method_4_38 : decode method_4_code 38 = .ok (.lload_n 2, 1) := by decide +kernel
theorem d_method_4_39 : decode method_4_code 39 = .ok (.ldc2_w 38, 3) := by decide +kernel
theorem d_method_4_42 : decode method_4_code 42 = .ok (.land, 1) := by decide +kernel
theorem d_method_4_43 : decode method_4_code 43 = .ok (.ldc2_w 47, 3) := by decide +kernel
theorem d_method_4_46 : decode method_4_code 46 = .ok (.invokestatic 49, 3) := by decide +kernel
theorem d_method_4_49 : decode method_4_code 49 = .ok (.lsub, 1) := by decide +kernel
theorem d_method_4_50 : decode method_4_code 50 = .ok (.lstore 7, 2) := by decide +kernel
theorem d_method_4_52 : decode method_4_code 52 = .ok (.lload 7, 2) := by decide +kernel
theorem d_method_4_54 : decode method_4_code 54 = .ok (.lconst 0, 1) := by decide +kernel
theorem d_method_4_55 : decode method_4_code 55 = .ok (.lcmp, 1) := by decide +kernel
theorem d_method_4_56 : decode method_4_code 56 = .ok (.ifCond .lt 6, 3) := by decide +kernel
theorem d_method_4_62 : decode method_4_code 62 = .ok (.lload_n 0, 1) := by decide +kernel
theorem d_method_4_63 : decode method_4_code 63 = .ok (.lload 5, 2) := by decide +kernel
theorem d_method_4_65 : decode method_4_code 65 = .ok (.ladd, 1) := by decide +kernel
theorem d_method_4_66 : decode method_4_code 66 = .ok (.lreturn, 1) := by decide +kernel
theorem d_method_4_59 : decode method_4_code 59 = .ok (.lload 7, 2) := by decide +kernel
theorem d_method_4_61 : decode method_4_code 61 = .ok (.lreturn, 1) := by decide +kernel
theorem d_method_4_25 : decode method_4_code 25 = .ok (.lload_n 0, 1) := by decide +kernel
theorem d_method_4_26 : decode method_4_code 26 = .ok (.lconst 1, 1) := by decide +kernel
theorem d_method_4_27 : decode method_4_code 27 = .ok (.ladd, 1) := by decide +kernel
theorem d_method_4_28 : decode method_4_code 28 = .ok (.lload_n 2, 1) := by decide +kernel
theorem d_method_4_29 : decode method_4_code 29 = .ok (.ldc2_w 7, 3) := by decide +kernel
theorem d_method_4_32 : decode method_4_code 32 = .ok (.land, 1) := by decide +kernel
theorem d_method_4_33 : decode method_4_code 33 = .ok (.ladd, 1) := by decide +kernel
theorem d_method_4_34 : decode method_4_code 34 = .ok (.lreturn, 1) := by decide +kernel
theorem d_method_4_14 : decode method_4_code 14 = .ok (.lload_n 0, 1) := by decide +kernel
theorem d_method_4_15 : decode method_4_code 15 = .ok (.lload 5, 2) := by decide +kernel
theorem d_method_4_17 : decode method_4_code 17 = .ok (.ladd, 1) := by decide +kernel
theorem d_method_4_18 : decode method_4_code 18 = .ok (.lreturn, 1) := by decide +kernel
theorem d_method_3_0 : decode method_3_code 0 = .ok (.lload_n 0, 1) := by decide +kernel
theorem d_method_3_1 : decode method_3_code 1 = .ok (.lload_n 2, 1) := by decide +kernel
theorem d_method_3_2 : decode method_3_code 2 = .ok (.lcmp, 1) := by decide +kernel
theorem d_method_3_3 : decode method_3_code 3 = .ok (.ifCond .eq 17, 3) := by decide +kernel
theorem d_method_3_20 : decode method_3_code 20 = .ok (.iconst 1, 1) := by decide +kernel
theorem d_method_3_21 : decode method_3_code 21 = .ok (.goto 4, 3) := by decide +kernel
theorem d_method_3_25 : decode method_3_code 25 = .ok (.ireturn, 1) := by decide +kernel
theorem d_method_3_6 : decode method_3_code 6 = .ok (.lload_n 0, 1) := by decide +kernel
theorem d_method_3_7 : decode method_3_code 7 = .ok (.lload 4, 2) := by decide +kernel
theorem d_method_3_9 : decode method_3_code 9 = .ok (.lcmp, 1) := by decide +kernel
theorem d_method_3_10 : decode method_3_code 10 = .ok (.ifCond .eq 10, 3) := by decide +kernel
theorem d_method_3_13 : decode method_3_code 13 = .ok (.lload_n 0, 1) := by decide +kernel
theorem d_method_3_14 : decode method_3_code 14 = .ok (.lload 6, 2) := by decide +kernel
theorem d_method_3_16 : decode method_3_code 16 = .ok (.lcmp, 1) := by decide +kernel
theorem d_method_3_17 : decode method_3_code 17 = .ok (.ifCond .ne 7, 3) := by decide +kernel
theorem d_method_3_24 : decode method_3_code 24 = .ok (.iconst 0, 1) := by decide +kernel
theorem d_prog_43_method_1_0 : decode prog_43_method_1_code 0 = .ok (.aload_n 0, 1) := by decide +kernel
theorem d_prog_43_method_1_1 : decode prog_43_method_1_code 1 = .ok (.invokespecial 1, 3) := by decide +kernel
theorem d_prog_43_method_1_4 : decode prog_43_method_1_code 4 = .ok (.return_, 1) := by decide +kernel
theorem d_prog_43_method_4_0 : decode prog_43_method_4_code 0 = .ok (.lload_n 1, 1) := by decide +kernel
theorem d_prog_43_method_4_1 : decode prog_43_method_4_code 1 = .ok (.aload_n 0, 1) := by decide +kernel
theorem d_prog_43_method_4_2 : decode prog_43_method_4_code 2 = .ok (.getfield 7, 3) := by decide +kernel
theorem d_prog_43_method_4_5 : decode prog_43_method_4_code 5 = .ok (.lcmp, 1) := by decide +kernel
theorem d_prog_43_method_4_6 : decode prog_43_method_4_code 6 = .ok (.ifCond .le 43, 3) := by decide +kernel
theorem d_prog_43_method_4_49 : decode prog_43_method_4_code 49 = .ok (.aload_n 0, 1) := by decide +kernel
theorem d_prog_43_method_4_50 : decode prog_43_method_4_code 50 = .ok (.dup, 1) := by decide +kernel
theorem d_prog_43_method_4_51 : decode prog_43_method_4_code 51 = .ok (.getfield 33, 3) := by decide +kernel
theorem d_prog_43_method_4_54 : decode prog_43_method_4_code 54 = .ok (.lconst 1, 1) := by decide +kernel
theorem d_prog_43_method_4_55 : decode prog_43_method_4_code 55 = .ok (.aload_n 0, 1) := by decide +kernel
theorem d_prog_43_method_4_56 : decode prog_43_method_4_code 56 = .ok (.getfield 7, 3) := by decide +kernel
theorem d_prog_43_method_4_59 : decode prog_43_method_4_code 59 = .ok (.lload_n 1, 1) := by decide +kernel
theorem d_prog_43_method_4_60 : decode prog_43_method_4_code 60 = .ok (.lsub, 1) := by decide +kernel
theorem d_prog_43_method_4_61 : decode prog_43_method_4_code 61 = .ok (.l2i, 1) := by decide +kernel
theorem d_prog_43_method_4_62 : decode prog_43_method_4_code 62 = .ok (.lshl, 1) := by decide +kernel
theorem d_prog_43_method_4_63 : decode prog_43_method_4_code 63 = .ok (.lor, 1) := by decide +kernel
theorem d_prog_43_method_4_64 : decode prog_43_method_4_code 64 = .ok (.putfield 33, 3) := by decide +kernel
theorem d_prog_43_method_4_67 : decode prog_43_method_4_code 67 = .ok (.return_, 1) := by decide +kernel
theorem d_prog_43_method_4_9 : decode prog_43_method_4_code 9 = .ok (.lload_n 1, 1) := by decide +kernel
theorem d_prog_43_method_4_10 : decode prog_43_method_4_code 10 = .ok (.aload_n 0, 1) := by decide +kernel
theorem d_prog_43_method_4_11 : decode prog_43_method_4_code 11 = .ok (.getfield 7, 3) := by decide +kernel
theorem d_prog_43_method_4_14 : decode prog_43_method_4_code 14 = .ok (.lsub, 1) := by decide +kernel
theorem d_prog_43_method_4_15 : decode prog_43_method_4_code 15 = .ok (.lstore_n 3, 1) := by decide +kernel
theorem d_prog_43_method_4_16 : decode prog_43_method_4_code 16 = .ok (.aload_n 0, 1) := by decide +kernel
theorem d_prog_43_method_4_17 : decode prog_43_method_4_code 17 = .ok (.lload_n 3, 1) := by decide +kernel
theorem d_prog_43_method_4_18 : decode prog_43_method_4_code 18 = .ok (.ldc2_w 16, 3) := by decide +kernel
theorem d_prog_43_method_4_21 : decode prog_43_method_4_code 21 = .ok (.lcmp, 1) := by decide +kernel
theorem d_prog_43_method_4_22 : decode prog_43_method_4_code 22 = .ok (.ifCond .lt 7, 3) := by decide +kernel
theorem d_prog_43_method_4_29 : decode prog_43_method_4_code 29 = .ok (.aload_n 0, 1) := by decide +kernel
theorem d_prog_43_method_4_30 : decode prog_43_method_4_code 30 = .ok (.getfield 33, 3) := by decide +kernel
theorem d_prog_43_method_4_33 : decode prog_43_method_4_code 33 = .ok (.lload_n 3, 1) := by decide +kernel
theorem d_prog_43_method_4_34 : decode prog_43_method_4_code 34 = .ok (.l2i, 1) := by decide +kernel
theorem d_prog_43_method_4_35 : decode prog_43_method_4_code 35 = .ok (.lshl, 1) := by decide +kernel
theorem d_prog_43_method_4_36 : decode prog_43_method_4_code 36 = .ok (.lconst 1, 1) := by decide +kernel
theorem d_prog_43_method_4_37 : decode prog_43_method_4_code 37 = .ok (.lor, 1) := by decide +kernel
theorem d_prog_43_method_4_38 : decode prog_43_method_4_code 38 = .ok (.putfield 33, 3) := by decide +kernel
theorem d_prog_43_method_4_41 : decode prog_43_method_4_code 41 = .ok (.aload_n 0, 1) := by decide +kernel
theorem d_prog_43_method_4_42 : decode prog_43_method_4_code 42 = .ok (.lload_n 1, 1) := by decide +kernel
theorem d_prog_43_method_4_43 : decode prog_43_method_4_code 43 = .ok (.putfield 7, 3) := by decide +kernel
theorem d_prog_43_method_4_46 : decode prog_43_method_4_code 46 = .ok (.goto 21, 3) := by decide +kernel
theorem d_prog_43_method_4_25 : decode prog_43_method_4_code 25 = .ok (.lconst 1, 1) := by decide +kernel
theorem d_prog_43_method_4_26 : decode prog_43_method_4_code 26 = .ok (.goto 12, 3) := by decide +kernel
theorem d_prog_43_method_2_0 : decode prog_43_method_2_code 0 = .ok (.aload_n 0, 1) := by decide +kernel
theorem d_prog_43_method_2_1 : decode prog_43_method_2_code 1 = .ok (.getfield 7, 3) := by decide +kernel
theorem d_prog_43_method_2_4 : decode prog_43_method_2_code 4 = .ok (.bipush 16, 2) := by decide +kernel
theorem d_prog_43_method_2_6 : decode prog_43_method_2_code 6 = .ok (.lushr, 1) := by decide +kernel
theorem d_prog_43_method_2_7 : decode prog_43_method_2_code 7 = .ok (.lstore_n 2, 1) := by decide +kernel
theorem d_prog_43_method_2_8 : decode prog_43_method_2_code 8 = .ok (.aload_n 0, 1) := by decide +kernel
theorem d_prog_43_method_2_9 : decode prog_43_method_2_code 9 = .ok (.getfield 7, 3) := by decide +kernel
theorem d_prog_43_method_2_12 : decode prog_43_method_2_code 12 = .ok (.ldc2_w 13, 3) := by decide +kernel
theorem d_prog_43_method_2_15 : decode prog_43_method_2_code 15 = .ok (.land, 1) := by decide +kernel
theorem d_prog_43_method_2_16 : decode prog_43_method_2_code 16 = .ok (.l2i, 1) := by decide +kernel
theorem d_prog_43_method_2_17 : decode prog_43_method_2_code 17 = .ok (.istore 4, 2) := by decide +kernel
theorem d_prog_43_method_2_19 : decode prog_43_method_2_code 19 = .ok (.lload_n 2, 1) := by decide +kernel
theorem d_prog_43_method_2_20 : decode prog_43_method_2_code 20 = .ok (.lstore 5, 2) := by decide +kernel
theorem d_prog_43_method_2_22 : decode prog_43_method_2_code 22 = .ok (.iload 4, 2) := by decide +kernel
theorem d_prog_43_method_2_24 : decode prog_43_method_2_code 24 = .ok (.ldc 15, 2) := by decide +kernel
theorem d_prog_43_method_2_26 : decode prog_43_method_2_code 26 = .ok (.if_icmp .ge 26, 3) := by decide +kernel
theorem d_prog_43_method_2_52 : decode prog_43_method_2_code 52 = .ok (.iload 4, 2) := by decide +kernel
theorem d_prog_43_method_2_54 : decode prog_43_method_2_code 54 = .ok (.ldc 15, 2) := by decide +kernel
theorem d_prog_43_method_2_56 : decode prog_43_method_2_code 56 = .ok (.isub, 1) := by decide +kernel
theorem d_prog_43_method_2_57 : decode prog_43_method_2_code 57 = .ok (.iload_n 1, 1) := by decide +kernel
theorem d_prog_43_method_2_58 : decode prog_43_method_2_code 58 = .ok (.if_icmp .le 8, 3) := by decide +kernel
theorem d_prog_43_method_2_66 : decode prog_43_method_2_code 66 = .ok (.lload 5, 2) := by decide +kernel
theorem d_prog_43_method_2_68 : decode prog_43_method_2_code 68 = .ok (.bipush 16, 2) := by decide +kernel
theorem d_prog_43_method_2_70 : decode prog_43_method_2_code 70 = .ok (.lshl, 1) := by decide +kernel
theorem d_prog_43_method_2_71 : decode prog_43_method_2_code 71 = .ok (.iload_n 1, 1) := by decide +kernel
theorem d_prog_43_method_2_72 : decode prog_43_method_2_code 72 = .ok (.i2l, 1) := by decide +kernel
theorem d_prog_43_method_2_73 : decode prog_43_method_2_code 73 = .ok (.lor, 1) := by decide +kernel
theorem d_prog_43_method_2_74 : decode prog_43_method_2_code 74 = .ok (.lreturn, 1) := by decide +kernel
theorem d_prog_43_method_2_61 : decode prog_43_method_2_code 61 = .ok (.lload_n 2, 1) := by decide +kernel
theorem d_prog_43_method_2_62 : decode prog_43_method_2_code 62 = .ok (.lconst 1, 1) := by decide +kernel
theorem d_prog_43_method_2_63 : decode prog_43_method_2_code 63 = .ok (.ladd, 1) := by decide +kernel
theorem d_prog_43_method_2_64 : decode prog_43_method_2_code 64 = .ok (.lstore 5, 2) := by decide +kernel
theorem d_prog_43_method_2_29 : decode prog_43_method_2_code 29 = .ok (.iload_n 1, 1) := by decide +kernel
theorem d_prog_43_method_2_30 : decode prog_43_method_2_code 30 = .ok (.iload 4, 2) := by decide +kernel
theorem d_prog_43_method_2_32 : decode prog_43_method_2_code 32 = .ok (.isub, 1) := by decide +kernel
theorem d_prog_43_method_2_33 : decode prog_43_method_2_code 33 = .ok (.ldc 15, 2) := by decide +kernel
theorem d_prog_43_method_2_35 : decode prog_43_method_2_code 35 = .ok (.if_icmp .le 31, 3) := by decide +kernel
theorem d_prog_43_method_2_38 : decode prog_43_method_2_code 38 = .ok (.lload_n 2, 1) := by decide +kernel
theorem d_prog_43_method_2_39 : decode prog_43_method_2_code 39 = .ok (.lconst 0, 1) := by decide +kernel
theorem d_prog_43_method_2_40 : decode prog_43_method_2_code 40 = .ok (.lcmp, 1) := by decide +kernel
theorem d_prog_43_method_2_41 : decode prog_43_method_2_code 41 = .ok (.ifCond .le 25, 3) := by decide +kernel
theorem d_prog_43_method_2_44 : decode prog_43_method_2_code 44 = .ok (.lload_n 2, 1) := by decide +kernel
theorem d_prog_43_method_2_45 : decode prog_43_method_2_code 45 = .ok (.lconst 1, 1) := by decide +kernel
theorem d_prog_43_method_2_46 : decode prog_43_method_2_code 46 = .ok (.lsub, 1) := by decide +kernel
theorem d_prog_43_method_2_47 : decode prog_43_method_2_code 47 = .ok (.lstore 5, 2) := by decide +kernel
theorem d_prog_43_method_2_49 : decode prog_43_method_2_code 49 = .ok (.goto 17, 3) := by decide +kernel
theorem d_prog_43_method_3_0 : decode prog_43_method_3_code 0 = .ok (.lload_n 1, 1) := by decide +kernel
theorem d_prog_43_method_3_1 : decode prog_43_method_3_code 1 = .ok (.aload_n 0, 1) := by decide +kernel
theorem d_prog_43_method_3_2 : decode prog_43_method_3_code 2 = .ok (.getfield 7, 3) := by decide +kernel
theorem d_prog_43_method_3_5 : decode prog_43_method_3_code 5 = .ok (.lcmp, 1) := by decide +kernel
theorem d_prog_43_method_3_6 : decode prog_43_method_3_code 6 = .ok (.ifCond .le 4, 3) := by decide +kernel
theorem d_prog_43_method_3_10 : decode prog_43_method_3_code 10 = .ok (.aload_n 0, 1) := by decide +kernel
theorem d_prog_43_method_3_11 : decode prog_43_method_3_code 11 = .ok (.getfield 7, 3) := by decide +kernel
theorem d_prog_43_method_3_14 : decode prog_43_method_3_code 14 = .ok (.lload_n 1, 1) := by decide +kernel
theorem d_prog_43_method_3_15 : decode prog_43_method_3_code 15 = .ok (.lsub, 1) := by decide +kernel
theorem d_prog_43_method_3_16 : decode prog_43_method_3_code 16 = .ok (.lstore_n 3, 1) := by decide +kernel
theorem d_prog_43_method_3_17 : decode prog_43_method_3_code 17 = .ok (.lload_n 3, 1) := by decide +kernel
theorem d_prog_43_method_3_18 : decode prog_43_method_3_code 18 = .ok (.ldc2_w 16, 3) := by decide +kernel
theorem d_prog_43_method_3_21 : decode prog_43_method_3_code 21 = .ok (.lcmp, 1) := by decide +kernel
theorem d_prog_43_method_3_22 : decode prog_43_method_3_code 22 = .ok (.ifCond .lt 21, 3) := by decide +kernel
theorem d_prog_43_method_3_43 : decode prog_43_method_3_code 43 = .ok (.aload_n 0, 1) := by decide +kernel
theorem d_prog_43_method_3_44 : decode prog_43_method_3_code 44 = .ok (.getfield 33, 3) := by decide +kernel
theorem d_prog_43_method_3_47 : decode prog_43_method_3_code 47 = .ok (.lload_n 3, 1) := by decide +kernel
theorem d_prog_43_method_3_48 : decode prog_43_method_3_code 48 = .ok (.l2i, 1) := by decide +kernel
theorem d_prog_43_method_3_49 : decode prog_43_method_3_code 49 = .ok (.lushr, 1) := by decide +kernel
theorem d_prog_43_method_3_50 : decode prog_43_method_3_code 50 = .ok (.lconst 1, 1) := by decide +kernel
theorem d_prog_43_method_3_51 : decode prog_43_method_3_code 51 = .ok (.land, 1) := by decide +kernel
theorem d_prog_43_method_3_52 : decode prog_43_method_3_code 52 = .ok (.lconst 0, 1) := by decide +kernel
theorem d_prog_43_method_3_53 : decode prog_43_method_3_code 53 = .ok (.lcmp, 1) := by decide +kernel
theorem d_prog_43_method_3_54 : decode prog_43_method_3_code 54 = .ok (.ifCond .eq 20, 3) := by decide +kernel
theorem d_prog_43_method_3_74 : decode prog_43_method_3_code 74 = .ok (.return_, 1) := by decide +kernel
theorem d_prog_43_method_3_9 : decode prog_43_method_3_code 9 = .ok (.return_, 1) := by decide +kernel
theorem pn_0 : plainName "com/example/tessitura/tessitura/srtp/ReplayWindowAddPinLaw" = true := by first | (simp [plainName, overriddenIn]; done) | decide +kernel
theorem pn_1 : plainName "com/example/tessitura/tessitura/srtp/ReplayWindow" = true := by first | (simp [plainName, overriddenIn]; done) | decide +kernel
theorem pd_0 : parseMethodDescriptor "(JJ)J" = some ⟨[.long, .long], some .long⟩ := by decide +kernel
theorem pd_1 : parseMethodDescriptor "(JJI)J" = some ⟨[.long, .long, .int], some .long⟩ := by decide +kernel
theorem pd_2 : parseMethodDescriptor "()V" = some ⟨[], none⟩ := by decide +kernel
theorem pd_3 : parseMethodDescriptor "(J)V" = some ⟨[.long], none⟩ := by decide +kernel
theorem pd_4 : parseMethodDescriptor "(I)J" = some ⟨[.int], some .long⟩ := by decide +kernel
theorem pd_5 : parseMethodDescriptor "(JJJJ)Z" = some ⟨[.long, .long, .long, .long], some .boolean⟩ := by decide +kernel
def own_min (p : Int64) (q : Int64) : Int64 := (if q.toInt < p.toInt then q else p)
set_option maxRecDepth 65536 in
set_option maxHeartbeats 40000000 in
theorem c_own_min (Z : State) (a0 : Array Value) (hw : ∀ d ∈ tables_1, d.before a0 Z = true) (n0 : Nat) (h : Heap) (hZ0 : n0 ≤ h.size) (p : Int64) (q : Int64)    :
    Con Z n0 (⟨"java/lang/Math", "min", "(JJ)J"⟩ : MethodName) jdk_29_method_70_code 4 (some .long) ({ frames := 0, cells := 0, slots := 0, locals := 0 } : Room) [(.long p), (.long q)] h (fun v h' => h = h' ∧ ∃ z, v = some (.long z) ∧ z = (own_min p q)) := by
  refine Own.enter (Jvm.Free.JP.mathPlain rfl (by decide +kernel)) (L0 := #[.val (.long p), .second, .val (.long q), .second]) (fun m => by first | (simp [entryFrame, mkF, argsToLocals, Value.category]; done) | rfl) fun K => ?_
  show Go K _ _ _ _ _ _ "java/lang/Math" "min" _ 0 0 h 0 #[.val (.long p), .second, .val (.long q), .second] []
  refine Own.lloadN (pc' := 1) d_jdk_29_method_70_0 rfl rfl ?_
  refine Own.lloadN (pc' := 2) d_jdk_29_method_70_1 rfl rfl ?_
  refine Own.lcmp_gt (pc1 := 3) (pc' := 10) (pc2 := 6) d_jdk_29_method_70_2 rfl d_jdk_29_method_70_3 (by decide) (by decide) rfl (fun c2_0 => ?_) (fun c2_0 => ?_)
  · refine Own.lloadN (pc' := 11) d_jdk_29_method_70_10 rfl rfl ?_
    have hq : q = (own_min p q) := by unfold own_min; try rw [if_pos c2_0]
    exact Own.lreturn d_jdk_29_method_70_11 rfl (⟨rfl, _, rfl, hq⟩) (by decide) (by decide)
  · refine Own.lloadN (pc' := 7) d_jdk_29_method_70_6 rfl rfl ?_
    refine Own.goto (pc' := 11) d_jdk_29_method_70_7 (by decide) (by decide) ?_
    have hq : p = (own_min p q) := by unfold own_min; try rw [if_neg c2_0]
    exact Own.lreturn d_jdk_29_method_70_11 rfl (⟨rfl, _, rfl, hq⟩) (by decide) (by decide)
def own_max (p : Int64) (q : Int64) : Int64 := (if p.toInt < q.toInt then q else p)
set_option maxRecDepth 65536 in
set_option maxHeartbeats 40000000 in
theorem c_own_max (Z : State) (a0 : Array Value) (hw : ∀ d ∈ tables_1, d.before a0 Z = true) (n0 : Nat) (h : Heap) (hZ0 : n0 ≤ h.size) (p : Int64) (q : Int64)    :
    Con Z n0 (⟨"java/lang/Math", "max", "(JJ)J"⟩ : MethodName) jdk_29_method_66_code 4 (some .long) ({ frames := 0, cells := 0, slots := 0, locals := 0 } : Room) [(.long p), (.long q)] h (fun v h' => h = h' ∧ ∃ z, v = some (.long z) ∧ z = (own_max p q)) := by
  refine Own.enter (Jvm.Free.JP.mathPlain rfl (by decide +kernel)) (L0 := #[.val (.long p), .second, .val (.long q), .second]) (fun m => by first | (simp [entryFrame, mkF, argsToLocals, Value.category]; done) | rfl) fun K => ?_
  show Go K _ _ _ _ _ _ "java/lang/Math" "max" _ 0 0 h 0 #[.val (.long p), .second, .val (.long q), .second] []
  refine Own.lloadN (pc' := 1) d_jdk_29_method_66_0 rfl rfl ?_
  refine Own.lloadN (pc' := 2) d_jdk_29_method_66_1 rfl rfl ?_
  refine Own.lcmp_lt (pc1 := 3) (pc' := 10) (pc2 := 6) d_jdk_29_method_66_2 rfl d_jdk_29_method_66_3 (by decide) (by decide) rfl (fun c2_1 => ?_) (fun c2_1 => ?_)
  · refine Own.lloadN (pc' := 11) d_jdk_29_method_66_10 rfl rfl ?_
    have hq : q = (own_max p q) := by unfold own_max; try rw [if_pos c2_1]
    exact Own.lreturn d_jdk_29_method_66_11 rfl (⟨rfl, _, rfl, hq⟩) (by decide) (by decide)
  · refine Own.lloadN (pc' := 7) d_jdk_29_method_66_6 rfl rfl ?_
    refine Own.goto (pc' := 11) d_jdk_29_method_66_7 (by decide) (by decide) ?_
    have hq : p = (own_max p q) := by unfold own_max; try rw [if_neg c2_1]
    exact Own.lreturn d_jdk_29_method_66_11 rfl (⟨rfl, _, rfl, hq⟩) (by decide) (by decide)
def own_next (hh : Int64) (p : Int64) (mode : Int32) : Int64 := (if mode ≠ 0 then (if mode ≠ (1 : Int32) then (if ((hh - (1 : Int64)) - (own_min (p &&& (63 : Int64)) (62 : Int64))).toInt < (0 : Int64).toInt then (hh + ((1 : Int64) + (p &&& (63 : Int64)))) else ((hh - (1 : Int64)) - (own_min (p &&& (63 : Int64)) (62 : Int64)))) else ((hh + (1 : Int64)) + (p &&& (281474976710655 : Int64)))) else (hh + ((1 : Int64) + (p &&& (63 : Int64)))))
set_option maxRecDepth 65536 in
set_option maxHeartbeats 40000000 in
theorem c_own_next (Z : State) (a0 : Array Value) (hw : ∀ d ∈ tables_1, d.before a0 Z = true) (n0 : Nat) (h : Heap) (hZ0 : n0 ≤ h.size) (hh : Int64) (p : Int64) (mode : Int32)    :
    Con Z n0 (⟨"com/example/tessitura/tessitura/srtp/ReplayWindowAddPinLaw", "next", "(JJI)J"⟩ : MethodName) method_4_code 9 (some .long) ({ frames := 1, cells := 0, slots := 0, locals := 17 } : Room) [(.long hh), (.long p), (.int mode)] h (fun v h' => h = h' ∧ ∃ z, v = some (.long z) ∧ z = (own_next hh p mode)) := by
  refine Own.enter (plainFor_of_name pn_0) (L0 := #[.val (.long hh), .second, .val (.long p), .second, .val (.int mode), .unset, .unset, .unset, .unset]) (fun m => by first | (simp [entryFrame, mkF, argsToLocals, Value.category]; done) | rfl) fun K => ?_
  show Go K _ _ _ _ _ _ "com/example/tessitura/tessitura/srtp/ReplayWindowAddPinLaw" "next" _ 0 0 h 0 #[.val (.long hh), .second, .val (.long p), .second, .val (.int mode), .unset, .unset, .unset, .unset] []
  refine Own.lconst1 (pc' := 1) d_method_4_0 rfl ?_
  refine Own.lloadN (pc' := 2) d_method_4_1 rfl rfl ?_
  refine Own.ldc2Long (pc' := 5) (v := (63 : Int64)) d_method_4_2 (hw _ (List.mem_of_getElem? (i := 5) rfl)) rfl ?_
  refine Own.land (pc' := 6) d_method_4_5 rfl fun v3 hv3 => ?_
  refine Own.ladd (pc' := 7) d_method_4_6 rfl fun v4 hv4 => ?_
  refine Own.lstore (pc' := 9) (L1 := #[.val (.long hh), .second, .val (.long p), .second, .val (.int mode), .val (.long v4), .second, .unset, .unset]) d_method_4_7 rfl rfl ?_
  refine Own.iload (pc' := 11) d_method_4_9 rfl rfl ?_
  refine Own.if_ne (pc' := 19) (pc2 := 14) d_method_4_11 (by decide) (by decide) rfl (fun c11_4 => ?_) (fun c11_4 => ?_)
  · refine Own.iload (pc' := 21) d_method_4_19 rfl rfl ?_
    refine Own.iconst (pc' := 22) (v := (1 : Int32)) d_method_4_21 (by decide) rfl ?_
    refine Own.icmp_ne (pc' := 35) (pc2 := 25) d_method_4_22 (by decide) (by decide) rfl (fun c22_5 => ?_) (fun c22_5 => ?_)
    · refine Own.lloadN (pc' := 36) d_method_4_35 rfl rfl ?_
      refine Own.lconst1 (pc' := 37) d_method_4_36 rfl ?_
      refine Own.lsub (pc' := 38) d_method_4_37 rfl fun v7 hv7 => ?_
      refine Own.lloadN (pc' := 39) d_method_4_38 rfl rfl ?_
      refine Own.ldc2Long (pc' := 42) (v := (63 : Int64)) d_method_4_39 (hw _ (List.mem_of_getElem? (i := 5) rfl)) rfl ?_
      refine Own.land (pc' := 43) d_method_4_42 rfl fun v8 hv8 => ?_
      refine Own.ldc2Long (pc' := 46) (v := (62 : Int64)) d_method_4_43 (hw _ (List.mem_of_getElem? (i := 6) rfl)) rfl ?_
      refine Own.static (pc' := 49) (y := (⟨"java/lang/Math", "min", "(JJ)J"⟩ : MethodName)) (rm' := ({ frames := 0, cells := 0, slots := 0, locals := 0 } : Room)) (W := 2) (as := [(.long v8), (.long (62 : Int64))]) (rest := [(.long v7)]) d_method_4_46 rfl (hw _ (List.mem_of_getElem? (i := 7) rfl)) (hw _ (List.mem_of_getElem? (i := 8) rfl)) (hw _ (List.mem_of_getElem? (i := 9) rfl)) (hw _ (List.mem_of_getElem? (i := 10) rfl)) (by decide) (c_own_min Z a0 hw n0 h hZ0 v8 (62 : Int64)   ) rfl rfl (lenOf pd_0 rfl) (by decide) rfl (by decide) (by decide) (by decide) fun r10 h9 qh9 => ?_
      obtain ⟨e1, v11, e2, hv11⟩ := qh9
      subst e1 e2
      show Go K _ _ _ _ _ _ _ _ _ 0 0 h 49 #[.val (.long hh), .second, .val (.long p), .second, .val (.int mode), .val (.long v4), .second, .unset, .unset] [(.long v11), (.long v7)]
      refine Own.lsub (pc' := 50) d_method_4_49 rfl fun v12 hv12 => ?_
      refine Own.lstore (pc' := 52) (L1 := #[.val (.long hh), .second, .val (.long p), .second, .val (.int mode), .val (.long v4), .second, .val (.long v12), .second]) d_method_4_50 rfl rfl ?_
      refine Own.lload (pc' := 54) d_method_4_52 rfl rfl ?_
      refine Own.lconst0 (pc' := 55) d_method_4_54 rfl ?_
      refine Own.lcmp_lt (pc1 := 56) (pc' := 62) (pc2 := 59) d_method_4_55 rfl d_method_4_56 (by decide) (by decide) rfl (fun c55_12 => ?_) (fun c55_12 => ?_)
      · refine Own.lloadN (pc' := 63) d_method_4_62 rfl rfl ?_
        refine Own.lload (pc' := 65) d_method_4_63 rfl rfl ?_
        refine Own.ladd (pc' := 66) d_method_4_65 rfl fun v14 hv14 => ?_
        subst hv3
        subst hv4
        subst hv7
        subst hv8
        subst hv11
        subst hv12
        subst hv14
        have hq : (hh + ((1 : Int64) + (p &&& (63 : Int64)))) = (own_next hh p mode) := by unfold own_next; try rw [if_pos c11_4]; try rw [if_pos c22_5]; try rw [if_pos c55_12]
        exact Own.lreturn d_method_4_66 rfl (⟨rfl, _, rfl, hq⟩) (by decide) (by decide)
      · refine Own.lload (pc' := 61) d_method_4_59 rfl rfl ?_
        subst hv3
        subst hv4
        subst hv7
        subst hv8
        subst hv11
        subst hv12
        have hq : ((hh - (1 : Int64)) - (own_min (p &&& (63 : Int64)) (62 : Int64))) = (own_next hh p mode) := by unfold own_next; try rw [if_pos c11_4]; try rw [if_pos c22_5]; try rw [if_neg c55_12]
        exact Own.lreturn d_method_4_61 rfl (⟨rfl, _, rfl, hq⟩) (by decide) (by decide)
    · refine Own.lloadN (pc' := 26) d_method_4_25 rfl rfl ?_
      refine Own.lconst1 (pc' := 27) d_method_4_26 rfl ?_
      refine Own.ladd (pc' := 28) d_method_4_27 rfl fun v15 hv15 => ?_
      refine Own.lloadN (pc' := 29) d_method_4_28 rfl rfl ?_
      refine Own.ldc2Long (pc' := 32) (v := (281474976710655 : Int64)) d_method_4_29 (hw _ (List.mem_of_getElem? (i := 0) rfl)) rfl ?_
      refine Own.land (pc' := 33) d_method_4_32 rfl fun v16 hv16 => ?_
      refine Own.ladd (pc' := 34) d_method_4_33 rfl fun v17 hv17 => ?_
      subst hv3
      subst hv4
      subst hv15
      subst hv16
      subst hv17
      have hq : ((hh + (1 : Int64)) + (p &&& (281474976710655 : Int64))) = (own_next hh p mode) := by unfold own_next; try rw [if_pos c11_4]; try rw [if_neg c22_5]
      exact Own.lreturn d_method_4_34 rfl (⟨rfl, _, rfl, hq⟩) (by decide) (by decide)
  · refine Own.lloadN (pc' := 15) d_method_4_14 rfl rfl ?_
    refine Own.lload (pc' := 17) d_method_4_15 rfl rfl ?_
    refine Own.ladd (pc' := 18) d_method_4_17 rfl fun v18 hv18 => ?_
    subst hv3
    subst hv4
    subst hv18
    have hq : (hh + ((1 : Int64) + (p &&& (63 : Int64)))) = (own_next hh p mode) := by unfold own_next; try rw [if_neg c11_4]
    exact Own.lreturn d_method_4_18 rfl (⟨rfl, _, rfl, hq⟩) (by decide) (by decide)
def own_taken (x : Int64) (a : Int64) (b : Int64) (c : Int64) : Int32 := (if x = a then (1 : Int32) else (if x = b then (1 : Int32) else (if x ≠ c then (0 : Int32) else (1 : Int32))))
set_option maxRecDepth 65536 in
set_option maxHeartbeats 40000000 in
theorem c_own_taken (Z : State) (a0 : Array Value) (hw : ∀ d ∈ tables_1, d.before a0 Z = true) (n0 : Nat) (h : Heap) (hZ0 : n0 ≤ h.size) (x : Int64) (a : Int64) (b : Int64) (c : Int64)    :
    Con Z n0 (⟨"com/example/tessitura/tessitura/srtp/ReplayWindowAddPinLaw", "taken", "(JJJJ)Z"⟩ : MethodName) method_3_code 8 (some .boolean) ({ frames := 0, cells := 0, slots := 0, locals := 0 } : Room) [(.long x), (.long a), (.long b), (.long c)] h (fun v h' => h = h' ∧ ∃ z, v = some (.int z) ∧ z = (own_taken x a b c)) := by
  refine Own.enter (plainFor_of_name pn_0) (L0 := #[.val (.long x), .second, .val (.long a), .second, .val (.long b), .second, .val (.long c), .second]) (fun m => by first | (simp [entryFrame, mkF, argsToLocals, Value.category]; done) | rfl) fun K => ?_
  show Go K _ _ _ _ _ _ "com/example/tessitura/tessitura/srtp/ReplayWindowAddPinLaw" "taken" _ 0 0 h 0 #[.val (.long x), .second, .val (.long a), .second, .val (.long b), .second, .val (.long c), .second] []
  refine Own.lloadN (pc' := 1) d_method_3_0 rfl rfl ?_
  refine Own.lloadN (pc' := 2) d_method_3_1 rfl rfl ?_
  refine Own.lcmp_eq (pc1 := 3) (pc' := 20) (pc2 := 6) d_method_3_2 rfl d_method_3_3 (by decide) (by decide) rfl (fun c2_18 => ?_) (fun c2_18 => ?_)
  · refine Own.iconst (pc' := 21) (v := (1 : Int32)) d_method_3_20 (by decide) rfl ?_
    refine Own.goto (pc' := 25) d_method_3_21 (by decide) (by decide) ?_
    have hq : (1 : Int32) = (own_taken x a b c) := by unfold own_taken; try rw [if_pos c2_18]
    exact Own.ireturnZ (z' := (1 : Int32)) d_method_3_25 rfl (by decide) (⟨rfl, _, rfl, hq⟩) (by decide) (by decide)
  · refine Own.lloadN (pc' := 7) d_method_3_6 rfl rfl ?_
    refine Own.lload (pc' := 9) d_method_3_7 rfl rfl ?_
    refine Own.lcmp_eq (pc1 := 10) (pc' := 20) (pc2 := 13) d_method_3_9 rfl d_method_3_10 (by decide) (by decide) rfl (fun c9_19 => ?_) (fun c9_19 => ?_)
    · refine Own.iconst (pc' := 21) (v := (1 : Int32)) d_method_3_20 (by decide) rfl ?_
      refine Own.goto (pc' := 25) d_method_3_21 (by decide) (by decide) ?_
      have hq : (1 : Int32) = (own_taken x a b c) := by unfold own_taken; try rw [if_neg c2_18]; try rw [if_pos c9_19]
      exact Own.ireturnZ (z' := (1 : Int32)) d_method_3_25 rfl (by decide) (⟨rfl, _, rfl, hq⟩) (by decide) (by decide)
    · refine Own.lloadN (pc' := 14) d_method_3_13 rfl rfl ?_
      refine Own.lload (pc' := 16) d_method_3_14 rfl rfl ?_
      refine Own.lcmp_ne (pc1 := 17) (pc' := 24) (pc2 := 20) d_method_3_16 rfl d_method_3_17 (by decide) (by decide) rfl (fun c16_20 => ?_) (fun c16_20 => ?_)
      · refine Own.iconst (pc' := 25) (v := (0 : Int32)) d_method_3_24 (by decide) rfl ?_
        have hq : (0 : Int32) = (own_taken x a b c) := by unfold own_taken; try rw [if_neg c2_18]; try rw [if_neg c9_19]; try rw [if_pos c16_20]
        exact Own.ireturnZ (z' := (0 : Int32)) d_method_3_25 rfl (by decide) (⟨rfl, _, rfl, hq⟩) (by decide) (by decide)
      · refine Own.iconst (pc' := 21) (v := (1 : Int32)) d_method_3_20 (by decide) rfl ?_
        refine Own.goto (pc' := 25) d_method_3_21 (by decide) (by decide) ?_
        have hq : (1 : Int32) = (own_taken x a b c) := by unfold own_taken; try rw [if_neg c2_18]; try rw [if_neg c9_19]; try rw [if_neg c16_20]
        exact Own.ireturnZ (z' := (1 : Int32)) d_method_3_25 rfl (by decide) (⟨rfl, _, rfl, hq⟩) (by decide) (by decide)
set_option maxRecDepth 65536 in
set_option maxHeartbeats 40000000 in
theorem c_own_rw (Z : State) (a0 : Array Value) (hw : ∀ d ∈ tables_1, d.before a0 Z = true) (n0 : Nat) (h : Heap) (hZ0 : n0 ≤ h.size) (a : Addr) (E_a : Exa Z h a "com/example/tessitura/tessitura/srtp/ReplayWindow") (F_highest_a : Fld Z h a "com/example/tessitura/tessitura/srtp/ReplayWindow" "highest" "J" (.long (0 : Int64))) (F_taken_a : Fld Z h a "com/example/tessitura/tessitura/srtp/ReplayWindow" "taken" "J" (.long (0 : Int64))) (g_a : n0 ≤ a)  :
    Con Z n0 (⟨"com/example/tessitura/tessitura/srtp/ReplayWindow", "<init>", "()V"⟩ : MethodName) prog_43_method_1_code 1 none ({ frames := 1, cells := 0, slots := 0, locals := 12 } : Room) [(.ref a)] h (fun v h' => v = none ∧ Keep h h' [a] ∧ Exa Z h' a "com/example/tessitura/tessitura/srtp/ReplayWindow" ∧ Fld Z h' a "com/example/tessitura/tessitura/srtp/ReplayWindow" "highest" "J" (.long (0 : Int64)) ∧ Fld Z h' a "com/example/tessitura/tessitura/srtp/ReplayWindow" "taken" "J" (.long (0 : Int64))) := by
  refine Own.enter (plainFor_of_name pn_1) (L0 := #[.val (.ref a)]) (fun m => by first | (simp [entryFrame, mkF, argsToLocals, Value.category]; done) | rfl) fun K => ?_
  show Go K _ _ _ _ _ _ "com/example/tessitura/tessitura/srtp/ReplayWindow" "<init>" _ 0 0 h 0 #[.val (.ref a)] []
  refine Own.aloadN (pc' := 1) d_prog_43_method_1_0 rfl rfl rfl ?_
  refine Own.objinit (pc' := 4) d_prog_43_method_1_1 rfl (hw _ (List.mem_of_getElem? (i := 20) rfl)) (hw _ (List.mem_of_getElem? (i := 21) rfl)) (hw _ (List.mem_of_getElem? (i := 22) rfl)) rfl (by decide) (W := 0) rfl (by decide) ?_
  exact Own.vreturn d_prog_43_method_1_4 rfl (⟨rfl, (Keep.refl h [a]), E_a, F_highest_a, F_taken_a⟩) (by decide) (by decide)
def own_add_highest (n : Int64) (u_highest : Int64) (u_taken : Int64) : Int64 := (if n.toInt ≤ u_highest.toInt then u_highest else n)
def own_add_taken (n : Int64) (u_highest : Int64) (u_taken : Int64) : Int64 := (if n.toInt ≤ u_highest.toInt then (u_taken ||| ((1 : Int64) <<< (((u_highest - n).toInt32) &&& 63).toInt64)) else (if (n - u_highest).toInt < (64 : Int64).toInt then ((u_taken <<< (((n - u_highest).toInt32) &&& 63).toInt64) ||| (1 : Int64)) else (1 : Int64)))
set_option maxRecDepth 65536 in
set_option maxHeartbeats 40000000 in
theorem c_own_add (Z : State) (a0 : Array Value) (hw : ∀ d ∈ tables_1, d.before a0 Z = true) (n0 : Nat) (h : Heap) (hZ0 : n0 ≤ h.size) (a : Addr) (n : Int64) (u_highest : Int64) (u_taken : Int64) (E_a : Exa Z h a "com/example/tessitura/tessitura/srtp/ReplayWindow") (F_highest_a : Fld Z h a "com/example/tessitura/tessitura/srtp/ReplayWindow" "highest" "J" (.long u_highest)) (F_taken_a : Fld Z h a "com/example/tessitura/tessitura/srtp/ReplayWindow" "taken" "J" (.long u_taken)) (g_a : n0 ≤ a)  :
    Con Z n0 (⟨"com/example/tessitura/tessitura/srtp/ReplayWindow", "add", "(J)V"⟩ : MethodName) prog_43_method_4_code 5 none ({ frames := 0, cells := 0, slots := 0, locals := 0 } : Room) [(.ref a), (.long n)] h (fun v h' => v = none ∧ Keep h h' [a] ∧ Exa Z h' a "com/example/tessitura/tessitura/srtp/ReplayWindow" ∧ Fld Z h' a "com/example/tessitura/tessitura/srtp/ReplayWindow" "highest" "J" (.long (own_add_highest n u_highest u_taken)) ∧ Fld Z h' a "com/example/tessitura/tessitura/srtp/ReplayWindow" "taken" "J" (.long (own_add_taken n u_highest u_taken))) := by
  refine Own.enter (plainFor_of_name pn_1) (L0 := #[.val (.ref a), .val (.long n), .second, .unset, .unset]) (fun m => by first | (simp [entryFrame, mkF, argsToLocals, Value.category]; done) | rfl) fun K => ?_
  show Go K _ _ _ _ _ _ "com/example/tessitura/tessitura/srtp/ReplayWindow" "add" _ 0 0 h 0 #[.val (.ref a), .val (.long n), .second, .unset, .unset] []
  refine Own.lloadN (pc' := 1) d_prog_43_method_4_0 rfl rfl ?_
  refine Own.aloadN (pc' := 2) d_prog_43_method_4_1 rfl rfl rfl ?_
  refine Own.getfield (pc' := 5) d_prog_43_method_4_2 rfl (host := "") (Or.inl (hw _ (List.mem_of_getElem? (i := 28) rfl))) Via.refl F_highest_a ?_
  refine Own.lcmp_le (pc1 := 6) (pc' := 49) (pc2 := 9) d_prog_43_method_4_5 rfl d_prog_43_method_4_6 (by decide) (by decide) rfl (fun c5_21 => ?_) (fun c5_21 => ?_)
  · refine Own.aloadN (pc' := 50) d_prog_43_method_4_49 rfl rfl rfl ?_
    refine Own.dup (pc' := 51) d_prog_43_method_4_50 rfl rfl ?_
    refine Own.getfield (pc' := 54) d_prog_43_method_4_51 rfl (host := "") (Or.inl (hw _ (List.mem_of_getElem? (i := 31) rfl))) Via.refl F_taken_a ?_
    refine Own.lconst1 (pc' := 55) d_prog_43_method_4_54 rfl ?_
    refine Own.aloadN (pc' := 56) d_prog_43_method_4_55 rfl rfl rfl ?_
    refine Own.getfield (pc' := 59) d_prog_43_method_4_56 rfl (host := "") (Or.inl (hw _ (List.mem_of_getElem? (i := 28) rfl))) Via.refl F_highest_a ?_
    refine Own.lloadN (pc' := 60) d_prog_43_method_4_59 rfl rfl ?_
    refine Own.lsub (pc' := 61) d_prog_43_method_4_60 rfl fun v23 hv23 => ?_
    refine Own.l2i (pc' := 62) d_prog_43_method_4_61 rfl fun v24 hv24 => ?_
    refine Own.lshl (pc' := 63) d_prog_43_method_4_62 rfl fun v25 hv25 => ?_
    refine Own.lor (pc' := 64) d_prog_43_method_4_63 rfl fun v26 hv26 => ?_
    refine Own.putfield (pc' := 67) d_prog_43_method_4_64 rfl (host := "") (Or.inl (hw _ (List.mem_of_getElem? (i := 31) rfl))) Via.refl F_taken_a E_a (Or.inl (hw _ (List.mem_of_getElem? (i := 32) rfl))) (hw _ (List.mem_of_getElem? (i := 15) rfl)) (ty := .long) (by decide) rfl rfl g_a fun h27 Wh27 => ?_
    have f28 := F_highest_a.other Wh27 (Or.inr (slot_ne (Or.inl (hw _ (List.mem_of_getElem? (i := 29) rfl))) (Or.inl (hw _ (List.mem_of_getElem? (i := 32) rfl))) (by decide) (t := .long) (t' := .long) (by decide) (by decide)))
    have f29 := F_taken_a.same Wh27
    have f30 := E_a.wr Wh27
    have Zh27 : n0 ≤ h27.size := by rw [Wh27.size]; exact hZ0
    have Kh27 := (Keep.refl h [a]).wr Wh27 (Or.inl (by simp))
    subst hv23
    subst hv24
    subst hv25
    subst hv26
    have hq_highest : u_highest = own_add_highest n u_highest u_taken := by unfold own_add_highest; try rw [if_pos c5_21]; try rfl
    have hq_taken : (u_taken ||| ((1 : Int64) <<< (((u_highest - n).toInt32) &&& 63).toInt64)) = own_add_taken n u_highest u_taken := by unfold own_add_taken; try rw [if_pos c5_21]; try rfl
    exact Own.vreturn d_prog_43_method_4_67 rfl (⟨rfl, Kh27, f30, by rw [← hq_highest]; exact f28, by rw [← hq_taken]; exact f29⟩) (by decide) (by decide)
  · refine Own.lloadN (pc' := 10) d_prog_43_method_4_9 rfl rfl ?_
    refine Own.aloadN (pc' := 11) d_prog_43_method_4_10 rfl rfl rfl ?_
    refine Own.getfield (pc' := 14) d_prog_43_method_4_11 rfl (host := "") (Or.inl (hw _ (List.mem_of_getElem? (i := 28) rfl))) Via.refl F_highest_a ?_
    refine Own.lsub (pc' := 15) d_prog_43_method_4_14 rfl fun v31 hv31 => ?_
    refine Own.lstoreN (pc' := 16) (L1 := #[.val (.ref a), .val (.long n), .second, .val (.long v31), .second]) d_prog_43_method_4_15 rfl rfl ?_
    refine Own.aloadN (pc' := 17) d_prog_43_method_4_16 rfl rfl rfl ?_
    refine Own.lloadN (pc' := 18) d_prog_43_method_4_17 rfl rfl ?_
    refine Own.ldc2Long (pc' := 21) (v := (64 : Int64)) d_prog_43_method_4_18 (hw _ (List.mem_of_getElem? (i := 30) rfl)) rfl ?_
    refine Own.lcmp_lt (pc1 := 22) (pc' := 29) (pc2 := 25) d_prog_43_method_4_21 rfl d_prog_43_method_4_22 (by decide) (by decide) rfl (fun c21_31 => ?_) (fun c21_31 => ?_)
    · refine Own.aloadN (pc' := 30) d_prog_43_method_4_29 rfl rfl rfl ?_
      refine Own.getfield (pc' := 33) d_prog_43_method_4_30 rfl (host := "") (Or.inl (hw _ (List.mem_of_getElem? (i := 31) rfl))) Via.refl F_taken_a ?_
      refine Own.lloadN (pc' := 34) d_prog_43_method_4_33 rfl rfl ?_
      refine Own.l2i (pc' := 35) d_prog_43_method_4_34 rfl fun v33 hv33 => ?_
      refine Own.lshl (pc' := 36) d_prog_43_method_4_35 rfl fun v34 hv34 => ?_
      refine Own.lconst1 (pc' := 37) d_prog_43_method_4_36 rfl ?_
      refine Own.lor (pc' := 38) d_prog_43_method_4_37 rfl fun v35 hv35 => ?_
      refine Own.putfield (pc' := 41) d_prog_43_method_4_38 rfl (host := "") (Or.inl (hw _ (List.mem_of_getElem? (i := 31) rfl))) Via.refl F_taken_a E_a (Or.inl (hw _ (List.mem_of_getElem? (i := 32) rfl))) (hw _ (List.mem_of_getElem? (i := 15) rfl)) (ty := .long) (by decide) rfl rfl g_a fun h36 Wh36 => ?_
      have f37 := F_highest_a.other Wh36 (Or.inr (slot_ne (Or.inl (hw _ (List.mem_of_getElem? (i := 29) rfl))) (Or.inl (hw _ (List.mem_of_getElem? (i := 32) rfl))) (by decide) (t := .long) (t' := .long) (by decide) (by decide)))
      have f38 := F_taken_a.same Wh36
      have f39 := E_a.wr Wh36
      have Zh36 : n0 ≤ h36.size := by rw [Wh36.size]; exact hZ0
      have Kh36 := (Keep.refl h [a]).wr Wh36 (Or.inl (by simp))
      refine Own.aloadN (pc' := 42) d_prog_43_method_4_41 rfl rfl rfl ?_
      refine Own.lloadN (pc' := 43) d_prog_43_method_4_42 rfl rfl ?_
      refine Own.putfield (pc' := 46) d_prog_43_method_4_43 rfl (host := "") (Or.inl (hw _ (List.mem_of_getElem? (i := 28) rfl))) Via.refl f37 f39 (Or.inl (hw _ (List.mem_of_getElem? (i := 29) rfl))) (hw _ (List.mem_of_getElem? (i := 15) rfl)) (ty := .long) (by decide) rfl rfl g_a fun h40 Wh40 => ?_
      have f41 := f37.same Wh40
      have f42 := f38.other Wh40 (Or.inr (slot_ne (Or.inl (hw _ (List.mem_of_getElem? (i := 32) rfl))) (Or.inl (hw _ (List.mem_of_getElem? (i := 29) rfl))) (by decide) (t := .long) (t' := .long) (by decide) (by decide)))
      have f43 := f39.wr Wh40
      have Zh40 : n0 ≤ h40.size := by rw [Wh40.size]; exact Zh36
      have Kh40 := Kh36.wr Wh40 (Or.inl (by simp))
      refine Own.goto (pc' := 67) d_prog_43_method_4_46 (by decide) (by decide) ?_
      subst hv31
      subst hv33
      subst hv34
      subst hv35
      have hq_highest : n = own_add_highest n u_highest u_taken := by unfold own_add_highest; try rw [if_neg c5_21]; try rw [if_pos c21_31]; try rfl
      have hq_taken : ((u_taken <<< (((n - u_highest).toInt32) &&& 63).toInt64) ||| (1 : Int64)) = own_add_taken n u_highest u_taken := by unfold own_add_taken; try rw [if_neg c5_21]; try rw [if_pos c21_31]; try rfl
      exact Own.vreturn d_prog_43_method_4_67 rfl (⟨rfl, Kh40, f43, by rw [← hq_highest]; exact f41, by rw [← hq_taken]; exact f42⟩) (by decide) (by decide)
    · refine Own.lconst1 (pc' := 26) d_prog_43_method_4_25 rfl ?_
      refine Own.goto (pc' := 38) d_prog_43_method_4_26 (by decide) (by decide) ?_
      refine Own.putfield (pc' := 41) d_prog_43_method_4_38 rfl (host := "") (Or.inl (hw _ (List.mem_of_getElem? (i := 31) rfl))) Via.refl F_taken_a E_a (Or.inl (hw _ (List.mem_of_getElem? (i := 32) rfl))) (hw _ (List.mem_of_getElem? (i := 15) rfl)) (ty := .long) (by decide) rfl rfl g_a fun h44 Wh44 => ?_
      have f45 := F_highest_a.other Wh44 (Or.inr (slot_ne (Or.inl (hw _ (List.mem_of_getElem? (i := 29) rfl))) (Or.inl (hw _ (List.mem_of_getElem? (i := 32) rfl))) (by decide) (t := .long) (t' := .long) (by decide) (by decide)))
      have f46 := F_taken_a.same Wh44
      have f47 := E_a.wr Wh44
      have Zh44 : n0 ≤ h44.size := by rw [Wh44.size]; exact hZ0
      have Kh44 := (Keep.refl h [a]).wr Wh44 (Or.inl (by simp))
      refine Own.aloadN (pc' := 42) d_prog_43_method_4_41 rfl rfl rfl ?_
      refine Own.lloadN (pc' := 43) d_prog_43_method_4_42 rfl rfl ?_
      refine Own.putfield (pc' := 46) d_prog_43_method_4_43 rfl (host := "") (Or.inl (hw _ (List.mem_of_getElem? (i := 28) rfl))) Via.refl f45 f47 (Or.inl (hw _ (List.mem_of_getElem? (i := 29) rfl))) (hw _ (List.mem_of_getElem? (i := 15) rfl)) (ty := .long) (by decide) rfl rfl g_a fun h48 Wh48 => ?_
      have f49 := f45.same Wh48
      have f50 := f46.other Wh48 (Or.inr (slot_ne (Or.inl (hw _ (List.mem_of_getElem? (i := 32) rfl))) (Or.inl (hw _ (List.mem_of_getElem? (i := 29) rfl))) (by decide) (t := .long) (t' := .long) (by decide) (by decide)))
      have f51 := f47.wr Wh48
      have Zh48 : n0 ≤ h48.size := by rw [Wh48.size]; exact Zh44
      have Kh48 := Kh44.wr Wh48 (Or.inl (by simp))
      refine Own.goto (pc' := 67) d_prog_43_method_4_46 (by decide) (by decide) ?_
      subst hv31
      have hq_highest : n = own_add_highest n u_highest u_taken := by unfold own_add_highest; try rw [if_neg c5_21]; try rw [if_neg c21_31]; try rfl
      have hq_taken : (1 : Int64) = own_add_taken n u_highest u_taken := by unfold own_add_taken; try rw [if_neg c5_21]; try rw [if_neg c21_31]; try rfl
      exact Own.vreturn d_prog_43_method_4_67 rfl (⟨rfl, Kh48, f51, by rw [← hq_highest]; exact f49, by rw [← hq_taken]; exact f50⟩) (by decide) (by decide)
def own_est (s : Int32) (hi : Int64) : Int64 := (if (32768 : Int32).toInt ≤ ((hi &&& (65535 : Int64)).toInt32).toInt then (if (((hi &&& (65535 : Int64)).toInt32) - (32768 : Int32)).toInt ≤ s.toInt then (((Jvm.Own.ushrL hi (16 : Int32)) <<< ((16 : Int32) &&& 63).toInt64) ||| (s.toInt64)) else ((((Jvm.Own.ushrL hi (16 : Int32)) + (1 : Int64)) <<< ((16 : Int32) &&& 63).toInt64) ||| (s.toInt64))) else (if (s - ((hi &&& (65535 : Int64)).toInt32)).toInt ≤ (32768 : Int32).toInt then (((Jvm.Own.ushrL hi (16 : Int32)) <<< ((16 : Int32) &&& 63).toInt64) ||| (s.toInt64)) else (if (Jvm.Own.ushrL hi (16 : Int32)).toInt ≤ (0 : Int64).toInt then (((Jvm.Own.ushrL hi (16 : Int32)) <<< ((16 : Int32) &&& 63).toInt64) ||| (s.toInt64)) else ((((Jvm.Own.ushrL hi (16 : Int32)) - (1 : Int64)) <<< ((16 : Int32) &&& 63).toInt64) ||| (s.toInt64)))))
set_option maxRecDepth 65536 in
set_option maxHeartbeats 40000000 in
theorem c_own_est (Z : State) (a0 : Array Value) (hw : ∀ d ∈ tables_1, d.before a0 Z = true) (n0 : Nat) (h : Heap) (hZ0 : n0 ≤ h.size) (a : Addr) (s : Int32) (hi : Int64) (F_highest_a : Fld Z h a "com/example/tessitura/tessitura/srtp/ReplayWindow" "highest" "J" (.long hi))  :
    Con Z n0 (⟨"com/example/tessitura/tessitura/srtp/ReplayWindow", "estimate", "(I)J"⟩ : MethodName) prog_43_method_2_code 7 (some .long) ({ frames := 0, cells := 0, slots := 0, locals := 0 } : Room) [(.ref a), (.int s)] h (fun v h' => h = h' ∧ ∃ z, v = some (.long z) ∧ z = (own_est s hi)) := by
  refine Own.enter (plainFor_of_name pn_1) (L0 := #[.val (.ref a), .val (.int s), .unset, .unset, .unset, .unset, .unset]) (fun m => by first | (simp [entryFrame, mkF, argsToLocals, Value.category]; done) | rfl) fun K => ?_
  show Go K _ _ _ _ _ _ "com/example/tessitura/tessitura/srtp/ReplayWindow" "estimate" _ 0 0 h 0 #[.val (.ref a), .val (.int s), .unset, .unset, .unset, .unset, .unset] []
  refine Own.aloadN (pc' := 1) d_prog_43_method_2_0 rfl rfl rfl ?_
  refine Own.getfield (pc' := 4) d_prog_43_method_2_1 rfl (host := "") (Or.inl (hw _ (List.mem_of_getElem? (i := 28) rfl))) Via.refl F_highest_a ?_
  refine Own.bipush (pc' := 6) (v := (16 : Int32)) d_prog_43_method_2_4 (by decide) rfl ?_
  refine Own.lushr (pc' := 7) d_prog_43_method_2_6 rfl fun v52 hv52 => ?_
  refine Own.lstoreN (pc' := 8) (L1 := #[.val (.ref a), .val (.int s), .val (.long v52), .second, .unset, .unset, .unset]) d_prog_43_method_2_7 rfl rfl ?_
  refine Own.aloadN (pc' := 9) d_prog_43_method_2_8 rfl rfl rfl ?_
  refine Own.getfield (pc' := 12) d_prog_43_method_2_9 rfl (host := "") (Or.inl (hw _ (List.mem_of_getElem? (i := 28) rfl))) Via.refl F_highest_a ?_
  refine Own.ldc2Long (pc' := 15) (v := (65535 : Int64)) d_prog_43_method_2_12 (hw _ (List.mem_of_getElem? (i := 40) rfl)) rfl ?_
  refine Own.land (pc' := 16) d_prog_43_method_2_15 rfl fun v53 hv53 => ?_
  refine Own.l2i (pc' := 17) d_prog_43_method_2_16 rfl fun v54 hv54 => ?_
  refine Own.istore (pc' := 19) (L1 := #[.val (.ref a), .val (.int s), .val (.long v52), .second, .val (.int v54), .unset, .unset]) d_prog_43_method_2_17 rfl rfl ?_
  refine Own.lloadN (pc' := 20) d_prog_43_method_2_19 rfl rfl ?_
  refine Own.lstore (pc' := 22) (L1 := #[.val (.ref a), .val (.int s), .val (.long v52), .second, .val (.int v54), .val (.long v52), .second]) d_prog_43_method_2_20 rfl rfl ?_
  refine Own.iload (pc' := 24) d_prog_43_method_2_22 rfl rfl ?_
  refine Own.ldcInt (pc' := 26) (v := (32768 : Int32)) d_prog_43_method_2_24 (hw _ (List.mem_of_getElem? (i := 41) rfl)) rfl ?_
  refine Own.icmp_ge (pc' := 52) (pc2 := 29) d_prog_43_method_2_26 (by decide) (by decide) rfl (fun c26_54 => ?_) (fun c26_54 => ?_)
  · refine Own.iload (pc' := 54) d_prog_43_method_2_52 rfl rfl ?_
    refine Own.ldcInt (pc' := 56) (v := (32768 : Int32)) d_prog_43_method_2_54 (hw _ (List.mem_of_getElem? (i := 41) rfl)) rfl ?_
    refine Own.isub (pc' := 57) d_prog_43_method_2_56 rfl fun v56 hv56 => ?_
    refine Own.iloadN (pc' := 58) d_prog_43_method_2_57 rfl rfl ?_
    refine Own.icmp_le (pc' := 66) (pc2 := 61) d_prog_43_method_2_58 (by decide) (by decide) rfl (fun c58_56 => ?_) (fun c58_56 => ?_)
    · refine Own.lload (pc' := 68) d_prog_43_method_2_66 rfl rfl ?_
      refine Own.bipush (pc' := 70) (v := (16 : Int32)) d_prog_43_method_2_68 (by decide) rfl ?_
      refine Own.lshl (pc' := 71) d_prog_43_method_2_70 rfl fun v58 hv58 => ?_
      refine Own.iloadN (pc' := 72) d_prog_43_method_2_71 rfl rfl ?_
      refine Own.i2l (pc' := 73) d_prog_43_method_2_72 rfl fun v59 hv59 => ?_
      refine Own.lor (pc' := 74) d_prog_43_method_2_73 rfl fun v60 hv60 => ?_
      subst hv52
      subst hv53
      subst hv54
      subst hv56
      subst hv58
      subst hv59
      subst hv60
      have hq : (((Jvm.Own.ushrL hi (16 : Int32)) <<< ((16 : Int32) &&& 63).toInt64) ||| (s.toInt64)) = (own_est s hi) := by unfold own_est; try rw [if_pos c26_54]; try rw [if_pos c58_56]
      exact Own.lreturn d_prog_43_method_2_74 rfl (⟨rfl, _, rfl, hq⟩) (by decide) (by decide)
    · refine Own.lloadN (pc' := 62) d_prog_43_method_2_61 rfl rfl ?_
      refine Own.lconst1 (pc' := 63) d_prog_43_method_2_62 rfl ?_
      refine Own.ladd (pc' := 64) d_prog_43_method_2_63 rfl fun v61 hv61 => ?_
      refine Own.lstore (pc' := 66) (L1 := #[.val (.ref a), .val (.int s), .val (.long v52), .second, .val (.int v54), .val (.long v61), .second]) d_prog_43_method_2_64 rfl rfl ?_
      refine Own.lload (pc' := 68) d_prog_43_method_2_66 rfl rfl ?_
      refine Own.bipush (pc' := 70) (v := (16 : Int32)) d_prog_43_method_2_68 (by decide) rfl ?_
      refine Own.lshl (pc' := 71) d_prog_43_method_2_70 rfl fun v62 hv62 => ?_
      refine Own.iloadN (pc' := 72) d_prog_43_method_2_71 rfl rfl ?_
      refine Own.i2l (pc' := 73) d_prog_43_method_2_72 rfl fun v63 hv63 => ?_
      refine Own.lor (pc' := 74) d_prog_43_method_2_73 rfl fun v64 hv64 => ?_
      subst hv52
      subst hv53
      subst hv54
      subst hv56
      subst hv61
      subst hv62
      subst hv63
      subst hv64
      have hq : ((((Jvm.Own.ushrL hi (16 : Int32)) + (1 : Int64)) <<< ((16 : Int32) &&& 63).toInt64) ||| (s.toInt64)) = (own_est s hi) := by unfold own_est; try rw [if_pos c26_54]; try rw [if_neg c58_56]
      exact Own.lreturn d_prog_43_method_2_74 rfl (⟨rfl, _, rfl, hq⟩) (by decide) (by decide)
  · refine Own.iloadN (pc' := 30) d_prog_43_method_2_29 rfl rfl ?_
    refine Own.iload (pc' := 32) d_prog_43_method_2_30 rfl rfl ?_
    refine Own.isub (pc' := 33) d_prog_43_method_2_32 rfl fun v65 hv65 => ?_
    refine Own.ldcInt (pc' := 35) (v := (32768 : Int32)) d_prog_43_method_2_33 (hw _ (List.mem_of_getElem? (i := 41) rfl)) rfl ?_
    refine Own.icmp_le (pc' := 66) (pc2 := 38) d_prog_43_method_2_35 (by decide) (by decide) rfl (fun c35_65 => ?_) (fun c35_65 => ?_)
    · refine Own.lload (pc' := 68) d_prog_43_method_2_66 rfl rfl ?_
      refine Own.bipush (pc' := 70) (v := (16 : Int32)) d_prog_43_method_2_68 (by decide) rfl ?_
      refine Own.lshl (pc' := 71) d_prog_43_method_2_70 rfl fun v67 hv67 => ?_
      refine Own.iloadN (pc' := 72) d_prog_43_method_2_71 rfl rfl ?_
      refine Own.i2l (pc' := 73) d_prog_43_method_2_72 rfl fun v68 hv68 => ?_
      refine Own.lor (pc' := 74) d_prog_43_method_2_73 rfl fun v69 hv69 => ?_
      subst hv52
      subst hv53
      subst hv54
      subst hv65
      subst hv67
      subst hv68
      subst hv69
      have hq : (((Jvm.Own.ushrL hi (16 : Int32)) <<< ((16 : Int32) &&& 63).toInt64) ||| (s.toInt64)) = (own_est s hi) := by unfold own_est; try rw [if_neg c26_54]; try rw [if_pos c35_65]
      exact Own.lreturn d_prog_43_method_2_74 rfl (⟨rfl, _, rfl, hq⟩) (by decide) (by decide)
    · refine Own.lloadN (pc' := 39) d_prog_43_method_2_38 rfl rfl ?_
      refine Own.lconst0 (pc' := 40) d_prog_43_method_2_39 rfl ?_
      refine Own.lcmp_le (pc1 := 41) (pc' := 66) (pc2 := 44) d_prog_43_method_2_40 rfl d_prog_43_method_2_41 (by decide) (by decide) rfl (fun c40_69 => ?_) (fun c40_69 => ?_)
      · refine Own.lload (pc' := 68) d_prog_43_method_2_66 rfl rfl ?_
        refine Own.bipush (pc' := 70) (v := (16 : Int32)) d_prog_43_method_2_68 (by decide) rfl ?_
        refine Own.lshl (pc' := 71) d_prog_43_method_2_70 rfl fun v71 hv71 => ?_
        refine Own.iloadN (pc' := 72) d_prog_43_method_2_71 rfl rfl ?_
        refine Own.i2l (pc' := 73) d_prog_43_method_2_72 rfl fun v72 hv72 => ?_
        refine Own.lor (pc' := 74) d_prog_43_method_2_73 rfl fun v73 hv73 => ?_
        subst hv52
        subst hv53
        subst hv54
        subst hv65
        subst hv71
        subst hv72
        subst hv73
        have hq : (((Jvm.Own.ushrL hi (16 : Int32)) <<< ((16 : Int32) &&& 63).toInt64) ||| (s.toInt64)) = (own_est s hi) := by unfold own_est; try rw [if_neg c26_54]; try rw [if_neg c35_65]; try rw [if_pos c40_69]
        exact Own.lreturn d_prog_43_method_2_74 rfl (⟨rfl, _, rfl, hq⟩) (by decide) (by decide)
      · refine Own.lloadN (pc' := 45) d_prog_43_method_2_44 rfl rfl ?_
        refine Own.lconst1 (pc' := 46) d_prog_43_method_2_45 rfl ?_
        refine Own.lsub (pc' := 47) d_prog_43_method_2_46 rfl fun v74 hv74 => ?_
        refine Own.lstore (pc' := 49) (L1 := #[.val (.ref a), .val (.int s), .val (.long v52), .second, .val (.int v54), .val (.long v74), .second]) d_prog_43_method_2_47 rfl rfl ?_
        refine Own.goto (pc' := 66) d_prog_43_method_2_49 (by decide) (by decide) ?_
        refine Own.lload (pc' := 68) d_prog_43_method_2_66 rfl rfl ?_
        refine Own.bipush (pc' := 70) (v := (16 : Int32)) d_prog_43_method_2_68 (by decide) rfl ?_
        refine Own.lshl (pc' := 71) d_prog_43_method_2_70 rfl fun v75 hv75 => ?_
        refine Own.iloadN (pc' := 72) d_prog_43_method_2_71 rfl rfl ?_
        refine Own.i2l (pc' := 73) d_prog_43_method_2_72 rfl fun v76 hv76 => ?_
        refine Own.lor (pc' := 74) d_prog_43_method_2_73 rfl fun v77 hv77 => ?_
        subst hv52
        subst hv53
        subst hv54
        subst hv65
        subst hv74
        subst hv75
        subst hv76
        subst hv77
        have hq : ((((Jvm.Own.ushrL hi (16 : Int32)) - (1 : Int64)) <<< ((16 : Int32) &&& 63).toInt64) ||| (s.toInt64)) = (own_est s hi) := by unfold own_est; try rw [if_neg c26_54]; try rw [if_neg c35_65]; try rw [if_neg c40_69]
        exact Own.lreturn d_prog_43_method_2_74 rfl (⟨rfl, _, rfl, hq⟩) (by decide) (by decide)
set_option maxRecDepth 65536 in
set_option maxHeartbeats 40000000 in
theorem c_own_check (Z : State) (a0 : Array Value) (hw : ∀ d ∈ tables_1, d.before a0 Z = true) (n0 : Nat) (h : Heap) (hZ0 : n0 ≤ h.size) (a : Addr) (n : Int64) (hi tk : Int64) (F1 : Fld Z h a "com/example/tessitura/tessitura/srtp/ReplayWindow" "highest" "J" (.long hi)) (F2 : Fld Z h a "com/example/tessitura/tessitura/srtp/ReplayWindow" "taken" "J" (.long tk)) (hk : n.toInt ≤ hi.toInt → (hi - n).toInt < (64 : Int64).toInt) (hbit : n.toInt ≤ hi.toInt → (Jvm.Own.ushrL tk ((hi - n).toInt32)) &&& 1 = 0) :
    Con Z n0 (⟨"com/example/tessitura/tessitura/srtp/ReplayWindow", "check", "(J)V"⟩ : MethodName) prog_43_method_3_code 5 none ({ frames := 0, cells := 0, slots := 0, locals := 0 } : Room) [(.ref a), (.long n)] h (fun v h' => v = none ∧ h = h') := by
  refine Own.enter (plainFor_of_name pn_1) (L0 := #[.val (.ref a), .val (.long n), .second, .unset, .unset]) (fun m => by first | (simp [entryFrame, mkF, argsToLocals, Value.category]; done) | rfl) fun K => ?_
  show Go K _ _ _ _ _ _ "com/example/tessitura/tessitura/srtp/ReplayWindow" "check" _ 0 0 h 0 #[.val (.ref a), .val (.long n), .second, .unset, .unset] []
  refine Own.lloadN (pc' := 1) d_prog_43_method_3_0 rfl rfl ?_
  refine Own.aloadN (pc' := 2) d_prog_43_method_3_1 rfl rfl rfl ?_
  refine Own.getfield (pc' := 5) d_prog_43_method_3_2 rfl (host := "") (Or.inl (hw _ (List.mem_of_getElem? (i := 28) rfl))) Via.refl F1 ?_
  refine Own.lcmp_le (pc1 := 6) (pc' := 10) (pc2 := 9) d_prog_43_method_3_5 rfl d_prog_43_method_3_6 (by decide) (by decide) rfl (fun c5_77 => ?_) (fun c5_77 => ?_)
  · refine Own.aloadN (pc' := 11) d_prog_43_method_3_10 rfl rfl rfl ?_
    refine Own.getfield (pc' := 14) d_prog_43_method_3_11 rfl (host := "") (Or.inl (hw _ (List.mem_of_getElem? (i := 28) rfl))) Via.refl F1 ?_
    refine Own.lloadN (pc' := 15) d_prog_43_method_3_14 rfl rfl ?_
    refine Own.lsub (pc' := 16) d_prog_43_method_3_15 rfl fun v79 hv79 => ?_
    refine Own.lstoreN (pc' := 17) (L1 := #[.val (.ref a), .val (.long n), .second, .val (.long v79), .second]) d_prog_43_method_3_16 rfl rfl ?_
    refine Own.lloadN (pc' := 18) d_prog_43_method_3_17 rfl rfl ?_
    refine Own.ldc2Long (pc' := 21) (v := (64 : Int64)) d_prog_43_method_3_18 (hw _ (List.mem_of_getElem? (i := 30) rfl)) rfl ?_
    refine Own.lcmp_lt (pc1 := 22) (pc' := 43) (pc2 := 25) d_prog_43_method_3_21 rfl d_prog_43_method_3_22 (by decide) (by decide) rfl (fun c21_79 => ?_) (fun c21_79 => False.elim (by apply c21_79; subst_vars; exact hk (by omega)))
    refine Own.aloadN (pc' := 44) d_prog_43_method_3_43 rfl rfl rfl ?_
    refine Own.getfield (pc' := 47) d_prog_43_method_3_44 rfl (host := "") (Or.inl (hw _ (List.mem_of_getElem? (i := 31) rfl))) Via.refl F2 ?_
    refine Own.lloadN (pc' := 48) d_prog_43_method_3_47 rfl rfl ?_
    refine Own.l2i (pc' := 49) d_prog_43_method_3_48 rfl fun v81 hv81 => ?_
    refine Own.lushr (pc' := 50) d_prog_43_method_3_49 rfl fun v82 hv82 => ?_
    refine Own.lconst1 (pc' := 51) d_prog_43_method_3_50 rfl ?_
    refine Own.land (pc' := 52) d_prog_43_method_3_51 rfl fun v83 hv83 => ?_
    refine Own.lconst0 (pc' := 53) d_prog_43_method_3_52 rfl ?_
    refine Own.lcmp_eq (pc1 := 54) (pc' := 74) (pc2 := 57) d_prog_43_method_3_53 rfl d_prog_43_method_3_54 (by decide) (by decide) rfl (fun c53_83 => ?_) (fun c53_83 => False.elim (by apply c53_83; subst_vars; exact hbit (by omega)))
    exact Own.vreturn d_prog_43_method_3_74 rfl (⟨rfl, rfl⟩) (by decide) (by decide)
  · exact Own.vreturn d_prog_43_method_3_9 rfl (⟨rfl, rfl⟩) (by decide) (by decide)
theorem own_mask48 (x : Int64) : (x &&& 281474976710655).toInt = x.toInt % 2 ^ 48 := Jvm.Kit.i64_mask x 281474976710655 (k := 48) (by decide) (by decide)
theorem own_mask16 (x : Int32) : (x &&& 65535).toInt = x.toInt % 2 ^ 16 := Jvm.Kit.i32_mask x 65535 (k := 16) (by decide) (by decide)
theorem own_mask16L (x : Int64) : (x &&& 65535).toInt = x.toInt % 2 ^ 16 := Jvm.Kit.i64_mask x 65535 (k := 16) (by decide) (by decide)
theorem own_addH (n t : Int64) (h : 0 ≤ n.toInt) : own_add_highest n 0 t = n := by
  unfold own_add_highest
  split
  · rename_i q; apply Int64.toInt_inj.mp
    have k0 : (0 : Int64).toInt = 0 := by decide
    omega
  · rfl
theorem own_same (h : Int64) (s : Int32) (h0 : 0 ≤ h.toInt) (h1 : h.toInt < 2 ^ 50) (s0 : 0 ≤ s.toInt) (s1 : s.toInt < 65536) : ((h &&& (-65536)) ||| s.toInt64).toInt = h.toInt / 65536 * 65536 + s.toInt := by
  have e1 := i64_hi h (-65536) 16 (by decide) (by decide) h0
  have es : s.toInt64.toInt = s.toInt := Int32.toInt_toInt64 s
  have c : ((h.toInt / 65536).toNat : Int) = h.toInt / 65536 := Int.toNat_of_nonneg (by omega)
  rw [i64_or _ _ 16 (h.toInt / 65536).toNat (by rw [c, e1]; rfl) (by omega) (by omega) (by rw [c]; omega), e1, es]; rfl
theorem own_glue (r : Int64) (s : Int32) (r0 : 0 ≤ r.toInt) (r1 : r.toInt < 2 ^ 40) (s0 : 0 ≤ s.toInt) (s1 : s.toInt < 65536) : ((r <<< ((16 : Int32) &&& 63).toInt64) ||| s.toInt64).toInt = r.toInt * 65536 + s.toInt := by
  have es : s.toInt64.toInt = s.toInt := Int32.toInt_toInt64 s
  have e1 := Jvm.Kit.i64_shl r ((16 : Int32) &&& 63).toInt64 (k := 16) (by decide) (by omega) (by omega)
  have c : (r.toInt.toNat : Int) = r.toInt := Int.toNat_of_nonneg r0
  rw [i64_or _ _ 16 r.toInt.toNat (by rw [c, e1]) (by omega) (by omega) (by rw [c]; omega), e1, es]; omega
theorem own_estI (s : Int32) (h : Int64) (h0 : 0 ≤ h.toInt) (h1 : h.toInt < 2 ^ 52) (s0 : 0 ≤ s.toInt) (s1 : s.toInt < 65536) :
    (own_est s h).toInt = if 32768 ≤ h.toInt % 65536 then (if h.toInt % 65536 - 32768 ≤ s.toInt then h.toInt / 65536 * 65536 + s.toInt else (h.toInt / 65536 + 1) * 65536 + s.toInt)
      else (if s.toInt - h.toInt % 65536 ≤ 32768 then h.toInt / 65536 * 65536 + s.toInt else if h.toInt / 65536 ≤ 0 then h.toInt / 65536 * 65536 + s.toInt else (h.toInt / 65536 - 1) * 65536 + s.toInt) := by
  have k1 : (32768 : Int32).toInt = 32768 := by decide
  have k2 : (1 : Int64).toInt = 1 := by decide
  have k0 : (0 : Int64).toInt = 0 := by decide
  have e1 := own_mask16L h
  have e2 : ((h &&& 65535).toInt32).toInt = h.toInt % 65536 := by rw [Jvm.Kit.i32_of_i64 (by omega) (by omega)]; omega
  have e3 : (Jvm.Own.ushrL h 16).toInt = h.toInt / 65536 := ushrL_nn h h0 16 (k := 16) (by decide) (by decide)
  have e4 : (((h &&& 65535).toInt32) - 32768).toInt = h.toInt % 65536 - 32768 := by rw [Jvm.Kit.i32_sub (by omega) (by omega)]; omega
  have e5 : (s - ((h &&& 65535).toInt32)).toInt = s.toInt - h.toInt % 65536 := by rw [Jvm.Kit.i32_sub (by omega) (by omega)]; omega
  have e6 : (Jvm.Own.ushrL h 16 + 1).toInt = h.toInt / 65536 + 1 := by rw [Jvm.Kit.i64_add (by omega) (by omega)]; omega
  have e7 : (Jvm.Own.ushrL h 16 - 1).toInt = h.toInt / 65536 - 1 := by rw [Jvm.Kit.i64_sub (by omega) (by omega)]; omega
  unfold own_est
  rw [k1, e2, e4, e5, e3, k0]
  by_cases q1 : 32768 ≤ h.toInt % 65536
  · rw [if_pos q1, if_pos q1]
    by_cases q2 : h.toInt % 65536 - 32768 ≤ s.toInt
    · rw [if_pos q2, if_pos q2, own_glue _ _ (by omega) (by omega) s0 s1, e3]
    · rw [if_neg q2, if_neg q2, own_glue _ _ (by omega) (by omega) s0 s1, e6]
  · rw [if_neg q1, if_neg q1]
    by_cases q2 : s.toInt - h.toInt % 65536 ≤ 32768
    · rw [if_pos q2, if_pos q2, own_glue _ _ (by omega) (by omega) s0 s1, e3]
    · rw [if_neg q2, if_neg q2]
      by_cases q3 : h.toInt / 65536 ≤ 0
      · rw [if_pos q3, if_pos q3, own_glue _ _ (by omega) (by omega) s0 s1, e3]
      · rw [if_neg q3, if_neg q3, own_glue _ _ (by omega) (by omega) s0 s1, e7]
theorem own_shl (x : Int64) (y : Int32) (k : Nat) (hy : y.toInt = (k : Int)) (hk : k < 64) : (x <<< (y &&& 63).toInt64).toBitVec = x.toBitVec <<< k := by
  have e4 := Jvm.Kit.i32_mask y 63 (k := 6) (by decide) (by decide)
  have e5 : (y &&& 63).toInt64.toInt = (k : Int) := by rw [Int32.toInt_toInt64]; omega
  have e6 := i64_nat (y &&& 63).toInt64 (by omega)
  have e7 : ((y &&& 63).toInt64.toBitVec.smod 64).toNat = k := by
    have m1 : (y &&& 63).toInt64.toBitVec.msb = false := by rw [BitVec.msb_eq_false_iff_two_mul_lt]; omega
    have m2 : (64 : BitVec 64).msb = false := by decide
    rw [BitVec.smod_eq, m1, m2]
    show ((y &&& 63).toInt64.toBitVec % 64#64).toNat = k
    rw [BitVec.toNat_umod]
    show (y &&& 63).toInt64.toBitVec.toNat % 64 = k
    omega
  rw [Int64.toBitVec_shiftLeft, BitVec.shiftLeft_eq', e7]
def own_win (H T : Int64) (S : Int64 → Prop) : Prop := ∀ j : Nat, j < 64 → T.toBitVec.getLsbD j = true → ∃ x, S x ∧ x.toInt = H.toInt - (j : Int)
theorem own_win0 (H : Int64) : own_win H 0 (fun _ => False) := by
  intro j hj hb
  simp at hb
theorem own_one (j : Nat) (h : (1 : Int64).toBitVec.getLsbD j = true) : j = 0 := by
  have : (1 : Int64).toBitVec = 1#64 := rfl
  rw [this, BitVec.getLsbD_one] at h
  simpa using h
theorem own_win_add (H T n : Int64) (S : Int64 → Prop) (hw : own_win H T S) (H0 : 0 ≤ H.toInt) (H1 : H.toInt < 2 ^ 52) (n0 : 0 ≤ n.toInt) (n1 : n.toInt < 2 ^ 52) (hd : H.toInt - 63 ≤ n.toInt) :
    own_win (own_add_highest n H T) (own_add_taken n H T) (fun x => S x ∨ x = n) := by
  intro j hj hb
  unfold own_add_taken at hb
  unfold own_add_highest
  by_cases q : n.toInt ≤ H.toInt
  · rw [if_pos q] at hb ⊢
    have e1 := Jvm.Kit.i64_sub (x := H) (y := n) (by omega) (by omega)
    have e2 : ((H - n).toInt32).toInt = ((H.toInt - n.toInt).toNat : Int) := by rw [Jvm.Kit.i32_of_i64 (by omega) (by omega)]; omega
    rw [Int64.toBitVec_or, BitVec.getLsbD_or, Bool.or_eq_true, own_shl _ _ _ e2 (by omega), BitVec.getLsbD_shiftLeft] at hb
    rcases hb with hb | hb
    · obtain ⟨x, s, e⟩ := hw j hj hb; exact ⟨x, Or.inl s, e⟩
    · simp only [Bool.and_eq_true, Bool.not_eq_true', decide_eq_true_eq, decide_eq_false_iff_not] at hb
      have := own_one _ hb.2
      exact ⟨n, Or.inr rfl, by omega⟩
  · rw [if_neg q] at hb ⊢
    have e1 := Jvm.Kit.i64_sub (x := n) (y := H) (by omega) (by omega)
    have k64 : (64 : Int64).toInt = 64 := by decide
    by_cases q2 : (n - H).toInt < (64 : Int64).toInt
    · rw [if_pos q2] at hb
      have e2 : ((n - H).toInt32).toInt = ((n.toInt - H.toInt).toNat : Int) := by rw [Jvm.Kit.i32_of_i64 (by omega) (by omega)]; omega
      rw [Int64.toBitVec_or, BitVec.getLsbD_or, Bool.or_eq_true, own_shl _ _ _ e2 (by omega), BitVec.getLsbD_shiftLeft] at hb
      rcases hb with hb | hb
      · simp only [Bool.and_eq_true, Bool.not_eq_true', decide_eq_true_eq, decide_eq_false_iff_not] at hb
        obtain ⟨x, s, e⟩ := hw (j - (n.toInt - H.toInt).toNat) (by omega) hb.2
        exact ⟨x, Or.inl s, by omega⟩
      · have := own_one _ hb
        exact ⟨n, Or.inr rfl, by omega⟩
    · rw [if_neg q2] at hb
      have := own_one _ hb
      exact ⟨n, Or.inr rfl, by omega⟩
theorem own_bit0 (T : Int64) (y : Int32) (k : Nat) (hy : y.toInt = (k : Int)) (hk : k < 64) (hb : T.toBitVec.getLsbD k = false) : Jvm.Own.ushrL T y &&& 1 = 0 := by
  rw [ushrL_bv T y k hy hk]
  apply Int64.toBitVec_inj.mp
  rw [Int64.toBitVec_and]
  show (T.toBitVec >>> k) &&& 1#64 = 0#64
  rw [BitVec.and_one_eq_setWidth_ofBool_getLsbD, BitVec.getLsbD_ushiftRight, Nat.add_zero, hb]
  decide
theorem own_tk0 (x a b c : Int64) (h : own_taken x a b c = 0) : x ≠ a ∧ x ≠ b ∧ x ≠ c := by
  unfold own_taken at h
  split at h
  · exact absurd h (by decide)
  · split at h
    · exact absurd h (by decide)
    · split at h
      · exact ⟨by assumption, by assumption, by assumption⟩
      · exact absurd h (by decide)
theorem own_minI (p q : Int64) : (own_min p q).toInt = min p.toInt q.toInt := by unfold own_min; split <;> omega
theorem own_maxI (p q : Int64) : (own_max p q).toInt = max p.toInt q.toInt := by unfold own_max; split <;> omega
theorem own_nextI (hh p : Int64) (mode : Int32) (h0 : 0 ≤ hh.toInt) (h1 : hh.toInt < 2 ^ 50) : 0 ≤ (own_next hh p mode).toInt ∧ (own_next hh p mode).toInt ≤ hh.toInt + 2 ^ 48 + 64 ∧ hh.toInt - 63 ≤ (own_next hh p mode).toInt := by
  have k1 : (1 : Int64).toInt = 1 := by decide
  have k0 : (0 : Int64).toInt = 0 := by decide
  have k62 : (62 : Int64).toInt = 62 := by decide
  have m6 : (p &&& 63).toInt = p.toInt % 2 ^ 6 := Jvm.Kit.i64_mask p 63 (k := 6) (by decide) (by decide)
  have m48 : (p &&& 281474976710655).toInt = p.toInt % 2 ^ 48 := Jvm.Kit.i64_mask p 281474976710655 (k := 48) (by decide) (by decide)
  have e1 := Jvm.Kit.i64_add (x := 1) (y := p &&& 63) (by omega) (by omega)
  have e2 := Jvm.Kit.i64_add (x := hh) (y := 1 + (p &&& 63)) (by omega) (by omega)
  have e3 := Jvm.Kit.i64_add (x := hh) (y := 1) (by omega) (by omega)
  have e4 := Jvm.Kit.i64_add (x := hh + 1) (y := p &&& 281474976710655) (by omega) (by omega)
  have e5 := Jvm.Kit.i64_sub (x := hh) (y := 1) (by omega) (by omega)
  have e6 := own_minI (p &&& 63) 62
  have e7 := Jvm.Kit.i64_sub (x := hh - 1) (y := own_min (p &&& 63) 62) (by omega) (by omega)
  unfold own_next
  split
  · split
    · split <;> omega
    · omega
  · omega
theorem own_H (n H T : Int64) : (own_add_highest n H T).toInt = max H.toInt n.toInt := by unfold own_add_highest; split <;> omega
theorem own_ahead (h s a : Int64) (h0 : 0 ≤ h.toInt) (h1 : h.toInt < 2 ^ 51) (hs : s = h &&& 65535) (ha : a = if (32768 : Int64).toInt ≤ s.toInt then h + 32767 else h + 32768) : own_est ((a &&& 65535).toInt32) h = a := by
  have k1 : (32768 : Int64).toInt = 32768 := by decide
  have k2 : (32767 : Int64).toInt = 32767 := by decide
  have e1 := own_mask16L h
  have e2 := own_mask16L a
  have e3 := Jvm.Kit.i64_add (x := h) (y := 32767) (by omega) (by omega)
  have e4 := Jvm.Kit.i64_add (x := h) (y := 32768) (by omega) (by omega)
  have e5 : ((a &&& 65535).toInt32).toInt = a.toInt % 65536 := by rw [Jvm.Kit.i32_of_i64 (by omega) (by omega)]; omega
  apply Int64.toInt_inj.mp
  rw [own_estI _ h h0 (by omega) (by omega) (by omega), e5]
  subst hs
  by_cases q : (32768 : Int64).toInt ≤ (h &&& 65535).toInt
  · rw [if_pos q] at ha; subst ha
    rw [if_pos (by omega)]; split <;> omega
  · rw [if_neg q] at ha; subst ha
    rw [if_neg (by omega)]; split <;> omega

set_option maxRecDepth 65536 in
set_option maxHeartbeats 40000000 in
theorem own_law (l : Launch) (Z : State) (a0 : Array Value) (hw : ∀ d ∈ tables_1, d.before a0 Z = true) (ws : List Jvm.Cond) (n0 : Nat) (h : Heap) (hZ0 : n0 ≤ h.size) (p0 : Int64) (p1 : Int64) (p2 : Int64) (p3 : Int32) (p4 : Int32) (p5 : Int32)  :
    MetFree l x (head1 (Jvm.Cond.code x code maxLocals ret :: ws) room_1) (fun a U => a = #[(.long p0), (.long p1), (.long p2), (.int p3), (.int p4), (.int p5)] ∧ Z.Warmed39 U.vm ∧ U.heap = h) (fun _ _ _ _ _ => True) (fun _ U o U' => ∃ v L, o = .returned v ∧ ((fun v _ => v = some (.int 1)) v U'.heap ∧ Fr n0 L) ∧ FrameEnd U o U' L room_1.cells room_1.slots) := by
  refine Own.enterW (Q := fun v _ => v = some (.int 1)) (plainFor_of_name pn_0) (L0 := #[.val (.long p0), .second, .val (.long p1), .second, .val (.long p2), .second, .val (.int p3), .val (.int p4), .val (.int p5), .unset, .unset, .unset, .unset, .unset, .unset, .unset, .unset, .unset, .unset, .unset, .unset, .unset, .unset, .unset, .unset, .unset, .unset, .unset, .unset, .unset, .unset]) (fun m => by first | (simp [entryFrame, mkF, argsToLocals, Value.category, maxLocals]; done) | rfl) fun K => ?_
  show Go K _ _ _ code 31 (some .boolean) "com/example/tessitura/tessitura/srtp/ReplayWindowAddPinLaw" "law" _ 0 0 h 0 #[.val (.long p0), .second, .val (.long p1), .second, .val (.long p2), .second, .val (.int p3), .val (.int p4), .val (.int p5), .unset, .unset, .unset, .unset, .unset, .unset, .unset, .unset, .unset, .unset, .unset, .unset, .unset, .unset, .unset, .unset, .unset, .unset, .unset, .unset, .unset, .unset] []
  refine Own.lloadN (pc' := 1) at_0 rfl rfl ?_
  refine Own.ldc2Long (pc' := 4) (v := (281474976710655 : Int64)) at_1 (hw _ (List.mem_of_getElem? (i := 0) rfl)) rfl ?_
  refine Own.land (pc' := 5) at_4 rfl fun v85 hv85 => ?_
  refine Own.lstore (pc' := 7) (L1 := #[.val (.long p0), .second, .val (.long p1), .second, .val (.long p2), .second, .val (.int p3), .val (.int p4), .val (.int p5), .val (.long v85), .second, .unset, .unset, .unset, .unset, .unset, .unset, .unset, .unset, .unset, .unset, .unset, .unset, .unset, .unset, .unset, .unset, .unset, .unset, .unset, .unset]) at_5 rfl rfl ?_
  refine Own.lload (pc' := 9) at_7 rfl rfl ?_
  refine Own.lloadN (pc' := 10) at_9 rfl rfl ?_
  refine Own.iload (pc' := 12) at_10 rfl rfl ?_
  refine Own.iconst (pc' := 13) (v := (3 : Int32)) at_12 (by decide) rfl ?_
  refine Own.iand (pc' := 14) at_13 rfl fun v86 hv86 => ?_
  refine Own.static (pc' := 17) (y := (⟨"com/example/tessitura/tessitura/srtp/ReplayWindowAddPinLaw", "next", "(JJI)J"⟩ : MethodName)) (rm' := ({ frames := 1, cells := 0, slots := 0, locals := 17 } : Room)) (W := 0) (as := [(.long v85), (.long p1), (.int v86)]) (rest := []) at_14 rfl (hw _ (List.mem_of_getElem? (i := 1) rfl)) (hw _ (List.mem_of_getElem? (i := 2) rfl)) (hw _ (List.mem_of_getElem? (i := 3) rfl)) (hw _ (List.mem_of_getElem? (i := 4) rfl)) (by decide) (c_own_next Z a0 hw n0 h hZ0 v85 p1 v86   ) rfl rfl (lenOf pd_1 rfl) (by decide) rfl (by decide) (by decide) (by decide) fun r88 h87 qh87 => ?_
  obtain ⟨e1, v89, e2, hv89⟩ := qh87
  subst e1 e2
  show Go K _ _ _ _ _ _ _ _ _ 0 0 h 17 #[.val (.long p0), .second, .val (.long p1), .second, .val (.long p2), .second, .val (.int p3), .val (.int p4), .val (.int p5), .val (.long v85), .second, .unset, .unset, .unset, .unset, .unset, .unset, .unset, .unset, .unset, .unset, .unset, .unset, .unset, .unset, .unset, .unset, .unset, .unset, .unset, .unset] [(.long v89)]
  refine Own.lstore (pc' := 19) (L1 := #[.val (.long p0), .second, .val (.long p1), .second, .val (.long p2), .second, .val (.int p3), .val (.int p4), .val (.int p5), .val (.long v85), .second, .val (.long v89), .second, .unset, .unset, .unset, .unset, .unset, .unset, .unset, .unset, .unset, .unset, .unset, .unset, .unset, .unset, .unset, .unset, .unset, .unset]) at_17 rfl rfl ?_
  refine Own.lload (pc' := 21) at_19 rfl rfl ?_
  refine Own.lload (pc' := 23) at_21 rfl rfl ?_
  refine Own.static (pc' := 26) (y := (⟨"java/lang/Math", "max", "(JJ)J"⟩ : MethodName)) (rm' := ({ frames := 0, cells := 0, slots := 0, locals := 0 } : Room)) (W := 0) (as := [(.long v85), (.long v89)]) (rest := []) at_23 rfl (hw _ (List.mem_of_getElem? (i := 11) rfl)) (hw _ (List.mem_of_getElem? (i := 12) rfl)) (hw _ (List.mem_of_getElem? (i := 9) rfl)) (hw _ (List.mem_of_getElem? (i := 13) rfl)) (by decide) (c_own_max Z a0 hw n0 h hZ0 v85 v89   ) rfl rfl (lenOf pd_0 rfl) (by decide) rfl (by decide) (by decide) (by decide) fun r91 h90 qh90 => ?_
  obtain ⟨e1, v92, e2, hv92⟩ := qh90
  subst e1 e2
  show Go K _ _ _ _ _ _ _ _ _ 0 0 h 26 #[.val (.long p0), .second, .val (.long p1), .second, .val (.long p2), .second, .val (.int p3), .val (.int p4), .val (.int p5), .val (.long v85), .second, .val (.long v89), .second, .unset, .unset, .unset, .unset, .unset, .unset, .unset, .unset, .unset, .unset, .unset, .unset, .unset, .unset, .unset, .unset, .unset, .unset] [(.long v92)]
  refine Own.lstore (pc' := 28) (L1 := #[.val (.long p0), .second, .val (.long p1), .second, .val (.long p2), .second, .val (.int p3), .val (.int p4), .val (.int p5), .val (.long v85), .second, .val (.long v89), .second, .val (.long v92), .second, .unset, .unset, .unset, .unset, .unset, .unset, .unset, .unset, .unset, .unset, .unset, .unset, .unset, .unset, .unset, .unset]) at_26 rfl rfl ?_
  refine Own.lload (pc' := 30) at_28 rfl rfl ?_
  refine Own.lload (pc' := 32) at_30 rfl rfl ?_
  refine Own.iload (pc' := 34) at_32 rfl rfl ?_
  refine Own.iconst (pc' := 35) (v := (2 : Int32)) at_34 (by decide) rfl ?_
  refine Own.iushr (pc' := 36) at_35 rfl fun v93 hv93 => ?_
  refine Own.iconst (pc' := 37) (v := (3 : Int32)) at_36 (by decide) rfl ?_
  refine Own.iand (pc' := 38) at_37 rfl fun v94 hv94 => ?_
  refine Own.static (pc' := 41) (y := (⟨"com/example/tessitura/tessitura/srtp/ReplayWindowAddPinLaw", "next", "(JJI)J"⟩ : MethodName)) (rm' := ({ frames := 1, cells := 0, slots := 0, locals := 17 } : Room)) (W := 0) (as := [(.long v92), (.long p2), (.int v94)]) (rest := []) at_38 rfl (hw _ (List.mem_of_getElem? (i := 1) rfl)) (hw _ (List.mem_of_getElem? (i := 2) rfl)) (hw _ (List.mem_of_getElem? (i := 3) rfl)) (hw _ (List.mem_of_getElem? (i := 4) rfl)) (by decide) (c_own_next Z a0 hw n0 h hZ0 v92 p2 v94   ) rfl rfl (lenOf pd_1 rfl) (by decide) rfl (by decide) (by decide) (by decide) fun r96 h95 qh95 => ?_
  obtain ⟨e1, v97, e2, hv97⟩ := qh95
  subst e1 e2
  show Go K _ _ _ _ _ _ _ _ _ 0 0 h 41 #[.val (.long p0), .second, .val (.long p1), .second, .val (.long p2), .second, .val (.int p3), .val (.int p4), .val (.int p5), .val (.long v85), .second, .val (.long v89), .second, .val (.long v92), .second, .unset, .unset, .unset, .unset, .unset, .unset, .unset, .unset, .unset, .unset, .unset, .unset, .unset, .unset, .unset, .unset] [(.long v97)]
  refine Own.lstore (pc' := 43) (L1 := #[.val (.long p0), .second, .val (.long p1), .second, .val (.long p2), .second, .val (.int p3), .val (.int p4), .val (.int p5), .val (.long v85), .second, .val (.long v89), .second, .val (.long v92), .second, .val (.long v97), .second, .unset, .unset, .unset, .unset, .unset, .unset, .unset, .unset, .unset, .unset, .unset, .unset, .unset, .unset]) at_41 rfl rfl ?_
  refine Own.lload (pc' := 45) at_43 rfl rfl ?_
  refine Own.lload (pc' := 47) at_45 rfl rfl ?_
  refine Own.static (pc' := 50) (y := (⟨"java/lang/Math", "max", "(JJ)J"⟩ : MethodName)) (rm' := ({ frames := 0, cells := 0, slots := 0, locals := 0 } : Room)) (W := 0) (as := [(.long v92), (.long v97)]) (rest := []) at_47 rfl (hw _ (List.mem_of_getElem? (i := 11) rfl)) (hw _ (List.mem_of_getElem? (i := 12) rfl)) (hw _ (List.mem_of_getElem? (i := 9) rfl)) (hw _ (List.mem_of_getElem? (i := 13) rfl)) (by decide) (c_own_max Z a0 hw n0 h hZ0 v92 v97   ) rfl rfl (lenOf pd_0 rfl) (by decide) rfl (by decide) (by decide) (by decide) fun r99 h98 qh98 => ?_
  obtain ⟨e1, v100, e2, hv100⟩ := qh98
  subst e1 e2
  show Go K _ _ _ _ _ _ _ _ _ 0 0 h 50 #[.val (.long p0), .second, .val (.long p1), .second, .val (.long p2), .second, .val (.int p3), .val (.int p4), .val (.int p5), .val (.long v85), .second, .val (.long v89), .second, .val (.long v92), .second, .val (.long v97), .second, .unset, .unset, .unset, .unset, .unset, .unset, .unset, .unset, .unset, .unset, .unset, .unset, .unset, .unset] [(.long v100)]
  refine Own.lstore (pc' := 52) (L1 := #[.val (.long p0), .second, .val (.long p1), .second, .val (.long p2), .second, .val (.int p3), .val (.int p4), .val (.int p5), .val (.long v85), .second, .val (.long v89), .second, .val (.long v92), .second, .val (.long v97), .second, .val (.long v100), .second, .unset, .unset, .unset, .unset, .unset, .unset, .unset, .unset, .unset, .unset, .unset, .unset]) at_50 rfl rfl ?_
  have ba : 0 ≤ v85.toInt ∧ v85.toInt < 2 ^ 48 := by rw [hv85, own_mask48]; omega
  have bb := own_nextI v85 p1 v86 ba.1 (by omega)
  rw [← hv89] at bb
  have ehb : v92.toInt = max v85.toInt v89.toInt := by rw [hv92]; exact own_maxI _ _
  have bc := own_nextI v92 p2 v94 (by omega : 0 ≤ v92.toInt) (by omega)
  rw [← hv97] at bc
  have eh : v100.toInt = max v92.toInt v97.toInt := by rw [hv100]; exact own_maxI _ _
  refine Own.newobj (pc' := 55) at_52 rfl (hw _ (List.mem_of_getElem? (i := 14) rfl)) (hw _ (List.mem_of_getElem? (i := 15) rfl)) (hw _ (List.mem_of_getElem? (i := 16) rfl)) (by decide) (by decide) fun a101 h102 ga101 Eh102 Xa101 Da101 => ?_
  have Ga101 : n0 ≤ a101 := by rw [ga101]; exact hZ0
  have Zh102 : n0 ≤ h102.size := Nat.le_trans hZ0 Eh102.1
  have F_highest_a101 : Fld Z h102 a101 "com/example/tessitura/tessitura/srtp/ReplayWindow" "highest" "J" (.long (0 : Int64)) := Da101 (Or.inl (hw _ (List.mem_of_getElem? (i := 29) rfl))) (ty := .long) (by decide)
  have F_taken_a101 : Fld Z h102 a101 "com/example/tessitura/tessitura/srtp/ReplayWindow" "taken" "J" (.long (0 : Int64)) := Da101 (Or.inl (hw _ (List.mem_of_getElem? (i := 32) rfl))) (ty := .long) (by decide)
  show Go K _ _ _ _ _ _ _ _ _ 1 2 h102 55 #[.val (.long p0), .second, .val (.long p1), .second, .val (.long p2), .second, .val (.int p3), .val (.int p4), .val (.int p5), .val (.long v85), .second, .val (.long v89), .second, .val (.long v92), .second, .val (.long v97), .second, .val (.long v100), .second, .unset, .unset, .unset, .unset, .unset, .unset, .unset, .unset, .unset, .unset, .unset, .unset] [(.ref a101)]
  refine Own.dup (pc' := 56) at_55 rfl rfl ?_
  refine Own.special (pc' := 59) (y := (⟨"com/example/tessitura/tessitura/srtp/ReplayWindow", "<init>", "()V"⟩ : MethodName)) (rm' := ({ frames := 1, cells := 0, slots := 0, locals := 12 } : Room)) (W := 1) (as := []) (rest := [(.ref a101)]) (a := a101) at_56 rfl rfl (hw _ (List.mem_of_getElem? (i := 17) rfl)) (hw _ (List.mem_of_getElem? (i := 18) rfl)) (hw _ (List.mem_of_getElem? (i := 16) rfl)) (hw _ (List.mem_of_getElem? (i := 19) rfl)) (by decide) (c_own_rw Z a0 hw n0 h102 Zh102 a101 Xa101 F_highest_a101 F_taken_a101 Ga101 ) rfl rfl (lenOf pd_2 rfl) (by decide) rfl (by decide) (by decide) (by decide) fun r104 h103 qh103 => ?_
  obtain ⟨e2, Kh103, eh103, f105, f106⟩ := qh103
  subst e2
  have f107 := Xa101.keep Kh103
  have Zh103 : n0 ≤ h103.size := Nat.le_trans Zh102 Kh103.1
  show Go K _ _ _ _ _ _ _ _ _ 1 2 h103 59 #[.val (.long p0), .second, .val (.long p1), .second, .val (.long p2), .second, .val (.int p3), .val (.int p4), .val (.int p5), .val (.long v85), .second, .val (.long v89), .second, .val (.long v92), .second, .val (.long v97), .second, .val (.long v100), .second, .unset, .unset, .unset, .unset, .unset, .unset, .unset, .unset, .unset, .unset, .unset, .unset] [(.ref a101)]
  refine Own.astore (pc' := 61) (L1 := #[.val (.long p0), .second, .val (.long p1), .second, .val (.long p2), .second, .val (.int p3), .val (.int p4), .val (.int p5), .val (.long v85), .second, .val (.long v89), .second, .val (.long v92), .second, .val (.long v97), .second, .val (.long v100), .second, .val (.ref a101), .unset, .unset, .unset, .unset, .unset, .unset, .unset, .unset, .unset, .unset, .unset]) at_59 rfl rfl rfl ?_
  refine Own.aload (pc' := 63) at_61 rfl rfl rfl ?_
  refine Own.lload (pc' := 65) at_63 rfl rfl ?_
  refine Own.virtual (pc' := 68) (y := (⟨"com/example/tessitura/tessitura/srtp/ReplayWindow", "add", "(J)V"⟩ : MethodName)) (rm' := ({ frames := 0, cells := 0, slots := 0, locals := 0 } : Room)) (W := 0) (as := [(.long v85)]) (rest := []) (a := a101) at_65 rfl (hw _ (List.mem_of_getElem? (i := 23) rfl)) (hw _ (List.mem_of_getElem? (i := 24) rfl)) (hw _ (List.mem_of_getElem? (i := 26) rfl)) (hw _ (List.mem_of_getElem? (i := 25) rfl)) (hw _ (List.mem_of_getElem? (i := 16) rfl)) (hw _ (List.mem_of_getElem? (i := 27) rfl)) (by decide) eh103 (c_own_add Z a0 hw n0 h103 Zh103 a101 v85 (0 : Int64) (0 : Int64) eh103 f105 f106 Ga101 ) rfl rfl (lenOf pd_3 rfl) (by decide) rfl (by decide) (by decide) (by decide) fun r109 h108 qh108 => ?_
  obtain ⟨e2, Kh108, eh108, f110, f111⟩ := qh108
  subst e2
  have f112 := eh103.keep Kh108
  have Zh108 : n0 ≤ h108.size := Nat.le_trans Zh103 Kh108.1
  obtain ⟨v113, hv113⟩ : ∃ z, z = own_add_highest v85 (0 : Int64) (0 : Int64) := ⟨_, rfl⟩
  rw [← hv113] at f110
  obtain ⟨v114, hv114⟩ : ∃ z, z = own_add_taken v85 (0 : Int64) (0 : Int64) := ⟨_, rfl⟩
  rw [← hv114] at f111
  show Go K _ _ _ _ _ _ _ _ _ 1 2 h108 68 #[.val (.long p0), .second, .val (.long p1), .second, .val (.long p2), .second, .val (.int p3), .val (.int p4), .val (.int p5), .val (.long v85), .second, .val (.long v89), .second, .val (.long v92), .second, .val (.long v97), .second, .val (.long v100), .second, .val (.ref a101), .unset, .unset, .unset, .unset, .unset, .unset, .unset, .unset, .unset, .unset, .unset] []
  refine Own.aload (pc' := 70) at_68 rfl rfl rfl ?_
  refine Own.lload (pc' := 72) at_70 rfl rfl ?_
  refine Own.virtual (pc' := 75) (y := (⟨"com/example/tessitura/tessitura/srtp/ReplayWindow", "add", "(J)V"⟩ : MethodName)) (rm' := ({ frames := 0, cells := 0, slots := 0, locals := 0 } : Room)) (W := 0) (as := [(.long v89)]) (rest := []) (a := a101) at_72 rfl (hw _ (List.mem_of_getElem? (i := 23) rfl)) (hw _ (List.mem_of_getElem? (i := 24) rfl)) (hw _ (List.mem_of_getElem? (i := 26) rfl)) (hw _ (List.mem_of_getElem? (i := 25) rfl)) (hw _ (List.mem_of_getElem? (i := 16) rfl)) (hw _ (List.mem_of_getElem? (i := 27) rfl)) (by decide) eh108 (c_own_add Z a0 hw n0 h108 Zh108 a101 v89 v113 v114 eh108 f110 f111 Ga101 ) rfl rfl (lenOf pd_3 rfl) (by decide) rfl (by decide) (by decide) (by decide) fun r116 h115 qh115 => ?_
  obtain ⟨e2, Kh115, eh115, f117, f118⟩ := qh115
  subst e2
  have f119 := eh108.keep Kh115
  have Zh115 : n0 ≤ h115.size := Nat.le_trans Zh108 Kh115.1
  obtain ⟨v120, hv120⟩ : ∃ z, z = own_add_highest v89 v113 v114 := ⟨_, rfl⟩
  rw [← hv120] at f117
  obtain ⟨v121, hv121⟩ : ∃ z, z = own_add_taken v89 v113 v114 := ⟨_, rfl⟩
  rw [← hv121] at f118
  show Go K _ _ _ _ _ _ _ _ _ 1 2 h115 75 #[.val (.long p0), .second, .val (.long p1), .second, .val (.long p2), .second, .val (.int p3), .val (.int p4), .val (.int p5), .val (.long v85), .second, .val (.long v89), .second, .val (.long v92), .second, .val (.long v97), .second, .val (.long v100), .second, .val (.ref a101), .unset, .unset, .unset, .unset, .unset, .unset, .unset, .unset, .unset, .unset, .unset] []
  refine Own.aload (pc' := 77) at_75 rfl rfl rfl ?_
  refine Own.lload (pc' := 79) at_77 rfl rfl ?_
  refine Own.virtual (pc' := 82) (y := (⟨"com/example/tessitura/tessitura/srtp/ReplayWindow", "add", "(J)V"⟩ : MethodName)) (rm' := ({ frames := 0, cells := 0, slots := 0, locals := 0 } : Room)) (W := 0) (as := [(.long v97)]) (rest := []) (a := a101) at_79 rfl (hw _ (List.mem_of_getElem? (i := 23) rfl)) (hw _ (List.mem_of_getElem? (i := 24) rfl)) (hw _ (List.mem_of_getElem? (i := 26) rfl)) (hw _ (List.mem_of_getElem? (i := 25) rfl)) (hw _ (List.mem_of_getElem? (i := 16) rfl)) (hw _ (List.mem_of_getElem? (i := 27) rfl)) (by decide) eh115 (c_own_add Z a0 hw n0 h115 Zh115 a101 v97 v120 v121 eh115 f117 f118 Ga101 ) rfl rfl (lenOf pd_3 rfl) (by decide) rfl (by decide) (by decide) (by decide) fun r123 h122 qh122 => ?_
  obtain ⟨e2, Kh122, eh122, f124, f125⟩ := qh122
  subst e2
  have f126 := eh115.keep Kh122
  have Zh122 : n0 ≤ h122.size := Nat.le_trans Zh115 Kh122.1
  obtain ⟨v127, hv127⟩ : ∃ z, z = own_add_highest v97 v120 v121 := ⟨_, rfl⟩
  rw [← hv127] at f124
  obtain ⟨v128, hv128⟩ : ∃ z, z = own_add_taken v97 v120 v121 := ⟨_, rfl⟩
  rw [← hv128] at f125
  show Go K _ _ _ _ _ _ _ _ _ 1 2 h122 82 #[.val (.long p0), .second, .val (.long p1), .second, .val (.long p2), .second, .val (.int p3), .val (.int p4), .val (.int p5), .val (.long v85), .second, .val (.long v89), .second, .val (.long v92), .second, .val (.long v97), .second, .val (.long v100), .second, .val (.ref a101), .unset, .unset, .unset, .unset, .unset, .unset, .unset, .unset, .unset, .unset, .unset] []
  have W1 := own_win_add 0 0 v85 _ (own_win0 0) (by decide) (by decide) ba.1 (by omega) (by rw [show (0 : Int64).toInt = 0 by decide]; omega)
  rw [← hv113, ← hv114] at W1
  have E1 : v113.toInt = v85.toInt := by rw [hv113, own_H, show (0 : Int64).toInt = 0 by decide]; omega
  have W2 := own_win_add v113 v114 v89 _ W1 (by omega) (by omega) (by omega) (by omega) (by omega)
  rw [← hv120, ← hv121] at W2
  have E2 : v120.toInt = v92.toInt := by rw [hv120, own_H]; omega
  have W3 := own_win_add v120 v121 v97 _ W2 (by omega) (by omega) (by omega) (by omega) (by omega)
  rw [← hv127, ← hv128] at W3
  have E3 : v127 = v100 := by apply Int64.toInt_inj.mp; rw [hv127, own_H]; omega
  refine Own.lload (pc' := 84) at_82 rfl rfl ?_
  refine Own.ldc2Long (pc' := 87) (v := (65535 : Int64)) at_84 (hw _ (List.mem_of_getElem? (i := 33) rfl)) rfl ?_
  refine Own.land (pc' := 88) at_87 rfl fun v129 hv129 => ?_
  refine Own.lstore (pc' := 90) (L1 := #[.val (.long p0), .second, .val (.long p1), .second, .val (.long p2), .second, .val (.int p3), .val (.int p4), .val (.int p5), .val (.long v85), .second, .val (.long v89), .second, .val (.long v92), .second, .val (.long v97), .second, .val (.long v100), .second, .val (.ref a101), .val (.long v129), .second, .unset, .unset, .unset, .unset, .unset, .unset, .unset, .unset, .unset]) at_88 rfl rfl ?_
  refine Own.lload (pc' := 92) at_90 rfl rfl ?_
  refine Own.ldc2Long (pc' := 95) (v := (32768 : Int64)) at_92 (hw _ (List.mem_of_getElem? (i := 34) rfl)) rfl ?_
  obtain ⟨w133, hw133⟩ : ∃ w : Int64, w = (if (32768 : Int64).toInt ≤ v129.toInt then (v100 + (32767 : Int64)) else (v100 + (32768 : Int64))) := ⟨_, rfl⟩
  refine Own.join (pc2 := 114) (L2 := #[.val (.long p0), .second, .val (.long p1), .second, .val (.long p2), .second, .val (.int p3), .val (.int p4), .val (.int p5), .val (.long v85), .second, .val (.long v89), .second, .val (.long v92), .second, .val (.long v97), .second, .val (.long v100), .second, .val (.ref a101), .val (.long v129), .second, .unset, .unset, .unset, .unset, .unset, .unset, .unset, .unset, .unset]) (S2 := [(.long w133)]) (fun J134 => ?_) ?_
  · refine Own.lcmp_ge (pc1 := 96) (pc' := 108) (pc2 := 99) at_95 rfl at_96 (by decide) (by decide) rfl (fun c95_129 => ?_) (fun c95_129 => ?_)
    · refine Own.lload (pc' := 110) at_108 rfl rfl ?_
      refine Own.ldc2Long (pc' := 113) (v := (32767 : Int64)) at_110 (hw _ (List.mem_of_getElem? (i := 50) rfl)) rfl ?_
      refine Own.ladd (pc' := 114) at_113 rfl fun v135 hv135 => ?_
      subst hv135
      try rw [if_pos c95_129] at hw133
      subst hw133
      exact J134
    · refine Own.lload (pc' := 101) at_99 rfl rfl ?_
      refine Own.ldc2Long (pc' := 104) (v := (32768 : Int64)) at_101 (hw _ (List.mem_of_getElem? (i := 34) rfl)) rfl ?_
      refine Own.ladd (pc' := 105) at_104 rfl fun v136 hv136 => ?_
      refine Own.goto (pc' := 114) at_105 (by decide) (by decide) ?_
      subst hv136
      try rw [if_neg c95_129] at hw133
      subst hw133
      exact J134
  refine Own.lstore (pc' := 116) (L1 := #[.val (.long p0), .second, .val (.long p1), .second, .val (.long p2), .second, .val (.int p3), .val (.int p4), .val (.int p5), .val (.long v85), .second, .val (.long v89), .second, .val (.long v92), .second, .val (.long v97), .second, .val (.long v100), .second, .val (.ref a101), .val (.long v129), .second, .val (.long w133), .second, .unset, .unset, .unset, .unset, .unset, .unset, .unset]) at_114 rfl rfl ?_
  refine Own.aload (pc' := 118) at_116 rfl rfl rfl ?_
  refine Own.lload (pc' := 120) at_118 rfl rfl ?_
  refine Own.ldc2Long (pc' := 123) (v := (65535 : Int64)) at_120 (hw _ (List.mem_of_getElem? (i := 33) rfl)) rfl ?_
  refine Own.land (pc' := 124) at_123 rfl fun v137 hv137 => ?_
  refine Own.l2i (pc' := 125) at_124 rfl fun v138 hv138 => ?_
  refine Own.virtual (pc' := 128) (y := (⟨"com/example/tessitura/tessitura/srtp/ReplayWindow", "estimate", "(I)J"⟩ : MethodName)) (rm' := ({ frames := 0, cells := 0, slots := 0, locals := 0 } : Room)) (W := 0) (as := [(.int v138)]) (rest := []) (a := a101) at_125 rfl (hw _ (List.mem_of_getElem? (i := 35) rfl)) (hw _ (List.mem_of_getElem? (i := 36) rfl)) (hw _ (List.mem_of_getElem? (i := 38) rfl)) (hw _ (List.mem_of_getElem? (i := 37) rfl)) (hw _ (List.mem_of_getElem? (i := 16) rfl)) (hw _ (List.mem_of_getElem? (i := 39) rfl)) (by decide) eh122 (c_own_est Z a0 hw n0 h122 Zh122 a101 v138 v127 f124 ) rfl rfl (lenOf pd_4 rfl) (by decide) rfl (by decide) (by decide) (by decide) fun r140 h139 qh139 => ?_
  obtain ⟨e1, v141, e2, hv141⟩ := qh139
  subst e1 e2
  show Go K _ _ _ _ _ _ _ _ _ 1 2 h122 128 #[.val (.long p0), .second, .val (.long p1), .second, .val (.long p2), .second, .val (.int p3), .val (.int p4), .val (.int p5), .val (.long v85), .second, .val (.long v89), .second, .val (.long v92), .second, .val (.long v97), .second, .val (.long v100), .second, .val (.ref a101), .val (.long v129), .second, .val (.long w133), .second, .unset, .unset, .unset, .unset, .unset, .unset, .unset] [(.long v141)]
  refine Own.lload (pc' := 130) at_128 rfl rfl ?_
  obtain ⟨w143, hw143⟩ : ∃ w : Int32, w = (if v141 ≠ w133 then (0 : Int32) else (1 : Int32)) := ⟨_, rfl⟩
  refine Own.join (pc2 := 139) (L2 := #[.val (.long p0), .second, .val (.long p1), .second, .val (.long p2), .second, .val (.int p3), .val (.int p4), .val (.int p5), .val (.long v85), .second, .val (.long v89), .second, .val (.long v92), .second, .val (.long v97), .second, .val (.long v100), .second, .val (.ref a101), .val (.long v129), .second, .val (.long w133), .second, .unset, .unset, .unset, .unset, .unset, .unset, .unset]) (S2 := [(.int w143)]) (fun J144 => ?_) ?_
  · refine Own.lcmp_ne (pc1 := 131) (pc' := 138) (pc2 := 134) at_130 rfl at_131 (by decide) (by decide) rfl (fun c130_141 => ?_) (fun c130_141 => ?_)
    · refine Own.iconst (pc' := 139) (v := (0 : Int32)) at_138 (by decide) rfl ?_
      try rw [if_pos c130_141] at hw143
      subst hw143
      exact J144
    · refine Own.iconst (pc' := 135) (v := (1 : Int32)) at_134 (by decide) rfl ?_
      refine Own.goto (pc' := 139) at_135 (by decide) (by decide) ?_
      try rw [if_neg c130_141] at hw143
      subst hw143
      exact J144
  have e139 : w143 = 1 := by
    rw [hw143, if_neg]
    intro q; apply q
    rw [hv141, hv138, hv137, E3]
    exact own_ahead v100 v129 w133 (by omega) (by omega) hv129 hw133
  subst e139
  refine Own.istore (pc' := 141) (L1 := #[.val (.long p0), .second, .val (.long p1), .second, .val (.long p2), .second, .val (.int p3), .val (.int p4), .val (.int p5), .val (.long v85), .second, .val (.long v89), .second, .val (.long v92), .second, .val (.long v97), .second, .val (.long v100), .second, .val (.ref a101), .val (.long v129), .second, .val (.long w133), .second, .val (.int (1 : Int32)), .unset, .unset, .unset, .unset, .unset, .unset]) at_139 rfl rfl ?_
  refine Own.lload (pc' := 143) at_141 rfl rfl ?_
  refine Own.ldc2Long (pc' := 146) (v := (63 : Int64)) at_143 (hw _ (List.mem_of_getElem? (i := 5) rfl)) rfl ?_
  refine Own.lsub (pc' := 147) at_146 rfl fun v145 hv145 => ?_
  refine Own.lstore (pc' := 149) (L1 := #[.val (.long p0), .second, .val (.long p1), .second, .val (.long p2), .second, .val (.int p3), .val (.int p4), .val (.int p5), .val (.long v85), .second, .val (.long v89), .second, .val (.long v92), .second, .val (.long v97), .second, .val (.long v100), .second, .val (.ref a101), .val (.long v129), .second, .val (.long w133), .second, .val (.int (1 : Int32)), .val (.long v145), .second, .unset, .unset, .unset, .unset]) at_147 rfl rfl ?_
  refine Own.lload (pc' := 151) at_149 rfl rfl ?_
  refine Own.iload (pc' := 153) at_151 rfl rfl ?_
  refine Own.bipush (pc' := 155) (v := (63 : Int32)) at_153 (by decide) rfl ?_
  refine Own.iand (pc' := 156) at_155 rfl fun v146 hv146 => ?_
  refine Own.i2l (pc' := 157) at_156 rfl fun v147 hv147 => ?_
  refine Own.lsub (pc' := 158) at_157 rfl fun v148 hv148 => ?_
  refine Own.lstore (pc' := 160) (L1 := #[.val (.long p0), .second, .val (.long p1), .second, .val (.long p2), .second, .val (.int p3), .val (.int p4), .val (.int p5), .val (.long v85), .second, .val (.long v89), .second, .val (.long v92), .second, .val (.long v97), .second, .val (.long v100), .second, .val (.ref a101), .val (.long v129), .second, .val (.long w133), .second, .val (.int (1 : Int32)), .val (.long v145), .second, .val (.long v148), .second, .unset, .unset]) at_158 rfl rfl ?_
  refine Own.lload (pc' := 162) at_160 rfl rfl ?_
  refine Own.iload (pc' := 164) at_162 rfl rfl ?_
  refine Own.bipush (pc' := 166) (v := (63 : Int32)) at_164 (by decide) rfl ?_
  refine Own.iand (pc' := 167) at_166 rfl fun v149 hv149 => ?_
  refine Own.i2l (pc' := 168) at_167 rfl fun v150 hv150 => ?_
  refine Own.lsub (pc' := 169) at_168 rfl fun v151 hv151 => ?_
  refine Own.lstore (pc' := 171) (L1 := #[.val (.long p0), .second, .val (.long p1), .second, .val (.long p2), .second, .val (.int p3), .val (.int p4), .val (.int p5), .val (.long v85), .second, .val (.long v89), .second, .val (.long v92), .second, .val (.long v97), .second, .val (.long v100), .second, .val (.ref a101), .val (.long v129), .second, .val (.long w133), .second, .val (.int (1 : Int32)), .val (.long v145), .second, .val (.long v148), .second, .val (.long v151), .second]) at_169 rfl rfl ?_
  have x25 : v145.toInt = v100.toInt - 63 := by rw [hv145, Jvm.Kit.i64_sub (by rw [show (63 : Int64).toInt = 63 by decide]; omega) (by rw [show (63 : Int64).toInt = 63 by decide]; omega), show (63 : Int64).toInt = 63 by decide]
  have m27 : 0 ≤ v147.toInt ∧ v147.toInt < 64 := by rw [hv147, Int32.toInt_toInt64, hv146, Jvm.Kit.i32_mask _ 63 (k := 6) (by decide) (by decide)]; omega
  have x27 : v148.toInt = v100.toInt - v147.toInt := by rw [hv148, Jvm.Kit.i64_sub (by omega) (by omega)]
  have m29 : 0 ≤ v150.toInt ∧ v150.toInt < 64 := by rw [hv150, Int32.toInt_toInt64, hv149, Jvm.Kit.i32_mask _ 63 (k := 6) (by decide) (by decide)]; omega
  have x29 : v151.toInt = v100.toInt - v150.toInt := by rw [hv151, Jvm.Kit.i64_sub (by omega) (by omega)]
  refine Own.lload (pc' := 173) at_171 rfl rfl ?_
  refine Own.lload (pc' := 175) at_173 rfl rfl ?_
  refine Own.lload (pc' := 177) at_175 rfl rfl ?_
  refine Own.lload (pc' := 179) at_177 rfl rfl ?_
  refine Own.static (pc' := 182) (y := (⟨"com/example/tessitura/tessitura/srtp/ReplayWindowAddPinLaw", "taken", "(JJJJ)Z"⟩ : MethodName)) (rm' := ({ frames := 0, cells := 0, slots := 0, locals := 0 } : Room)) (W := 0) (as := [(.long v145), (.long v85), (.long v89), (.long v97)]) (rest := []) at_179 rfl (hw _ (List.mem_of_getElem? (i := 42) rfl)) (hw _ (List.mem_of_getElem? (i := 43) rfl)) (hw _ (List.mem_of_getElem? (i := 3) rfl)) (hw _ (List.mem_of_getElem? (i := 44) rfl)) (by decide) (c_own_taken Z a0 hw n0 h122 Zh122 v145 v85 v89 v97   ) rfl rfl (lenOf pd_5 rfl) (by decide) rfl (by decide) (by decide) (by decide) fun r153 h152 qh152 => ?_
  obtain ⟨e1, v154, e2, hv154⟩ := qh152
  subst e1 e2
  show Go K _ _ _ _ _ _ _ _ _ 1 2 h122 182 #[.val (.long p0), .second, .val (.long p1), .second, .val (.long p2), .second, .val (.int p3), .val (.int p4), .val (.int p5), .val (.long v85), .second, .val (.long v89), .second, .val (.long v92), .second, .val (.long v97), .second, .val (.long v100), .second, .val (.ref a101), .val (.long v129), .second, .val (.long w133), .second, .val (.int (1 : Int32)), .val (.long v145), .second, .val (.long v148), .second, .val (.long v151), .second] [(.int v154)]
  refine Own.join (pc2 := 192) (L2 := #[.val (.long p0), .second, .val (.long p1), .second, .val (.long p2), .second, .val (.int p3), .val (.int p4), .val (.int p5), .val (.long v85), .second, .val (.long v89), .second, .val (.long v92), .second, .val (.long v97), .second, .val (.long v100), .second, .val (.ref a101), .val (.long v129), .second, .val (.long w133), .second, .val (.int (1 : Int32)), .val (.long v145), .second, .val (.long v148), .second, .val (.long v151), .second]) (S2 := []) (fun J158 => ?_) ?_
  · refine Own.if_ne (pc' := 192) (pc2 := 185) at_182 (by decide) (by decide) rfl (fun c182_154 => ?_) (fun c182_154 => ?_)
    · exact J158
    · refine Own.aload (pc' := 187) at_185 rfl rfl rfl ?_
      refine Own.lload (pc' := 189) at_187 rfl rfl ?_
      have nt := own_tk0 _ _ _ _ (hv154.symm.trans (Classical.byContradiction c182_154))
      have es : (v127 - v145).toInt = v100.toInt - v145.toInt := by rw [E3, Jvm.Kit.i64_sub (by omega) (by omega)]
      have es2 : ((v127 - v145).toInt32).toInt = ((v100.toInt - v145.toInt).toNat : Int) := by rw [Jvm.Kit.i32_of_i64 (by omega) (by omega)]; omega
      have hk : v145.toInt ≤ v127.toInt → (v127 - v145).toInt < (64 : Int64).toInt := fun _ => by rw [es, show (64 : Int64).toInt = 64 by decide]; omega
      have hbit : v145.toInt ≤ v127.toInt → (Jvm.Own.ushrL v128 ((v127 - v145).toInt32)) &&& 1 = 0 := fun _ => by
        refine own_bit0 _ _ _ es2 (by omega) ?_
        cases hb : v128.toBitVec.getLsbD (v100.toInt - v145.toInt).toNat
        · rfl
        · obtain ⟨y, hy, ey⟩ := W3 _ (by omega) hb
          have eq : y = v145 := Int64.toInt_inj.mp (by rw [ey, E3]; omega)
          subst eq
          rcases hy with ((q | q) | q) | q
          · exact absurd q (by simp)
          · exact absurd q nt.1
          · exact absurd q nt.2.1
          · exact absurd q nt.2.2
      refine Own.virtual (pc' := 192) (y := (⟨"com/example/tessitura/tessitura/srtp/ReplayWindow", "check", "(J)V"⟩ : MethodName)) (rm' := ({ frames := 0, cells := 0, slots := 0, locals := 0 } : Room)) (W := 0) (as := [(.long v145)]) (rest := []) (a := a101) at_189 rfl (hw _ (List.mem_of_getElem? (i := 45) rfl)) (hw _ (List.mem_of_getElem? (i := 46) rfl)) (hw _ (List.mem_of_getElem? (i := 48) rfl)) (hw _ (List.mem_of_getElem? (i := 47) rfl)) (hw _ (List.mem_of_getElem? (i := 16) rfl)) (hw _ (List.mem_of_getElem? (i := 49) rfl)) (by decide) eh122 (c_own_check Z a0 hw n0 h122 Zh122 a101 v145 v127 v128 f124 f125 hk hbit) rfl rfl (lenOf pd_3 rfl) (by decide) rfl (by decide) (by decide) (by decide) fun r160 h159 qh159 => ?_
      obtain ⟨e2, e1⟩ := qh159
      subst e1 e2
      show Go K _ _ _ _ _ _ _ _ _ 1 2 h122 192 #[.val (.long p0), .second, .val (.long p1), .second, .val (.long p2), .second, .val (.int p3), .val (.int p4), .val (.int p5), .val (.long v85), .second, .val (.long v89), .second, .val (.long v92), .second, .val (.long v97), .second, .val (.long v100), .second, .val (.ref a101), .val (.long v129), .second, .val (.long w133), .second, .val (.int (1 : Int32)), .val (.long v145), .second, .val (.long v148), .second, .val (.long v151), .second] []
      exact J158
  refine Own.lload (pc' := 194) at_192 rfl rfl ?_
  refine Own.lload (pc' := 196) at_194 rfl rfl ?_
  refine Own.lload (pc' := 198) at_196 rfl rfl ?_
  refine Own.lload (pc' := 200) at_198 rfl rfl ?_
  refine Own.static (pc' := 203) (y := (⟨"com/example/tessitura/tessitura/srtp/ReplayWindowAddPinLaw", "taken", "(JJJJ)Z"⟩ : MethodName)) (rm' := ({ frames := 0, cells := 0, slots := 0, locals := 0 } : Room)) (W := 0) (as := [(.long v148), (.long v85), (.long v89), (.long v97)]) (rest := []) at_200 rfl (hw _ (List.mem_of_getElem? (i := 42) rfl)) (hw _ (List.mem_of_getElem? (i := 43) rfl)) (hw _ (List.mem_of_getElem? (i := 3) rfl)) (hw _ (List.mem_of_getElem? (i := 44) rfl)) (by decide) (c_own_taken Z a0 hw n0 h122 Zh122 v148 v85 v89 v97   ) rfl rfl (lenOf pd_5 rfl) (by decide) rfl (by decide) (by decide) (by decide) fun r162 h161 qh161 => ?_
  obtain ⟨e1, v163, e2, hv163⟩ := qh161
  subst e1 e2
  show Go K _ _ _ _ _ _ _ _ _ 1 2 h122 203 #[.val (.long p0), .second, .val (.long p1), .second, .val (.long p2), .second, .val (.int p3), .val (.int p4), .val (.int p5), .val (.long v85), .second, .val (.long v89), .second, .val (.long v92), .second, .val (.long v97), .second, .val (.long v100), .second, .val (.ref a101), .val (.long v129), .second, .val (.long w133), .second, .val (.int (1 : Int32)), .val (.long v145), .second, .val (.long v148), .second, .val (.long v151), .second] [(.int v163)]
  refine Own.join (pc2 := 213) (L2 := #[.val (.long p0), .second, .val (.long p1), .second, .val (.long p2), .second, .val (.int p3), .val (.int p4), .val (.int p5), .val (.long v85), .second, .val (.long v89), .second, .val (.long v92), .second, .val (.long v97), .second, .val (.long v100), .second, .val (.ref a101), .val (.long v129), .second, .val (.long w133), .second, .val (.int (1 : Int32)), .val (.long v145), .second, .val (.long v148), .second, .val (.long v151), .second]) (S2 := []) (fun J167 => ?_) ?_
  · refine Own.if_ne (pc' := 213) (pc2 := 206) at_203 (by decide) (by decide) rfl (fun c203_163 => ?_) (fun c203_163 => ?_)
    · exact J167
    · refine Own.aload (pc' := 208) at_206 rfl rfl rfl ?_
      refine Own.lload (pc' := 210) at_208 rfl rfl ?_
      have nt := own_tk0 _ _ _ _ (hv163.symm.trans (Classical.byContradiction c203_163))
      have es : (v127 - v148).toInt = v100.toInt - v148.toInt := by rw [E3, Jvm.Kit.i64_sub (by omega) (by omega)]
      have es2 : ((v127 - v148).toInt32).toInt = ((v100.toInt - v148.toInt).toNat : Int) := by rw [Jvm.Kit.i32_of_i64 (by omega) (by omega)]; omega
      have hk : v148.toInt ≤ v127.toInt → (v127 - v148).toInt < (64 : Int64).toInt := fun _ => by rw [es, show (64 : Int64).toInt = 64 by decide]; omega
      have hbit : v148.toInt ≤ v127.toInt → (Jvm.Own.ushrL v128 ((v127 - v148).toInt32)) &&& 1 = 0 := fun _ => by
        refine own_bit0 _ _ _ es2 (by omega) ?_
        cases hb : v128.toBitVec.getLsbD (v100.toInt - v148.toInt).toNat
        · rfl
        · obtain ⟨y, hy, ey⟩ := W3 _ (by omega) hb
          have eq : y = v148 := Int64.toInt_inj.mp (by rw [ey, E3]; omega)
          subst eq
          rcases hy with ((q | q) | q) | q
          · exact absurd q (by simp)
          · exact absurd q nt.1
          · exact absurd q nt.2.1
          · exact absurd q nt.2.2
      refine Own.virtual (pc' := 213) (y := (⟨"com/example/tessitura/tessitura/srtp/ReplayWindow", "check", "(J)V"⟩ : MethodName)) (rm' := ({ frames := 0, cells := 0, slots := 0, locals := 0 } : Room)) (W := 0) (as := [(.long v148)]) (rest := []) (a := a101) at_210 rfl (hw _ (List.mem_of_getElem? (i := 45) rfl)) (hw _ (List.mem_of_getElem? (i := 46) rfl)) (hw _ (List.mem_of_getElem? (i := 48) rfl)) (hw _ (List.mem_of_getElem? (i := 47) rfl)) (hw _ (List.mem_of_getElem? (i := 16) rfl)) (hw _ (List.mem_of_getElem? (i := 49) rfl)) (by decide) eh122 (c_own_check Z a0 hw n0 h122 Zh122 a101 v148 v127 v128 f124 f125 hk hbit) rfl rfl (lenOf pd_3 rfl) (by decide) rfl (by decide) (by decide) (by decide) fun r169 h168 qh168 => ?_
      obtain ⟨e2, e1⟩ := qh168
      subst e1 e2
      show Go K _ _ _ _ _ _ _ _ _ 1 2 h122 213 #[.val (.long p0), .second, .val (.long p1), .second, .val (.long p2), .second, .val (.int p3), .val (.int p4), .val (.int p5), .val (.long v85), .second, .val (.long v89), .second, .val (.long v92), .second, .val (.long v97), .second, .val (.long v100), .second, .val (.ref a101), .val (.long v129), .second, .val (.long w133), .second, .val (.int (1 : Int32)), .val (.long v145), .second, .val (.long v148), .second, .val (.long v151), .second] []
      exact J167
  refine Own.lload (pc' := 215) at_213 rfl rfl ?_
  refine Own.lload (pc' := 217) at_215 rfl rfl ?_
  refine Own.lload (pc' := 219) at_217 rfl rfl ?_
  refine Own.lload (pc' := 221) at_219 rfl rfl ?_
  refine Own.static (pc' := 224) (y := (⟨"com/example/tessitura/tessitura/srtp/ReplayWindowAddPinLaw", "taken", "(JJJJ)Z"⟩ : MethodName)) (rm' := ({ frames := 0, cells := 0, slots := 0, locals := 0 } : Room)) (W := 0) (as := [(.long v151), (.long v85), (.long v89), (.long v97)]) (rest := []) at_221 rfl (hw _ (List.mem_of_getElem? (i := 42) rfl)) (hw _ (List.mem_of_getElem? (i := 43) rfl)) (hw _ (List.mem_of_getElem? (i := 3) rfl)) (hw _ (List.mem_of_getElem? (i := 44) rfl)) (by decide) (c_own_taken Z a0 hw n0 h122 Zh122 v151 v85 v89 v97   ) rfl rfl (lenOf pd_5 rfl) (by decide) rfl (by decide) (by decide) (by decide) fun r171 h170 qh170 => ?_
  obtain ⟨e1, v172, e2, hv172⟩ := qh170
  subst e1 e2
  show Go K _ _ _ _ _ _ _ _ _ 1 2 h122 224 #[.val (.long p0), .second, .val (.long p1), .second, .val (.long p2), .second, .val (.int p3), .val (.int p4), .val (.int p5), .val (.long v85), .second, .val (.long v89), .second, .val (.long v92), .second, .val (.long v97), .second, .val (.long v100), .second, .val (.ref a101), .val (.long v129), .second, .val (.long w133), .second, .val (.int (1 : Int32)), .val (.long v145), .second, .val (.long v148), .second, .val (.long v151), .second] [(.int v172)]
  refine Own.join (pc2 := 234) (L2 := #[.val (.long p0), .second, .val (.long p1), .second, .val (.long p2), .second, .val (.int p3), .val (.int p4), .val (.int p5), .val (.long v85), .second, .val (.long v89), .second, .val (.long v92), .second, .val (.long v97), .second, .val (.long v100), .second, .val (.ref a101), .val (.long v129), .second, .val (.long w133), .second, .val (.int (1 : Int32)), .val (.long v145), .second, .val (.long v148), .second, .val (.long v151), .second]) (S2 := []) (fun J176 => ?_) ?_
  · refine Own.if_ne (pc' := 234) (pc2 := 227) at_224 (by decide) (by decide) rfl (fun c224_172 => ?_) (fun c224_172 => ?_)
    · exact J176
    · refine Own.aload (pc' := 229) at_227 rfl rfl rfl ?_
      refine Own.lload (pc' := 231) at_229 rfl rfl ?_
      have nt := own_tk0 _ _ _ _ (hv172.symm.trans (Classical.byContradiction c224_172))
      have es : (v127 - v151).toInt = v100.toInt - v151.toInt := by rw [E3, Jvm.Kit.i64_sub (by omega) (by omega)]
      have es2 : ((v127 - v151).toInt32).toInt = ((v100.toInt - v151.toInt).toNat : Int) := by rw [Jvm.Kit.i32_of_i64 (by omega) (by omega)]; omega
      have hk : v151.toInt ≤ v127.toInt → (v127 - v151).toInt < (64 : Int64).toInt := fun _ => by rw [es, show (64 : Int64).toInt = 64 by decide]; omega
      have hbit : v151.toInt ≤ v127.toInt → (Jvm.Own.ushrL v128 ((v127 - v151).toInt32)) &&& 1 = 0 := fun _ => by
        refine own_bit0 _ _ _ es2 (by omega) ?_
        cases hb : v128.toBitVec.getLsbD (v100.toInt - v151.toInt).toNat
        · rfl
        · obtain ⟨y, hy, ey⟩ := W3 _ (by omega) hb
          have eq : y = v151 := Int64.toInt_inj.mp (by rw [ey, E3]; omega)
          subst eq
          rcases hy with ((q | q) | q) | q
          · exact absurd q (by simp)
          · exact absurd q nt.1
          · exact absurd q nt.2.1
          · exact absurd q nt.2.2
      refine Own.virtual (pc' := 234) (y := (⟨"com/example/tessitura/tessitura/srtp/ReplayWindow", "check", "(J)V"⟩ : MethodName)) (rm' := ({ frames := 0, cells := 0, slots := 0, locals := 0 } : Room)) (W := 0) (as := [(.long v151)]) (rest := []) (a := a101) at_231 rfl (hw _ (List.mem_of_getElem? (i := 45) rfl)) (hw _ (List.mem_of_getElem? (i := 46) rfl)) (hw _ (List.mem_of_getElem? (i := 48) rfl)) (hw _ (List.mem_of_getElem? (i := 47) rfl)) (hw _ (List.mem_of_getElem? (i := 16) rfl)) (hw _ (List.mem_of_getElem? (i := 49) rfl)) (by decide) eh122 (c_own_check Z a0 hw n0 h122 Zh122 a101 v151 v127 v128 f124 f125 hk hbit) rfl rfl (lenOf pd_3 rfl) (by decide) rfl (by decide) (by decide) (by decide) fun r178 h177 qh177 => ?_
      obtain ⟨e2, e1⟩ := qh177
      subst e1 e2
      show Go K _ _ _ _ _ _ _ _ _ 1 2 h122 234 #[.val (.long p0), .second, .val (.long p1), .second, .val (.long p2), .second, .val (.int p3), .val (.int p4), .val (.int p5), .val (.long v85), .second, .val (.long v89), .second, .val (.long v92), .second, .val (.long v97), .second, .val (.long v100), .second, .val (.ref a101), .val (.long v129), .second, .val (.long w133), .second, .val (.int (1 : Int32)), .val (.long v145), .second, .val (.long v148), .second, .val (.long v151), .second] []
      exact J176
  refine Own.iload (pc' := 236) at_234 rfl rfl ?_
  exact Own.ireturnZ (z' := (1 : Int32)) at_236 rfl (by decide) (rfl) (by decide) (by decide)
set_option maxRecDepth 65536 in
set_option maxHeartbeats 40000000 in
theorem comes_1 {Post : Tables → Env → Array Value → State → Outcome → State → Prop} (hpost : ∀ tb e args s v u, (limb_1_1.after args s (.returned v) u = true ∧ limb_1_2.after args s (.returned v) u = true ∧ True) → FrameEnd s (.returned v) u (Jvm.fieldLocs frame_1_writes args s ++ Jvm.arrayLocs frame_1_arrays args s ++ Jvm.staticLocs frame_1_statics s) 16 128 → Post tb e args s (.returned v) u) :
    ArmFor flags0 classFile x code maxLocals ret World_1 tables_1 room_1 Calls_1 rest_1 Pre_1 Post := by
  intro l hfl _ _ p e ha hc hk s m args below hf hA hF happ hP
  obtain ⟨hcalls, hrest, hpre⟩ := hP
  obtain ⟨-, -, -, hnamed, -, -, -, hat⟩ := (Spec.applies_iff hf).mp happ
  obtain ⟨hg, hn⟩ := and_e (Cond.before_iff.mp (show (Jvm.Cond.and given_1 narrow_1).before args s = true from hpre))
  obtain ⟨hcnt, hg0⟩ := and_e hg
  obtain ⟨w0, w1, w2, w3, w4, w5, rfl⟩ : ∃ w0 w1 w2 w3 w4 w5 : Value, args = #[w0, w1, w2, w3, w4, w5] := by
    have hs : args.size = 6 := by simpa [Cond.value, given_1] using hcnt
    obtain ⟨L⟩ := args
    match L, hs with
    | [w0, w1, w2, w3, w4, w5], _ => exact ⟨w0, w1, w2, w3, w4, w5, rfl⟩
  have hw := fun d (hd : d ∈ tables_1) => atoms_spec (ws := Jvm.Cond.code x code maxLocals ret :: tables_1) hat d (List.mem_cons_of_mem _ hd)
  obtain ⟨ha0, hg1⟩ := and_e hg0
  obtain ⟨i0, e0⟩ := isL_v ha0
  obtain rfl : w0 = (.long i0) := Option.some.inj e0
  obtain ⟨ha1, hg2⟩ := and_e hg1
  obtain ⟨i1, e1⟩ := isL_v ha1
  obtain rfl : w1 = (.long i1) := Option.some.inj e1
  obtain ⟨ha2, hg3⟩ := and_e hg2
  obtain ⟨i2, e2⟩ := isL_v ha2
  obtain rfl : w2 = (.long i2) := Option.some.inj e2
  obtain ⟨ha3, hg4⟩ := and_e hg3
  obtain ⟨i3, e3⟩ := is_v ha3
  obtain rfl : w3 = (.int i3) := Option.some.inj e3
  obtain ⟨ha4, hg5⟩ := and_e hg4
  obtain ⟨i4, e4⟩ := is_v ha4
  obtain rfl : w4 = (.int i4) := Option.some.inj e4
  obtain ⟨i5, e5⟩ := is_v hg5
  obtain rfl : w5 = (.int i5) := Option.some.inj e5
  obtain ⟨n, o, h1, h2, h3, _, L, rfl, ⟨rfl, N⟩, hq⟩ := own_law l s _ hw tables_1 s.heap.size s.heap (Nat.le_refl _) i0 i1 i2 i3 i4 i5  p e ha hc hk s m _ below hf ((Spec.applies_iff_loose hf).mp happ).1 ⟨rfl, State.Warmed39.refl s, rfl⟩ trivial
  refine ⟨n, _, h1, h2, h3, hpost _ _ _ _ _ _ ⟨Cond.after_iff.mpr rfl, Cond.after_iff.mpr (eq_i res_at (Term.int_eval (1)) rfl), trivial⟩ ⟨hq.1, hq.2.1, (hq.2.2.sift fun y hy => Or.inr (N y hy)).mono (by decide) (by decide)⟩⟩
theorem main_1_1 : Claimed_1_1 := comes_1 fun _ _ _ _ _ _ h hF => ⟨h.1, hF⟩
theorem main_1_2 : Claimed_1_2 := comes_1 fun _ _ _ _ _ _ h hF => ⟨h.2.1, hF⟩
end Jvm.Pilot.@@N@@
namespace Jvm.Pilot.@@N@@
open Jvm Jvm.ClassFile Sem Op Lib Jvm.Free Jvm.Stand Jvm.Pilot.@@N@@.Jvm.D
/-! MADE BY PROGRAM (witnessworld.py) out of the Statement's table words and the real class files: 10 classes; the members and pool entries that the words name. The judged class is class 1, her method 1. -/
namespace start1
open Jvm.ClassFile
def u (s : String) : CpInfo := .utf8 (stringToUtf16 s)
/-- a pool by its gaps: so many unusable entries, then the entry; so many at the end -/
def gap : Nat → List CpInfo → List CpInfo
  | 0, r => r
  | n + 1, r => .unusable :: gap n r
def poolList (es : List (Nat × CpInfo)) (last : Nat) : List CpInfo := es.foldr (fun e r => gap e.1 (e.2 :: r)) (gap last [])
def pool (es : List (Nat × CpInfo)) (last : Nat) : Array CpInfo := ⟨poolList es last⟩
def fileOf (pool : Array CpInfo) (this : Nat) (attrs : Array Attribute := #[]) (ms : Array MethodInfo := #[]) (fl : Nat := 33) (sup : Nat := 0) (ifs : Array Nat := #[]) (fds : Array FieldInfo := #[]) : ClassFile where
  minorVersion := 0
  majorVersion := 65
  constantPool := pool
  accessFlags := fl
  thisClass := this
  superClass := sup
  interfaces := ifs
  fields := fds
  methods := ms
  attributes := attrs
def plain (name : String) (sup : Option ClassId) : Class where
  name := name
  kind := .ordinary
  loader := none
  accessFlags := 33
  super := sup
  interfaces := #[]
  cf := none
  fields := #[]
  methods := #[]
  instanceTypes := #[]
  staticTypes := #[]
  resolved := #[]
  callSites := []
  init := .initialized
  statics := none
  mirror := none

def pool0 : Array CpInfo := pool [(5, u "<init>"), (0, u "()V"), (1, .class_ 10), (1, u "java/lang/Object")] 113

def k0c0 : Code := { maxStack := 0, maxLocals := 1, code := object_method_1_code, exceptionTable := #[], attributes := #[] }
def k0m0 : Method := { name := "<init>", desc := "()V", sig := { parameters := [], returnType := none }, accessFlags := 1, code := some k0c0 }
/-- java/lang/Object -/
def k0 : Class := { plain "java/lang/Object" none with
  accessFlags := 33
  interfaces := #[]
  cf := some (fileOf pool0 8 #[] #[{ accessFlags := 1, nameIndex := 5, descriptorIndex := 6, attributes := #[] }] 33 0 #[] #[])
  fields := #[]
  methods := #[k0m0]
  instanceTypes := #[]
  staticTypes := #[]
  resolved := Array.replicate 124 none
  statics := none }

def pool1 : Array CpInfo := pool [(2, .class_ 4), (0, .nameAndType 5 6), (0, u "java/lang/Object"), (0, u "<init>"), (0, u "()V"), (0, .long 281474976710655), (1, .methodref 10 11), (0, .class_ 12), (0, .nameAndType 13 14), (0, u "com/example/tessitura/tessitura/srtp/ReplayWindowAddPinLaw"), (0, u "next"), (0, u "(JJI)J"), (0, .methodref 16 17), (0, .class_ 18), (0, .nameAndType 19 20), (0, u "java/lang/Math"), (0, u "max"), (0, u "(JJ)J"), (0, .class_ 22), (0, u "com/example/tessitura/tessitura/srtp/ReplayWindow"), (0, .methodref 21 3), (0, .methodref 21 25), (0, .nameAndType 26 27), (0, u "add"), (0, u "(J)V"), (0, .long 65535), (1, .long 32768), (1, .long 32767), (1, .methodref 21 35), (0, .nameAndType 36 37), (0, u "estimate"), (0, u "(I)J"), (0, .long 63), (1, .methodref 10 41), (0, .nameAndType 42 43), (0, u "taken"), (0, u "(JJJJ)Z"), (0, .methodref 21 45), (0, .nameAndType 46 27), (0, u "check"), (0, .long 62), (1, .methodref 16 50), (0, .nameAndType 51 20), (0, u "min"), (2, u "law"), (0, u "(JJJIII)Z")] 6

def k1m0 : Method := { name := "<init>", desc := "()V", sig := { parameters := [], returnType := none }, accessFlags := 1, code := none }
def k1c1 : Code := { maxStack := 8, maxLocals := 31, code := code, exceptionTable := #[], attributes := #[] }
def k1m1 : Method := { name := "law", desc := "(JJJIII)Z", sig := { parameters := [.long, .long, .long, .int, .int, .int], returnType := some .boolean }, accessFlags := 9, code := some k1c1 }
def k1c2 : Code := { maxStack := 4, maxLocals := 8, code := method_3_code, exceptionTable := #[], attributes := #[] }
def k1m2 : Method := { name := "taken", desc := "(JJJJ)Z", sig := { parameters := [.long, .long, .long, .long], returnType := some .boolean }, accessFlags := 10, code := some k1c2 }
def k1c3 : Code := { maxStack := 6, maxLocals := 9, code := method_4_code, exceptionTable := #[], attributes := #[] }
def k1m3 : Method := { name := "next", desc := "(JJI)J", sig := { parameters := [.long, .long, .int], returnType := some .long }, accessFlags := 10, code := some k1c3 }
/-- com/example/tessitura/tessitura/srtp/ReplayWindowAddPinLaw -/
def k1 : Class := { plain "com/example/tessitura/tessitura/srtp/ReplayWindowAddPinLaw" (some 0) with
  accessFlags := 49
  interfaces := #[]
  cf := some (fileOf pool1 10 #[] #[{ accessFlags := 1, nameIndex := 5, descriptorIndex := 6, attributes := #[] }, { accessFlags := 9, nameIndex := 54, descriptorIndex := 55, attributes := #[] }, { accessFlags := 10, nameIndex := 42, descriptorIndex := 43, attributes := #[] }, { accessFlags := 10, nameIndex := 13, descriptorIndex := 14, attributes := #[] }] 49 2 #[] #[])
  fields := #[]
  methods := #[k1m0, k1m1, k1m2, k1m3]
  instanceTypes := #[]
  staticTypes := #[]
  resolved := Array.replicate 62 none
  statics := none }

def pool2 : Array CpInfo := pool [(1, .class_ 2), (0, u "java/lang/Math"), (1, .class_ 6), (1, u "java/lang/Object"), (0, u "<init>"), (0, u "()V"), (89, .class_ 100), (1, u "java/lang/Math$RandomNumberGeneratorHolder"), (20, u "(JJ)J"), (50, u "negativeZeroFloatBits"), (0, u "J"), (2, u "negativeZeroDoubleBits"), (21, u "max"), (2, u "min"), (43, u "$assertionsDisabled"), (0, u "Z"), (91, u "twoToTheDoubleScaleDown"), (0, u "D"), (4, u "twoToTheDoubleScaleUp"), (9, u "E"), (3, u "PI"), (2, u "TAU"), (2, u "DEGREES_TO_RADIANS"), (0, u "RADIANS_TO_DEGREES")] 94

def k2m0 : Method := { name := "<init>", desc := "()V", sig := { parameters := [], returnType := none }, accessFlags := 2, code := none }
def k2c1 : Code := { maxStack := 4, maxLocals := 4, code := jdk_29_method_66_code, exceptionTable := #[], attributes := #[] }
def k2m1 : Method := { name := "max", desc := "(JJ)J", sig := { parameters := [.long, .long], returnType := some .long }, accessFlags := 9, code := some k2c1 }
def k2c2 : Code := { maxStack := 4, maxLocals := 4, code := jdk_29_method_70_code, exceptionTable := #[], attributes := #[] }
def k2m2 : Method := { name := "min", desc := "(JJ)J", sig := { parameters := [.long, .long], returnType := some .long }, accessFlags := 9, code := some k2c2 }
/-- java/lang/Math -/
def k2 : Class := { plain "java/lang/Math" (some 0) with
  accessFlags := 49
  interfaces := #[]
  cf := some (fileOf pool2 1 #[.nestMembers #[98]] #[{ accessFlags := 2, nameIndex := 7, descriptorIndex := 8, attributes := #[] }, { accessFlags := 9, nameIndex := 198, descriptorIndex := 121, attributes := #[] }, { accessFlags := 9, nameIndex := 201, descriptorIndex := 121, attributes := #[] }] 49 4 #[] #[{ accessFlags := 25, nameIndex := 354, descriptorIndex := 339, attributes := #[] }, { accessFlags := 25, nameIndex := 358, descriptorIndex := 339, attributes := #[] }, { accessFlags := 25, nameIndex := 361, descriptorIndex := 339, attributes := #[] }, { accessFlags := 26, nameIndex := 364, descriptorIndex := 339, attributes := #[] }, { accessFlags := 26, nameIndex := 365, descriptorIndex := 339, attributes := #[] }, { accessFlags := 26, nameIndex := 172, descriptorIndex := 173, attributes := #[] }, { accessFlags := 26, nameIndex := 176, descriptorIndex := 173, attributes := #[] }, { accessFlags := 8, nameIndex := 344, descriptorIndex := 339, attributes := #[] }, { accessFlags := 8, nameIndex := 338, descriptorIndex := 339, attributes := #[] }, { accessFlags := 4120, nameIndex := 245, descriptorIndex := 246, attributes := #[] }])
  fields := #[{ name := "E", type := .double, accessFlags := 25, slot := 0, constantValue := 0 }, { name := "PI", type := .double, accessFlags := 25, slot := 1, constantValue := 0 }, { name := "TAU", type := .double, accessFlags := 25, slot := 2, constantValue := 0 }, { name := "DEGREES_TO_RADIANS", type := .double, accessFlags := 26, slot := 3, constantValue := 0 }, { name := "RADIANS_TO_DEGREES", type := .double, accessFlags := 26, slot := 4, constantValue := 0 }, { name := "negativeZeroFloatBits", type := .long, accessFlags := 26, slot := 5, constantValue := 0 }, { name := "negativeZeroDoubleBits", type := .long, accessFlags := 26, slot := 6, constantValue := 0 }, { name := "twoToTheDoubleScaleUp", type := .double, accessFlags := 8, slot := 7, constantValue := 0 }, { name := "twoToTheDoubleScaleDown", type := .double, accessFlags := 8, slot := 8, constantValue := 0 }, { name := "$assertionsDisabled", type := .boolean, accessFlags := 4120, slot := 9, constantValue := 0 }]
  methods := #[k2m0, k2m1, k2m2]
  instanceTypes := #[]
  staticTypes := #[.double, .double, .double, .double, .double, .long, .long, .double, .double, .boolean]
  resolved := Array.replicate 460 none
  statics := none }

def pool3 : Array CpInfo := pool [(1, .methodref 2 3), (0, .class_ 4), (0, .nameAndType 5 6), (0, u "java/lang/Object"), (0, u "<init>"), (0, u "()V"), (0, .fieldref 8 9), (0, .class_ 10), (0, .nameAndType 11 12), (0, u "com/example/tessitura/tessitura/srtp/ReplayWindow"), (0, u "highest"), (0, u "J"), (0, .long 65535), (1, .integer 32768), (0, .long 64), (16, .fieldref 8 34), (0, .nameAndType 35 12), (0, u "taken"), (6, u "SIZE"), (0, u "I"), (2, u "HALF_SEQUENCE_SPACE"), (2, u "estimate"), (0, u "(I)J"), (1, u "check"), (0, u "(J)V"), (1, u "add")] 20

def k3c0 : Code := { maxStack := 1, maxLocals := 1, code := prog_43_method_1_code, exceptionTable := #[], attributes := #[] }
def k3m0 : Method := { name := "<init>", desc := "()V", sig := { parameters := [], returnType := none }, accessFlags := 0, code := some k3c0 }
def k3c1 : Code := { maxStack := 4, maxLocals := 7, code := prog_43_method_2_code, exceptionTable := #[], attributes := #[] }
def k3m1 : Method := { name := "estimate", desc := "(I)J", sig := { parameters := [.int], returnType := some .long }, accessFlags := 0, code := some k3c1 }
def k3c2 : Code := { maxStack := 7, maxLocals := 5, code := prog_43_method_3_code, exceptionTable := #[], attributes := #[] }
def k3m2 : Method := { name := "check", desc := "(J)V", sig := { parameters := [.long], returnType := none }, accessFlags := 0, code := some k3c2 }
def k3c3 : Code := { maxStack := 9, maxLocals := 5, code := prog_43_method_4_code, exceptionTable := #[], attributes := #[] }
def k3m3 : Method := { name := "add", desc := "(J)V", sig := { parameters := [.long], returnType := none }, accessFlags := 0, code := some k3c3 }
/-- com/example/tessitura/tessitura/srtp/ReplayWindow -/
def k3 : Class := { plain "com/example/tessitura/tessitura/srtp/ReplayWindow" (some 0) with
  accessFlags := 48
  interfaces := #[]
  cf := some (fileOf pool3 8 #[] #[{ accessFlags := 0, nameIndex := 5, descriptorIndex := 6, attributes := #[] }, { accessFlags := 0, nameIndex := 49, descriptorIndex := 50, attributes := #[] }, { accessFlags := 0, nameIndex := 52, descriptorIndex := 53, attributes := #[] }, { accessFlags := 0, nameIndex := 55, descriptorIndex := 53, attributes := #[] }] 48 2 #[] #[{ accessFlags := 24, nameIndex := 42, descriptorIndex := 43, attributes := #[] }, { accessFlags := 26, nameIndex := 46, descriptorIndex := 43, attributes := #[] }, { accessFlags := 2, nameIndex := 11, descriptorIndex := 12, attributes := #[] }, { accessFlags := 2, nameIndex := 35, descriptorIndex := 12, attributes := #[] }])
  fields := #[{ name := "SIZE", type := .int, accessFlags := 24, slot := 0, constantValue := 0 }, { name := "HALF_SEQUENCE_SPACE", type := .int, accessFlags := 26, slot := 1, constantValue := 0 }, { name := "highest", type := .long, accessFlags := 2, slot := 0, constantValue := 0 }, { name := "taken", type := .long, accessFlags := 2, slot := 1, constantValue := 0 }]
  methods := #[k3m0, k3m1, k3m2, k3m3]
  instanceTypes := #[.long, .long]
  staticTypes := #[.int, .int]
  resolved := Array.replicate 76 none
  statics := none }

def pool4 : Array CpInfo := pool [(1, u "java/lang/Cloneable"), (0, .class_ 1), (0, u "java/lang/Object"), (0, .class_ 3)] 3

/-- java/lang/Cloneable -/
def k4 : Class := { plain "java/lang/Cloneable" (some 0) with
  accessFlags := 1537
  interfaces := #[]
  cf := some (fileOf pool4 2 #[] #[] 1537 4 #[] #[])
  fields := #[]
  methods := #[]
  instanceTypes := #[]
  staticTypes := #[]
  resolved := Array.replicate 8 none
  statics := none }

def pool5 : Array CpInfo := pool [(1, u "java/io/Serializable"), (0, .class_ 1), (0, u "java/lang/Object"), (0, .class_ 3)] 3

/-- java/io/Serializable -/
def k5 : Class := { plain "java/io/Serializable" (some 0) with
  accessFlags := 1537
  interfaces := #[]
  cf := some (fileOf pool5 2 #[] #[] 1537 4 #[] #[])
  fields := #[]
  methods := #[]
  instanceTypes := #[]
  staticTypes := #[]
  resolved := Array.replicate 8 none
  statics := none }

/-- the primitive byte -/
def k6 : Class := { plain "byte" none with kind := .primitive 'B', accessFlags := 0x411 }
/-- [B -/
def k7 : Class := { plain "[B" (some 0) with kind := .array 6 .byte, interfaces := #[4, 5], accessFlags := 1041 }

/-- the primitive int -/
def k8 : Class := { plain "int" none with kind := .primitive 'I', accessFlags := 0x411 }
/-- [I -/
def k9 : Class := { plain "[I" (some 0) with kind := .array 8 .int, interfaces := #[4, 5], accessFlags := 1041 }

def heap : Heap := #[]
def classes : Array Class := #[k0, k1, k2, k3, k4, k5, k6, k7, k8, k9]
def interned : List (Array UInt16 × Addr) := []
def slotsUsed : Nat := 0
def theMethod : MethodId := ⟨1, 1⟩
def args0 : Array Value := #[.long 5, .long 300, .long 7, .int 3, .int 2, .int 1]
def aboutOver (below : List Frame) : State where
  vm := { classes := classes, interned := interned.toArray }
  heap := heap
  slotsUsed := slotsUsed
  threads := #[{ frames := .invoking theMethod args0 :: below }]
def below0 : List Frame := [.native { method := ⟨0, 0⟩, args := #[] }]
def about1 : State := aboutOver below0
def p0 : Program := .bare "" "" ""
def e0 : Env := launch0.env 0 0 0
theorem w_frames : about1.frames = Frame.invoking theMethod args0 :: below0 := rfl
set_option maxRecDepth 65536 in
theorem w_args : argsFit about1.vm theMethod args0 = true := by decide +kernel
set_option maxRecDepth 65536 in
theorem w_heap : heapFits about1 = true := by decide +kernel
set_option maxRecDepth 65536 in
theorem w_runnable : about1.curStatus? = some .runnable := by decide +kernel
set_option maxRecDepth 65536 in
theorem w_alone : about1.alone = true := by decide +kernel
set_option maxRecDepth 65536 in
theorem w_named : about1.methodNamed? x = some theMethod := by decide +kernel
set_option maxRecDepth 65536 in
theorem w_hears : about1.hears theMethod below0 = true := by decide +kernel
set_option maxRecDepth 65536 in
theorem w_ripe : about1.ripe theMethod args0 below0 = true := by decide +kernel
theorem w_running : about1.status = .running := rfl
set_option maxRecDepth 65536 in
theorem w_room : about1.hasRoom e0.platform room_1 = true :=
  launch0.hasRoom_least _ room_1 (by decide +kernel) (by decide +kernel) (by decide +kernel) (by decide +kernel) (by decide +kernel) (by decide +kernel)
theorem allAtoms_all (ts : List Jvm.Cond) (a : Array Jvm.Value) (st : Jvm.State) : (allAtoms ts).before a st = ts.all (fun c => c.before a st) := by
  induction ts with
  | nil => rfl
  | cons c t ih =>
    show (Jvm.Cond.and c (allAtoms t)).before a st = _
    rw [Jvm.Cond.before_and, ih, List.all_cons]
def words1 : List Jvm.Cond := Jvm.Cond.code x code maxLocals ret :: tables_1
/-- a 'code' word, met by the world's own term for the bytes: nothing is compared byte by byte -/
theorem code_word {y : MethodName} {bytes : ByteArray} {mx : Nat} {rt : Option FieldType} {a : Array Value} {s : State} {m : MethodId} {meth : Method} {c : Code} (h1 : s.methodNamed? y = some m) (h2 : s.vm.method? m = some meth) (h3 : meth.code = some c) (h4 : c.code = bytes)
    (h5 : (c.maxLocals == mx && c.exceptionTable.isEmpty && decide (c.maxStack ≤ mostOperands) && decide (meth.sig.returnType = rt) && !meth.locks && decide (parseMethodDescriptor y.desc = some meth.sig)) = true) : (Jvm.Cond.code y bytes mx rt).before a s = true := by
  simp only [Bool.and_eq_true, beq_iff_eq, Bool.not_eq_true', decide_eq_true_eq] at h5
  obtain ⟨⟨⟨⟨⟨g1, g2⟩, g3⟩, g4⟩, g5⟩, g6⟩ := h5
  simp [Cond.before, Cond.holds, Cond.value, h1, h2, h3, h4, g1, g2, g3, g4, g5, g6]
def isCode : Jvm.Cond → Bool
  | .code _ _ _ _ => true
  | _ => false
theorem all_split {L : List Jvm.Cond} {P : Jvm.Cond → Bool} (h1 : L.all (fun c => isCode c || P c) = true) (h2 : ∀ c ∈ L.filter isCode, P c = true) : L.all P = true := by
  refine List.all_eq_true.mpr fun c hc => ?_
  have h := List.all_eq_true.mp h1 c hc
  rcases Bool.eq_false_or_eq_true (isCode c) with hi | hi
  · exact h2 c (List.mem_filter.mpr ⟨hc, hi⟩)
  · simpa [hi] using h
set_option maxRecDepth 65536 in
theorem w_c0 : (Jvm.Cond.code x code maxLocals ret).before args0 about1 = true := code_word (m := ⟨1, 1⟩) (meth := k1m1) (c := k1c1) (by decide +kernel) rfl rfl rfl (by decide +kernel)
set_option maxRecDepth 65536 in
theorem w_c1 : (Jvm.Cond.code ({ cls := "com/example/tessitura/tessitura/srtp/ReplayWindowAddPinLaw", name := "next", desc := "(JJI)J" } : Jvm.MethodName) method_4_code (9 : Nat) (Option.some Jvm.ClassFile.FieldType.long)).before args0 about1 = true := code_word (m := ⟨1, 3⟩) (meth := k1m3) (c := k1c3) (by decide +kernel) rfl rfl rfl (by decide +kernel)
set_option maxRecDepth 65536 in
theorem w_c2 : (Jvm.Cond.code ({ cls := "java/lang/Math", name := "min", desc := "(JJ)J" } : Jvm.MethodName) jdk_29_method_70_code (4 : Nat) (Option.some Jvm.ClassFile.FieldType.long)).before args0 about1 = true := code_word (m := ⟨2, 2⟩) (meth := k2m2) (c := k2c2) (by decide +kernel) rfl rfl rfl (by decide +kernel)
set_option maxRecDepth 65536 in
theorem w_c3 : (Jvm.Cond.code ({ cls := "java/lang/Math", name := "max", desc := "(JJ)J" } : Jvm.MethodName) jdk_29_method_66_code (4 : Nat) (Option.some Jvm.ClassFile.FieldType.long)).before args0 about1 = true := code_word (m := ⟨2, 1⟩) (meth := k2m1) (c := k2c1) (by decide +kernel) rfl rfl rfl (by decide +kernel)
set_option maxRecDepth 65536 in
theorem w_c4 : (Jvm.Cond.code ({ cls := "com/example/tessitura/tessitura/srtp/ReplayWindow", name := "<init>", desc := "()V" } : Jvm.MethodName) prog_43_method_1_code (1 : Nat) (Option.none : Option Jvm.ClassFile.FieldType)).before args0 about1 = true := code_word (m := ⟨3, 0⟩) (meth := k3m0) (c := k3c0) (by decide +kernel) rfl rfl rfl (by decide +kernel)
set_option maxRecDepth 65536 in
theorem w_c5 : (Jvm.Cond.code ({ cls := "java/lang/Object", name := "<init>", desc := "()V" } : Jvm.MethodName) object_method_1_code (1 : Nat) (Option.none : Option Jvm.ClassFile.FieldType)).before args0 about1 = true := code_word (m := ⟨0, 0⟩) (meth := k0m0) (c := k0c0) (by decide +kernel) rfl rfl rfl (by decide +kernel)
set_option maxRecDepth 65536 in
theorem w_c6 : (Jvm.Cond.code ({ cls := "com/example/tessitura/tessitura/srtp/ReplayWindow", name := "add", desc := "(J)V" } : Jvm.MethodName) prog_43_method_4_code (5 : Nat) (Option.none : Option Jvm.ClassFile.FieldType)).before args0 about1 = true := code_word (m := ⟨3, 3⟩) (meth := k3m3) (c := k3c3) (by decide +kernel) rfl rfl rfl (by decide +kernel)
set_option maxRecDepth 65536 in
theorem w_c7 : (Jvm.Cond.code ({ cls := "com/example/tessitura/tessitura/srtp/ReplayWindow", name := "estimate", desc := "(I)J" } : Jvm.MethodName) prog_43_method_2_code (7 : Nat) (Option.some Jvm.ClassFile.FieldType.long)).before args0 about1 = true := code_word (m := ⟨3, 1⟩) (meth := k3m1) (c := k3c1) (by decide +kernel) rfl rfl rfl (by decide +kernel)
set_option maxRecDepth 65536 in
theorem w_c8 : (Jvm.Cond.code ({ cls := "com/example/tessitura/tessitura/srtp/ReplayWindowAddPinLaw", name := "taken", desc := "(JJJJ)Z" } : Jvm.MethodName) method_3_code (8 : Nat) (Option.some Jvm.ClassFile.FieldType.boolean)).before args0 about1 = true := code_word (m := ⟨1, 2⟩) (meth := k1m2) (c := k1c2) (by decide +kernel) rfl rfl rfl (by decide +kernel)
set_option maxRecDepth 65536 in
theorem w_c9 : (Jvm.Cond.code ({ cls := "com/example/tessitura/tessitura/srtp/ReplayWindow", name := "check", desc := "(J)V" } : Jvm.MethodName) prog_43_method_3_code (5 : Nat) (Option.none : Option Jvm.ClassFile.FieldType)).before args0 about1 = true := code_word (m := ⟨3, 2⟩) (meth := k3m2) (c := k3c2) (by decide +kernel) rfl rfl rfl (by decide +kernel)
def codes1 : List Jvm.Cond := [Jvm.Cond.code x code maxLocals ret, Jvm.Cond.code ({ cls := "com/example/tessitura/tessitura/srtp/ReplayWindowAddPinLaw", name := "next", desc := "(JJI)J" } : Jvm.MethodName) method_4_code (9 : Nat) (Option.some Jvm.ClassFile.FieldType.long), Jvm.Cond.code ({ cls := "java/lang/Math", name := "min", desc := "(JJ)J" } : Jvm.MethodName) jdk_29_method_70_code (4 : Nat) (Option.some Jvm.ClassFile.FieldType.long), Jvm.Cond.code ({ cls := "java/lang/Math", name := "max", desc := "(JJ)J" } : Jvm.MethodName) jdk_29_method_66_code (4 : Nat) (Option.some Jvm.ClassFile.FieldType.long), Jvm.Cond.code ({ cls := "com/example/tessitura/tessitura/srtp/ReplayWindow", name := "<init>", desc := "()V" } : Jvm.MethodName) prog_43_method_1_code (1 : Nat) (Option.none : Option Jvm.ClassFile.FieldType), Jvm.Cond.code ({ cls := "java/lang/Object", name := "<init>", desc := "()V" } : Jvm.MethodName) object_method_1_code (1 : Nat) (Option.none : Option Jvm.ClassFile.FieldType), Jvm.Cond.code ({ cls := "com/example/tessitura/tessitura/srtp/ReplayWindow", name := "add", desc := "(J)V" } : Jvm.MethodName) prog_43_method_4_code (5 : Nat) (Option.none : Option Jvm.ClassFile.FieldType), Jvm.Cond.code ({ cls := "com/example/tessitura/tessitura/srtp/ReplayWindow", name := "estimate", desc := "(I)J" } : Jvm.MethodName) prog_43_method_2_code (7 : Nat) (Option.some Jvm.ClassFile.FieldType.long), Jvm.Cond.code ({ cls := "com/example/tessitura/tessitura/srtp/ReplayWindowAddPinLaw", name := "taken", desc := "(JJJJ)Z" } : Jvm.MethodName) method_3_code (8 : Nat) (Option.some Jvm.ClassFile.FieldType.boolean), Jvm.Cond.code ({ cls := "com/example/tessitura/tessitura/srtp/ReplayWindow", name := "check", desc := "(J)V" } : Jvm.MethodName) prog_43_method_3_code (5 : Nat) (Option.none : Option Jvm.ClassFile.FieldType)]
set_option maxRecDepth 65536 in
theorem codes_eq : words1.filter isCode = codes1 := rfl
theorem w_codes : ∀ c ∈ words1.filter isCode, c.before args0 about1 = true := by
  rw [codes_eq]
  intro c hc
  simp only [codes1, List.mem_cons, List.not_mem_nil, or_false] at hc
  rcases hc with rfl | rfl | rfl | rfl | rfl | rfl | rfl | rfl | rfl | rfl
  · exact w_c0
  · exact w_c1
  · exact w_c2
  · exact w_c3
  · exact w_c4
  · exact w_c5
  · exact w_c6
  · exact w_c7
  · exact w_c8
  · exact w_c9
set_option maxRecDepth 65536 in
theorem w_t1 : (words1.take 24).all (fun c => isCode c || c.before args0 about1) = true := by decide +kernel
set_option maxRecDepth 65536 in
theorem w_t2 : ((words1.drop 24).take 24).all (fun c => isCode c || c.before args0 about1) = true := by decide +kernel
set_option maxRecDepth 65536 in
theorem w_t3 : ((words1.drop 24).drop 24).all (fun c => isCode c || c.before args0 about1) = true := by decide +kernel
theorem w_tables : (allAtoms (Jvm.Cond.code x code maxLocals ret :: tables_1)).before args0 about1 = true := by
  rw [allAtoms_all]
  show words1.all (fun c => c.before args0 about1) = true
  refine all_split ?_ w_codes
  rw [← List.take_append_drop 24 words1, List.all_append, w_t1, ← List.take_append_drop 24 (words1.drop 24), List.all_append, w_t2, w_t3]
  rfl
set_option maxRecDepth 65536 in
theorem w_case : (Jvm.Cond.and given_1 narrow_1).before args0 about1 = true := by decide +kernel
theorem w_applies : (headSpec (Jvm.Cond.code x code maxLocals ret :: tables_1) room_1).applies x e0.platform about1 = true :=
  (Spec.applies_iff w_frames).mpr ⟨w_running, w_runnable, w_alone, w_named, w_hears, w_ripe, w_room, w_tables⟩
theorem atStart : AtStart classFile x code maxLocals ret World_1 tables_1 room_1 Calls_1 rest_1 Pre_1 launch0 p0 e0 about1 theMethod args0 below0 :=
  ⟨lists_1, trivial, launch0.admits_env _ _ _, launch0.least_env, fairChoices_fair.cas, fairChoices_fair.clock, w_frames, w_args, w_heap, w_applies, trivial, trivial, w_case⟩
end start1
theorem witness_1 : WitnessClaimed_1 := ⟨start1.p0, start1.e0, start1.about1, start1.theMethod, start1.args0, start1.below0, start1.atStart⟩
end Jvm.Pilot.@@N@@
