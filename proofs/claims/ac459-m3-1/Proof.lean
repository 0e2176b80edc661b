import JvmDerived
import JvmDerived.Pilot.@@N@@Statement
import JvmDerived.Pilot.@@N@@Code
set_option linter.unusedVariables false
set_option linter.unusedSimpArgs false
namespace Jvm.Own
open Sem ClassFile Op Lib Jvm.Stand Jvm.Free Jvm.LawKit Jvm.RoadKit
abbrev Ctx := Program × Launch × Env × State × MethodId × Array Value × List Frame × Method × Code
def ushr (x y : Int32) : Int32 := (x.toUInt32 >>> (y &&& 31).toUInt32).toInt32
def ushrL (x : Int64) (y : Int32) : Int64 := (x.toUInt64 >>> (y &&& 63).toInt64.toUInt64).toInt64
/-- from here the body comes to its return, and Q holds of what it returns and of the heap -/
def Go (K : Ctx) (rm : Room) (Z : State) (n0 : Nat) (bs : ByteArray) (ml : Nat) (ret : Option FieldType) (own nm : String) (Q : Option Value → Heap → Prop) (kc ks : Nat) (h : Heap) (pc : Nat) (L : Array Slot) (S : List Value) : Prop :=
  match K with
  | (p, l, e, s, m, args, below, meth, c) =>
    p.tables.exec = Jvm.exec → c.code = bs → c.maxLocals = ml → s.vm.findClass own = some m.cls → Z.Warmed39 s.vm → meth.sig.returnType = ret → meth.locks = false → meth.name = nm →
    ∀ T locs, Stand p l e rm s m args below meth c T locs kc ks → Fr n0 locs → T.heap = h →
    ∃ s₂ v L', Steps p.tables e below (T.setTop (mkF m pc L S)) s₂ ∧ s₂.status = .running ∧ Ended s₂ below (.returned v) ∧ Q v s₂.heap ∧ Fr n0 L' ∧ FrameEnd s (.returned v) s₂ L' rm.cells rm.slots
/-- a body's contract -/
def Con (Z : State) (n0 : Nat) (y : MethodName) (bs : ByteArray) (ml : Nat) (ret : Option FieldType) (rm : Room) (as : List Value) (h : Heap) (Q : Option Value → Heap → Prop) : Prop :=
  ∀ l, MetFree l y (head1 [Jvm.Cond.code y bs ml ret] rm) (fun a U => a = as.toArray ∧ Z.Warmed39 U.vm ∧ U.heap = h) (fun _ _ _ _ _ => True) (fun _ U o U' => ∃ v L, o = .returned v ∧ (Q v U'.heap ∧ Fr n0 L) ∧ FrameEnd U o U' L rm.cells rm.slots)
section Laws
variable {K : Ctx} {rm : Room} {Z : State} {n0 : Nat} {bs : ByteArray} {ml : Nat} {ret : Option FieldType} {own nm : String} {Q : Option Value → Heap → Prop} {kc ks : Nat} {h : Heap} {pc pc' : Nat} {L : Array Slot} {S : List Value} {a0 : Array Value}
theorem enterW {l : Launch} {y : MethodName} {ws : List Jvm.Cond} {as : Array Value} {L0 : Array Slot} (hpl : plainFor y = true) (hL : ∀ m, entryFrame m as ml = mkF m 0 L0 [])
    (H : ∀ K, Go K rm Z n0 bs ml ret y.cls y.name Q 0 0 h 0 L0 []) :
    MetFree l y (head1 (Jvm.Cond.code y bs ml ret :: ws) rm) (fun a U => a = as ∧ Z.Warmed39 U.vm ∧ U.heap = h) (fun _ _ _ _ _ => True) (fun _ U o U' => ∃ v L, o = .returned v ∧ (Q v U'.heap ∧ Fr n0 L) ∧ FrameEnd U o U' L rm.cells rm.slots) := by
  refine MetFree.of_bodySF hpl hisR ?_
  intro p e s m args below meth c s₁ Bd hml0 hP hK
  obtain ⟨rfl, hZ, hh⟩ := hP
  have X0 : Stand p l e rm s m args below meth c s₁ [] 0 0 := Stand.of_body Bd
  obtain ⟨s₂, v, L', st, h1, h2, h3, h4, h5⟩ := H (p, l, e, s, m, args, below, meth, c) Bd.exec Bd.bytes hml0 (findClass_of_methodNamed Bd.named) hZ Bd.returns Bd.notSynchronized (name_of_methodNamed Bd.named Bd.method).1 s₁ [] X0 (Fr.nil n0) (by rw [← hh, Bd.state]; rfl)
  exact ⟨s₂, _, castTop (hL m) st, h1, h2, v, L', rfl, ⟨h3, h4⟩, h5⟩
theorem enter {y : MethodName} {as : List Value} {L0 : Array Slot} (hpl : plainFor y = true) (hL : ∀ m, entryFrame m as.toArray ml = mkF m 0 L0 [])
    (H : ∀ K, Go K rm Z n0 bs ml ret y.cls y.name Q 0 0 h 0 L0 []) : Con Z n0 y bs ml ret rm as h Q := fun _ => enterW hpl hL H
theorem iload {k : Nat} {v : Int32} (hd : decode bs pc = .ok (.iload k, 2)) (hl : L[k]? = some (.val (.int v))) (hp : pc + 2 = pc') (hr : Go K rm Z n0 bs ml ret own nm Q kc ks h pc' L (.int v :: S)) : Go K rm Z n0 bs ml ret own nm Q kc ks h pc L S := by
  subst hp
  obtain ⟨p, l, e, s, m, args, below, meth, c⟩ := K
  intro hx hby hml hown hZ hret hlk hnm T locs X hF hh
  obtain ⟨s₂, v, L', st, r⟩ := hr hx hby hml hown hZ hret hlk hnm T locs X hF hh
  exact ⟨s₂, v, L', XS.iload X.here hx rfl (hb hby hd) hl st, r⟩
theorem iloadN {k : Fin 4} {v : Int32} (hd : decode bs pc = .ok (.iload_n k, 1)) (hl : L[k.val]? = some (.val (.int v))) (hp : pc + 1 = pc') (hr : Go K rm Z n0 bs ml ret own nm Q kc ks h pc' L (.int v :: S)) : Go K rm Z n0 bs ml ret own nm Q kc ks h pc L S := by
  subst hp
  obtain ⟨p, l, e, s, m, args, below, meth, c⟩ := K
  intro hx hby hml hown hZ hret hlk hnm T locs X hF hh
  obtain ⟨s₂, v, L', st, r⟩ := hr hx hby hml hown hZ hret hlk hnm T locs X hF hh
  exact ⟨s₂, v, L', XS.iloadN X.here hx rfl (hb hby hd) hl st, r⟩
theorem lload {k : Nat} {v : Int64} (hd : decode bs pc = .ok (.lload k, 2)) (hl : L[k]? = some (.val (.long v))) (hp : pc + 2 = pc') (hr : Go K rm Z n0 bs ml ret own nm Q kc ks h pc' L (.long v :: S)) : Go K rm Z n0 bs ml ret own nm Q kc ks h pc L S := by
  subst hp
  obtain ⟨p, l, e, s, m, args, below, meth, c⟩ := K
  intro hx hby hml hown hZ hret hlk hnm T locs X hF hh
  obtain ⟨s₂, v, L', st, r⟩ := hr hx hby hml hown hZ hret hlk hnm T locs X hF hh
  exact ⟨s₂, v, L', XS.lload X.here hx rfl (hb hby hd) hl st, r⟩
theorem lloadN {k : Fin 4} {v : Int64} (hd : decode bs pc = .ok (.lload_n k, 1)) (hl : L[k.val]? = some (.val (.long v))) (hp : pc + 1 = pc') (hr : Go K rm Z n0 bs ml ret own nm Q kc ks h pc' L (.long v :: S)) : Go K rm Z n0 bs ml ret own nm Q kc ks h pc L S := by
  subst hp
  obtain ⟨p, l, e, s, m, args, below, meth, c⟩ := K
  intro hx hby hml hown hZ hret hlk hnm T locs X hF hh
  obtain ⟨s₂, v, L', st, r⟩ := hr hx hby hml hown hZ hret hlk hnm T locs X hF hh
  exact ⟨s₂, v, L', XS.lloadN X.here hx rfl (hb hby hd) hl st, r⟩
theorem aload {k : Nat} {v : Value} (hd : decode bs pc = .ok (.aload k, 2)) (hl : L[k]? = some (.val v)) (hv : v.isRef = true) (hp : pc + 2 = pc') (hr : Go K rm Z n0 bs ml ret own nm Q kc ks h pc' L (v :: S)) : Go K rm Z n0 bs ml ret own nm Q kc ks h pc L S := by
  subst hp
  obtain ⟨p, l, e, s, m, args, below, meth, c⟩ := K
  intro hx hby hml hown hZ hret hlk hnm T locs X hF hh
  obtain ⟨s₂, v, L', st, r⟩ := hr hx hby hml hown hZ hret hlk hnm T locs X hF hh
  exact ⟨s₂, v, L', XS.aload X.here hx rfl (hb hby hd) hl hv st, r⟩
theorem aloadN {k : Fin 4} {v : Value} (hd : decode bs pc = .ok (.aload_n k, 1)) (hl : L[k.val]? = some (.val v)) (hv : v.isRef = true) (hp : pc + 1 = pc') (hr : Go K rm Z n0 bs ml ret own nm Q kc ks h pc' L (v :: S)) : Go K rm Z n0 bs ml ret own nm Q kc ks h pc L S := by
  subst hp
  obtain ⟨p, l, e, s, m, args, below, meth, c⟩ := K
  intro hx hby hml hown hZ hret hlk hnm T locs X hF hh
  obtain ⟨s₂, v, L', st, r⟩ := hr hx hby hml hown hZ hret hlk hnm T locs X hF hh
  exact ⟨s₂, v, L', XS.aloadN X.here hx rfl (hb hby hd) hl hv st, r⟩
theorem istore {k : Nat} {x : Int32} {L1 : Array Slot} (hd : decode bs pc = .ok (.istore k, 2)) (hl : storeLocals L k (.int x) = some L1) (hp : pc + 2 = pc') (hr : Go K rm Z n0 bs ml ret own nm Q kc ks h pc' L1 S) : Go K rm Z n0 bs ml ret own nm Q kc ks h pc L (.int x :: S) := by
  subst hp
  obtain ⟨p, l, e, s, m, args, below, meth, c⟩ := K
  intro hx hby hml hown hZ hret hlk hnm T locs X hF hh
  obtain ⟨s₂, v, L', st, r⟩ := hr hx hby hml hown hZ hret hlk hnm T locs X hF hh
  exact ⟨s₂, v, L', XS.istore X.here hx rfl (hb hby hd) rfl hl st, r⟩
theorem istoreN {k : Fin 4} {x : Int32} {L1 : Array Slot} (hd : decode bs pc = .ok (.istore_n k, 1)) (hl : storeLocals L k.val (.int x) = some L1) (hp : pc + 1 = pc') (hr : Go K rm Z n0 bs ml ret own nm Q kc ks h pc' L1 S) : Go K rm Z n0 bs ml ret own nm Q kc ks h pc L (.int x :: S) := by
  subst hp
  obtain ⟨p, l, e, s, m, args, below, meth, c⟩ := K
  intro hx hby hml hown hZ hret hlk hnm T locs X hF hh
  obtain ⟨s₂, v, L', st, r⟩ := hr hx hby hml hown hZ hret hlk hnm T locs X hF hh
  exact ⟨s₂, v, L', XS.istoreN X.here hx rfl (hb hby hd) rfl hl st, r⟩
theorem lstore {k : Nat} {x : Int64} {L1 : Array Slot} (hd : decode bs pc = .ok (.lstore k, 2)) (hl : storeLocals L k (.long x) = some L1) (hp : pc + 2 = pc') (hr : Go K rm Z n0 bs ml ret own nm Q kc ks h pc' L1 S) : Go K rm Z n0 bs ml ret own nm Q kc ks h pc L (.long x :: S) := by
  subst hp
  obtain ⟨p, l, e, s, m, args, below, meth, c⟩ := K
  intro hx hby hml hown hZ hret hlk hnm T locs X hF hh
  obtain ⟨s₂, v, L', st, r⟩ := hr hx hby hml hown hZ hret hlk hnm T locs X hF hh
  exact ⟨s₂, v, L', XS.lstore X.here hx rfl (hb hby hd) rfl hl st, r⟩
theorem lstoreN {k : Fin 4} {x : Int64} {L1 : Array Slot} (hd : decode bs pc = .ok (.lstore_n k, 1)) (hl : storeLocals L k.val (.long x) = some L1) (hp : pc + 1 = pc') (hr : Go K rm Z n0 bs ml ret own nm Q kc ks h pc' L1 S) : Go K rm Z n0 bs ml ret own nm Q kc ks h pc L (.long x :: S) := by
  subst hp
  obtain ⟨p, l, e, s, m, args, below, meth, c⟩ := K
  intro hx hby hml hown hZ hret hlk hnm T locs X hF hh
  obtain ⟨s₂, v, L', st, r⟩ := hr hx hby hml hown hZ hret hlk hnm T locs X hF hh
  exact ⟨s₂, v, L', XS.lstoreN X.here hx rfl (hb hby hd) rfl hl st, r⟩
theorem astore {k : Nat} {x : Value} {L1 : Array Slot} (hd : decode bs pc = .ok (.astore k, 2)) (hv : x.isRef = true) (hl : storeLocals L k x = some L1) (hp : pc + 2 = pc') (hr : Go K rm Z n0 bs ml ret own nm Q kc ks h pc' L1 S) : Go K rm Z n0 bs ml ret own nm Q kc ks h pc L (x :: S) := by
  subst hp
  obtain ⟨p, l, e, s, m, args, below, meth, c⟩ := K
  intro hx hby hml hown hZ hret hlk hnm T locs X hF hh
  obtain ⟨s₂, v, L', st, r⟩ := hr hx hby hml hown hZ hret hlk hnm T locs X hF hh
  exact ⟨s₂, v, L', XS.astore X.here hx rfl (hb hby hd) rfl hv hl st, r⟩
theorem astoreN {k : Fin 4} {x : Value} {L1 : Array Slot} (hd : decode bs pc = .ok (.astore_n k, 1)) (hv : x.isRef = true) (hl : storeLocals L k.val x = some L1) (hp : pc + 1 = pc') (hr : Go K rm Z n0 bs ml ret own nm Q kc ks h pc' L1 S) : Go K rm Z n0 bs ml ret own nm Q kc ks h pc L (x :: S) := by
  subst hp
  obtain ⟨p, l, e, s, m, args, below, meth, c⟩ := K
  intro hx hby hml hown hZ hret hlk hnm T locs X hF hh
  obtain ⟨s₂, v, L', st, r⟩ := hr hx hby hml hown hZ hret hlk hnm T locs X hF hh
  exact ⟨s₂, v, L', XS.astoreN X.here hx rfl (hb hby hd) rfl hv hl st, r⟩
theorem iconst {i : Int} {v : Int32} (hd : decode bs pc = .ok (.iconst i, 1)) (hv : Int32.ofInt i = v) (hp : pc + 1 = pc') (hr : Go K rm Z n0 bs ml ret own nm Q kc ks h pc' L (.int v :: S)) : Go K rm Z n0 bs ml ret own nm Q kc ks h pc L S := by
  subst hp
  obtain ⟨p, l, e, s, m, args, below, meth, c⟩ := K
  intro hx hby hml hown hZ hret hlk hnm T locs X hF hh
  obtain ⟨s₂, v, L', st, r⟩ := hr hx hby hml hown hZ hret hlk hnm T locs X hF hh
  exact ⟨s₂, v, L', XS.iconst X.here hx rfl (hb hby hd) (hv ▸ st), r⟩
theorem bipush {i : Int} {v : Int32} (hd : decode bs pc = .ok (.bipush i, 2)) (hv : (Int8.ofInt i).toInt32 = v) (hp : pc + 2 = pc') (hr : Go K rm Z n0 bs ml ret own nm Q kc ks h pc' L (.int v :: S)) : Go K rm Z n0 bs ml ret own nm Q kc ks h pc L S := by
  subst hp
  obtain ⟨p, l, e, s, m, args, below, meth, c⟩ := K
  intro hx hby hml hown hZ hret hlk hnm T locs X hF hh
  obtain ⟨s₂, v, L', st, r⟩ := hr hx hby hml hown hZ hret hlk hnm T locs X hF hh
  exact ⟨s₂, v, L', XS.bipush X.here hx rfl (hb hby hd) (hv ▸ st), r⟩
theorem sipush {i : Int} {v : Int32} (hd : decode bs pc = .ok (.sipush i, 3)) (hv : (Int16.ofInt i).toInt32 = v) (hp : pc + 3 = pc') (hr : Go K rm Z n0 bs ml ret own nm Q kc ks h pc' L (.int v :: S)) : Go K rm Z n0 bs ml ret own nm Q kc ks h pc L S := by
  subst hp
  obtain ⟨p, l, e, s, m, args, below, meth, c⟩ := K
  intro hx hby hml hown hZ hret hlk hnm T locs X hF hh
  obtain ⟨s₂, v, L', st, r⟩ := hr hx hby hml hown hZ hret hlk hnm T locs X hF hh
  exact ⟨s₂, v, L', XS.sipush X.here hx rfl (hb hby hd) (hv ▸ st), r⟩
theorem aconstNull  (hd : decode bs pc = .ok (.aconst_null, 1)) (hp : pc + 1 = pc') (hr : Go K rm Z n0 bs ml ret own nm Q kc ks h pc' L (.null :: S)) : Go K rm Z n0 bs ml ret own nm Q kc ks h pc L S := by
  subst hp
  obtain ⟨p, l, e, s, m, args, below, meth, c⟩ := K
  intro hx hby hml hown hZ hret hlk hnm T locs X hF hh
  obtain ⟨s₂, v, L', st, r⟩ := hr hx hby hml hown hZ hret hlk hnm T locs X hF hh
  exact ⟨s₂, v, L', XS.aconstNull X.here hx rfl (hb hby hd) st, r⟩
theorem lconst0  (hd : decode bs pc = .ok (.lconst 0, 1)) (hp : pc + 1 = pc') (hr : Go K rm Z n0 bs ml ret own nm Q kc ks h pc' L (.long 0 :: S)) : Go K rm Z n0 bs ml ret own nm Q kc ks h pc L S := by
  subst hp
  obtain ⟨p, l, e, s, m, args, below, meth, c⟩ := K
  intro hx hby hml hown hZ hret hlk hnm T locs X hF hh
  obtain ⟨s₂, v, L', st, r⟩ := hr hx hby hml hown hZ hret hlk hnm T locs X hF hh
  exact ⟨s₂, v, L', XS.lconst X.here hx rfl (hb hby hd) st, r⟩
theorem lconst1  (hd : decode bs pc = .ok (.lconst 1, 1)) (hp : pc + 1 = pc') (hr : Go K rm Z n0 bs ml ret own nm Q kc ks h pc' L (.long 1 :: S)) : Go K rm Z n0 bs ml ret own nm Q kc ks h pc L S := by
  subst hp
  obtain ⟨p, l, e, s, m, args, below, meth, c⟩ := K
  intro hx hby hml hown hZ hret hlk hnm T locs X hF hh
  obtain ⟨s₂, v, L', st, r⟩ := hr hx hby hml hown hZ hret hlk hnm T locs X hF hh
  exact ⟨s₂, v, L', XS.lconst X.here hx rfl (hb hby hd) st, r⟩
theorem ldcInt {i : Nat} {v : Int32} (hd : decode bs pc = .ok (.ldc i, 2)) (w : (Jvm.Cond.constant own i v).before a0 Z = true) (hp : pc + 2 = pc') (hr : Go K rm Z n0 bs ml ret own nm Q kc ks h pc' L (.int v :: S)) : Go K rm Z n0 bs ml ret own nm Q kc ks h pc L S := by
  subst hp
  obtain ⟨p, l, e, s, m, args, below, meth, c⟩ := K
  intro hx hby hml hown hZ hret hlk hnm T locs X hF hh
  obtain ⟨s₂, v, L', st, r⟩ := hr hx hby hml hown hZ hret hlk hnm T locs X hF hh
  exact ⟨s₂, v, L', X.ldcInt hx hown (mvT hZ w) (g := mkF m pc L S) rfl (hb hby hd) _ st, r⟩
theorem ldc2Long {i : Nat} {v : Int64} (hd : decode bs pc = .ok (.ldc2_w i, 3)) (w : (Jvm.Cond.constantLong own i v).before a0 Z = true) (hp : pc + 3 = pc') (hr : Go K rm Z n0 bs ml ret own nm Q kc ks h pc' L (.long v :: S)) : Go K rm Z n0 bs ml ret own nm Q kc ks h pc L S := by
  subst hp
  obtain ⟨p, l, e, s, m, args, below, meth, c⟩ := K
  intro hx hby hml hown hZ hret hlk hnm T locs X hF hh
  obtain ⟨s₂, v, L', st, r⟩ := hr hx hby hml hown hZ hret hlk hnm T locs X hF hh
  exact ⟨s₂, v, L', X.ldc2Long hx hown (mvT hZ w) (g := mkF m pc L S) rfl (hb hby hd) _ st, r⟩
theorem iadd {x y : Int32} (hd : decode bs pc = .ok (.iadd, 1)) (hp : pc + 1 = pc') (hr : ∀ z, z = x + y → Go K rm Z n0 bs ml ret own nm Q kc ks h pc' L (.int z :: S)) : Go K rm Z n0 bs ml ret own nm Q kc ks h pc L (.int y :: .int x :: S) := by
  subst hp
  obtain ⟨p, l, e, s, m, args, below, meth, c⟩ := K
  intro hx hby hml hown hZ hret hlk hnm T locs X hF hh
  obtain ⟨s₂, v, L', st, r⟩ := hr _ rfl hx hby hml hown hZ hret hlk hnm T locs X hF hh
  exact ⟨s₂, v, L', XS.iadd X.here hx rfl (hb hby hd) rfl st, r⟩
theorem iaddE {x y : Int32} {z : Int32} (hd : decode bs pc = .ok (.iadd, 1)) (hp : pc + 1 = pc') (hz : x + y = z) (hr : Go K rm Z n0 bs ml ret own nm Q kc ks h pc' L (.int z :: S)) : Go K rm Z n0 bs ml ret own nm Q kc ks h pc L (.int y :: .int x :: S) :=
  iadd hd hp fun z' e => by obtain rfl : z' = z := e.trans hz; exact hr
theorem isub {x y : Int32} (hd : decode bs pc = .ok (.isub, 1)) (hp : pc + 1 = pc') (hr : ∀ z, z = x - y → Go K rm Z n0 bs ml ret own nm Q kc ks h pc' L (.int z :: S)) : Go K rm Z n0 bs ml ret own nm Q kc ks h pc L (.int y :: .int x :: S) := by
  subst hp
  obtain ⟨p, l, e, s, m, args, below, meth, c⟩ := K
  intro hx hby hml hown hZ hret hlk hnm T locs X hF hh
  obtain ⟨s₂, v, L', st, r⟩ := hr _ rfl hx hby hml hown hZ hret hlk hnm T locs X hF hh
  exact ⟨s₂, v, L', XS.isub X.here hx rfl (hb hby hd) rfl st, r⟩
theorem isubE {x y : Int32} {z : Int32} (hd : decode bs pc = .ok (.isub, 1)) (hp : pc + 1 = pc') (hz : x - y = z) (hr : Go K rm Z n0 bs ml ret own nm Q kc ks h pc' L (.int z :: S)) : Go K rm Z n0 bs ml ret own nm Q kc ks h pc L (.int y :: .int x :: S) :=
  isub hd hp fun z' e => by obtain rfl : z' = z := e.trans hz; exact hr
theorem imul {x y : Int32} (hd : decode bs pc = .ok (.imul, 1)) (hp : pc + 1 = pc') (hr : ∀ z, z = x * y → Go K rm Z n0 bs ml ret own nm Q kc ks h pc' L (.int z :: S)) : Go K rm Z n0 bs ml ret own nm Q kc ks h pc L (.int y :: .int x :: S) := by
  subst hp
  obtain ⟨p, l, e, s, m, args, below, meth, c⟩ := K
  intro hx hby hml hown hZ hret hlk hnm T locs X hF hh
  obtain ⟨s₂, v, L', st, r⟩ := hr _ rfl hx hby hml hown hZ hret hlk hnm T locs X hF hh
  exact ⟨s₂, v, L', XS.imul X.here hx rfl (hb hby hd) rfl st, r⟩
theorem imulE {x y : Int32} {z : Int32} (hd : decode bs pc = .ok (.imul, 1)) (hp : pc + 1 = pc') (hz : x * y = z) (hr : Go K rm Z n0 bs ml ret own nm Q kc ks h pc' L (.int z :: S)) : Go K rm Z n0 bs ml ret own nm Q kc ks h pc L (.int y :: .int x :: S) :=
  imul hd hp fun z' e => by obtain rfl : z' = z := e.trans hz; exact hr
theorem iand {x y : Int32} (hd : decode bs pc = .ok (.iand, 1)) (hp : pc + 1 = pc') (hr : ∀ z, z = x &&& y → Go K rm Z n0 bs ml ret own nm Q kc ks h pc' L (.int z :: S)) : Go K rm Z n0 bs ml ret own nm Q kc ks h pc L (.int y :: .int x :: S) := by
  subst hp
  obtain ⟨p, l, e, s, m, args, below, meth, c⟩ := K
  intro hx hby hml hown hZ hret hlk hnm T locs X hF hh
  obtain ⟨s₂, v, L', st, r⟩ := hr _ rfl hx hby hml hown hZ hret hlk hnm T locs X hF hh
  exact ⟨s₂, v, L', XS.iand X.here hx rfl (hb hby hd) rfl st, r⟩
theorem iandE {x y : Int32} {z : Int32} (hd : decode bs pc = .ok (.iand, 1)) (hp : pc + 1 = pc') (hz : x &&& y = z) (hr : Go K rm Z n0 bs ml ret own nm Q kc ks h pc' L (.int z :: S)) : Go K rm Z n0 bs ml ret own nm Q kc ks h pc L (.int y :: .int x :: S) :=
  iand hd hp fun z' e => by obtain rfl : z' = z := e.trans hz; exact hr
theorem ior {x y : Int32} (hd : decode bs pc = .ok (.ior, 1)) (hp : pc + 1 = pc') (hr : ∀ z, z = x ||| y → Go K rm Z n0 bs ml ret own nm Q kc ks h pc' L (.int z :: S)) : Go K rm Z n0 bs ml ret own nm Q kc ks h pc L (.int y :: .int x :: S) := by
  subst hp
  obtain ⟨p, l, e, s, m, args, below, meth, c⟩ := K
  intro hx hby hml hown hZ hret hlk hnm T locs X hF hh
  obtain ⟨s₂, v, L', st, r⟩ := hr _ rfl hx hby hml hown hZ hret hlk hnm T locs X hF hh
  exact ⟨s₂, v, L', XS.ior X.here hx rfl (hb hby hd) rfl st, r⟩
theorem iorE {x y : Int32} {z : Int32} (hd : decode bs pc = .ok (.ior, 1)) (hp : pc + 1 = pc') (hz : x ||| y = z) (hr : Go K rm Z n0 bs ml ret own nm Q kc ks h pc' L (.int z :: S)) : Go K rm Z n0 bs ml ret own nm Q kc ks h pc L (.int y :: .int x :: S) :=
  ior hd hp fun z' e => by obtain rfl : z' = z := e.trans hz; exact hr
theorem ixor {x y : Int32} (hd : decode bs pc = .ok (.ixor, 1)) (hp : pc + 1 = pc') (hr : ∀ z, z = x ^^^ y → Go K rm Z n0 bs ml ret own nm Q kc ks h pc' L (.int z :: S)) : Go K rm Z n0 bs ml ret own nm Q kc ks h pc L (.int y :: .int x :: S) := by
  subst hp
  obtain ⟨p, l, e, s, m, args, below, meth, c⟩ := K
  intro hx hby hml hown hZ hret hlk hnm T locs X hF hh
  obtain ⟨s₂, v, L', st, r⟩ := hr _ rfl hx hby hml hown hZ hret hlk hnm T locs X hF hh
  exact ⟨s₂, v, L', XS.ixor X.here hx rfl (hb hby hd) rfl st, r⟩
theorem ixorE {x y : Int32} {z : Int32} (hd : decode bs pc = .ok (.ixor, 1)) (hp : pc + 1 = pc') (hz : x ^^^ y = z) (hr : Go K rm Z n0 bs ml ret own nm Q kc ks h pc' L (.int z :: S)) : Go K rm Z n0 bs ml ret own nm Q kc ks h pc L (.int y :: .int x :: S) :=
  ixor hd hp fun z' e => by obtain rfl : z' = z := e.trans hz; exact hr
theorem ishl {x y : Int32} (hd : decode bs pc = .ok (.ishl, 1)) (hp : pc + 1 = pc') (hr : ∀ z, z = x <<< (y &&& 31) → Go K rm Z n0 bs ml ret own nm Q kc ks h pc' L (.int z :: S)) : Go K rm Z n0 bs ml ret own nm Q kc ks h pc L (.int y :: .int x :: S) := by
  subst hp
  obtain ⟨p, l, e, s, m, args, below, meth, c⟩ := K
  intro hx hby hml hown hZ hret hlk hnm T locs X hF hh
  obtain ⟨s₂, v, L', st, r⟩ := hr _ rfl hx hby hml hown hZ hret hlk hnm T locs X hF hh
  exact ⟨s₂, v, L', XS.ishl X.here hx rfl (hb hby hd) rfl st, r⟩
theorem ishlE {x y : Int32} {z : Int32} (hd : decode bs pc = .ok (.ishl, 1)) (hp : pc + 1 = pc') (hz : x <<< (y &&& 31) = z) (hr : Go K rm Z n0 bs ml ret own nm Q kc ks h pc' L (.int z :: S)) : Go K rm Z n0 bs ml ret own nm Q kc ks h pc L (.int y :: .int x :: S) :=
  ishl hd hp fun z' e => by obtain rfl : z' = z := e.trans hz; exact hr
theorem ishr {x y : Int32} (hd : decode bs pc = .ok (.ishr, 1)) (hp : pc + 1 = pc') (hr : ∀ z, z = x >>> (y &&& 31) → Go K rm Z n0 bs ml ret own nm Q kc ks h pc' L (.int z :: S)) : Go K rm Z n0 bs ml ret own nm Q kc ks h pc L (.int y :: .int x :: S) := by
  subst hp
  obtain ⟨p, l, e, s, m, args, below, meth, c⟩ := K
  intro hx hby hml hown hZ hret hlk hnm T locs X hF hh
  obtain ⟨s₂, v, L', st, r⟩ := hr _ rfl hx hby hml hown hZ hret hlk hnm T locs X hF hh
  exact ⟨s₂, v, L', XS.ishr X.here hx rfl (hb hby hd) rfl st, r⟩
theorem ishrE {x y : Int32} {z : Int32} (hd : decode bs pc = .ok (.ishr, 1)) (hp : pc + 1 = pc') (hz : x >>> (y &&& 31) = z) (hr : Go K rm Z n0 bs ml ret own nm Q kc ks h pc' L (.int z :: S)) : Go K rm Z n0 bs ml ret own nm Q kc ks h pc L (.int y :: .int x :: S) :=
  ishr hd hp fun z' e => by obtain rfl : z' = z := e.trans hz; exact hr
theorem iushr {x y : Int32} (hd : decode bs pc = .ok (.iushr, 1)) (hp : pc + 1 = pc') (hr : ∀ z, z = Jvm.Own.ushr x y → Go K rm Z n0 bs ml ret own nm Q kc ks h pc' L (.int z :: S)) : Go K rm Z n0 bs ml ret own nm Q kc ks h pc L (.int y :: .int x :: S) := by
  subst hp
  obtain ⟨p, l, e, s, m, args, below, meth, c⟩ := K
  intro hx hby hml hown hZ hret hlk hnm T locs X hF hh
  obtain ⟨s₂, v, L', st, r⟩ := hr _ rfl hx hby hml hown hZ hret hlk hnm T locs X hF hh
  exact ⟨s₂, v, L', XS.iushr X.here hx rfl (hb hby hd) rfl st, r⟩
theorem iushrE {x y : Int32} {z : Int32} (hd : decode bs pc = .ok (.iushr, 1)) (hp : pc + 1 = pc') (hz : Jvm.Own.ushr x y = z) (hr : Go K rm Z n0 bs ml ret own nm Q kc ks h pc' L (.int z :: S)) : Go K rm Z n0 bs ml ret own nm Q kc ks h pc L (.int y :: .int x :: S) :=
  iushr hd hp fun z' e => by obtain rfl : z' = z := e.trans hz; exact hr
theorem ladd {x y : Int64} (hd : decode bs pc = .ok (.ladd, 1)) (hp : pc + 1 = pc') (hr : ∀ z, z = x + y → Go K rm Z n0 bs ml ret own nm Q kc ks h pc' L (.long z :: S)) : Go K rm Z n0 bs ml ret own nm Q kc ks h pc L (.long y :: .long x :: S) := by
  subst hp
  obtain ⟨p, l, e, s, m, args, below, meth, c⟩ := K
  intro hx hby hml hown hZ hret hlk hnm T locs X hF hh
  obtain ⟨s₂, v, L', st, r⟩ := hr _ rfl hx hby hml hown hZ hret hlk hnm T locs X hF hh
  exact ⟨s₂, v, L', XS.ladd X.here hx rfl (hb hby hd) rfl st, r⟩
theorem laddE {x y : Int64} {z : Int64} (hd : decode bs pc = .ok (.ladd, 1)) (hp : pc + 1 = pc') (hz : x + y = z) (hr : Go K rm Z n0 bs ml ret own nm Q kc ks h pc' L (.long z :: S)) : Go K rm Z n0 bs ml ret own nm Q kc ks h pc L (.long y :: .long x :: S) :=
  ladd hd hp fun z' e => by obtain rfl : z' = z := e.trans hz; exact hr
theorem lsub {x y : Int64} (hd : decode bs pc = .ok (.lsub, 1)) (hp : pc + 1 = pc') (hr : ∀ z, z = x - y → Go K rm Z n0 bs ml ret own nm Q kc ks h pc' L (.long z :: S)) : Go K rm Z n0 bs ml ret own nm Q kc ks h pc L (.long y :: .long x :: S) := by
  subst hp
  obtain ⟨p, l, e, s, m, args, below, meth, c⟩ := K
  intro hx hby hml hown hZ hret hlk hnm T locs X hF hh
  obtain ⟨s₂, v, L', st, r⟩ := hr _ rfl hx hby hml hown hZ hret hlk hnm T locs X hF hh
  exact ⟨s₂, v, L', XS.lsub X.here hx rfl (hb hby hd) rfl st, r⟩
theorem lsubE {x y : Int64} {z : Int64} (hd : decode bs pc = .ok (.lsub, 1)) (hp : pc + 1 = pc') (hz : x - y = z) (hr : Go K rm Z n0 bs ml ret own nm Q kc ks h pc' L (.long z :: S)) : Go K rm Z n0 bs ml ret own nm Q kc ks h pc L (.long y :: .long x :: S) :=
  lsub hd hp fun z' e => by obtain rfl : z' = z := e.trans hz; exact hr
theorem lmul {x y : Int64} (hd : decode bs pc = .ok (.lmul, 1)) (hp : pc + 1 = pc') (hr : ∀ z, z = x * y → Go K rm Z n0 bs ml ret own nm Q kc ks h pc' L (.long z :: S)) : Go K rm Z n0 bs ml ret own nm Q kc ks h pc L (.long y :: .long x :: S) := by
  subst hp
  obtain ⟨p, l, e, s, m, args, below, meth, c⟩ := K
  intro hx hby hml hown hZ hret hlk hnm T locs X hF hh
  obtain ⟨s₂, v, L', st, r⟩ := hr _ rfl hx hby hml hown hZ hret hlk hnm T locs X hF hh
  exact ⟨s₂, v, L', XS.lmul X.here hx rfl (hb hby hd) rfl st, r⟩
theorem lmulE {x y : Int64} {z : Int64} (hd : decode bs pc = .ok (.lmul, 1)) (hp : pc + 1 = pc') (hz : x * y = z) (hr : Go K rm Z n0 bs ml ret own nm Q kc ks h pc' L (.long z :: S)) : Go K rm Z n0 bs ml ret own nm Q kc ks h pc L (.long y :: .long x :: S) :=
  lmul hd hp fun z' e => by obtain rfl : z' = z := e.trans hz; exact hr
theorem land {x y : Int64} (hd : decode bs pc = .ok (.land, 1)) (hp : pc + 1 = pc') (hr : ∀ z, z = x &&& y → Go K rm Z n0 bs ml ret own nm Q kc ks h pc' L (.long z :: S)) : Go K rm Z n0 bs ml ret own nm Q kc ks h pc L (.long y :: .long x :: S) := by
  subst hp
  obtain ⟨p, l, e, s, m, args, below, meth, c⟩ := K
  intro hx hby hml hown hZ hret hlk hnm T locs X hF hh
  obtain ⟨s₂, v, L', st, r⟩ := hr _ rfl hx hby hml hown hZ hret hlk hnm T locs X hF hh
  exact ⟨s₂, v, L', XS.land X.here hx rfl (hb hby hd) rfl st, r⟩
theorem landE {x y : Int64} {z : Int64} (hd : decode bs pc = .ok (.land, 1)) (hp : pc + 1 = pc') (hz : x &&& y = z) (hr : Go K rm Z n0 bs ml ret own nm Q kc ks h pc' L (.long z :: S)) : Go K rm Z n0 bs ml ret own nm Q kc ks h pc L (.long y :: .long x :: S) :=
  land hd hp fun z' e => by obtain rfl : z' = z := e.trans hz; exact hr
theorem lor {x y : Int64} (hd : decode bs pc = .ok (.lor, 1)) (hp : pc + 1 = pc') (hr : ∀ z, z = x ||| y → Go K rm Z n0 bs ml ret own nm Q kc ks h pc' L (.long z :: S)) : Go K rm Z n0 bs ml ret own nm Q kc ks h pc L (.long y :: .long x :: S) := by
  subst hp
  obtain ⟨p, l, e, s, m, args, below, meth, c⟩ := K
  intro hx hby hml hown hZ hret hlk hnm T locs X hF hh
  obtain ⟨s₂, v, L', st, r⟩ := hr _ rfl hx hby hml hown hZ hret hlk hnm T locs X hF hh
  exact ⟨s₂, v, L', XS.lor X.here hx rfl (hb hby hd) rfl st, r⟩
theorem lorE {x y : Int64} {z : Int64} (hd : decode bs pc = .ok (.lor, 1)) (hp : pc + 1 = pc') (hz : x ||| y = z) (hr : Go K rm Z n0 bs ml ret own nm Q kc ks h pc' L (.long z :: S)) : Go K rm Z n0 bs ml ret own nm Q kc ks h pc L (.long y :: .long x :: S) :=
  lor hd hp fun z' e => by obtain rfl : z' = z := e.trans hz; exact hr
theorem lxor {x y : Int64} (hd : decode bs pc = .ok (.lxor, 1)) (hp : pc + 1 = pc') (hr : ∀ z, z = x ^^^ y → Go K rm Z n0 bs ml ret own nm Q kc ks h pc' L (.long z :: S)) : Go K rm Z n0 bs ml ret own nm Q kc ks h pc L (.long y :: .long x :: S) := by
  subst hp
  obtain ⟨p, l, e, s, m, args, below, meth, c⟩ := K
  intro hx hby hml hown hZ hret hlk hnm T locs X hF hh
  obtain ⟨s₂, v, L', st, r⟩ := hr _ rfl hx hby hml hown hZ hret hlk hnm T locs X hF hh
  exact ⟨s₂, v, L', XS.lxor X.here hx rfl (hb hby hd) rfl st, r⟩
theorem lxorE {x y : Int64} {z : Int64} (hd : decode bs pc = .ok (.lxor, 1)) (hp : pc + 1 = pc') (hz : x ^^^ y = z) (hr : Go K rm Z n0 bs ml ret own nm Q kc ks h pc' L (.long z :: S)) : Go K rm Z n0 bs ml ret own nm Q kc ks h pc L (.long y :: .long x :: S) :=
  lxor hd hp fun z' e => by obtain rfl : z' = z := e.trans hz; exact hr
theorem lshl {x : Int64} {y : Int32} (hd : decode bs pc = .ok (.lshl, 1)) (hp : pc + 1 = pc') (hr : ∀ z, z = x <<< (y &&& 63).toInt64 → Go K rm Z n0 bs ml ret own nm Q kc ks h pc' L (.long z :: S)) : Go K rm Z n0 bs ml ret own nm Q kc ks h pc L (.int y :: .long x :: S) := by
  subst hp
  obtain ⟨p, l, e, s, m, args, below, meth, c⟩ := K
  intro hx hby hml hown hZ hret hlk hnm T locs X hF hh
  obtain ⟨s₂, v, L', st, r⟩ := hr _ rfl hx hby hml hown hZ hret hlk hnm T locs X hF hh
  exact ⟨s₂, v, L', XS.lshl X.here hx rfl (hb hby hd) rfl st, r⟩
theorem lshlE {x : Int64} {y : Int32} {z : Int64} (hd : decode bs pc = .ok (.lshl, 1)) (hp : pc + 1 = pc') (hz : x <<< (y &&& 63).toInt64 = z) (hr : Go K rm Z n0 bs ml ret own nm Q kc ks h pc' L (.long z :: S)) : Go K rm Z n0 bs ml ret own nm Q kc ks h pc L (.int y :: .long x :: S) :=
  lshl hd hp fun z' e => by obtain rfl : z' = z := e.trans hz; exact hr
theorem lshr {x : Int64} {y : Int32} (hd : decode bs pc = .ok (.lshr, 1)) (hp : pc + 1 = pc') (hr : ∀ z, z = x >>> (y &&& 63).toInt64 → Go K rm Z n0 bs ml ret own nm Q kc ks h pc' L (.long z :: S)) : Go K rm Z n0 bs ml ret own nm Q kc ks h pc L (.int y :: .long x :: S) := by
  subst hp
  obtain ⟨p, l, e, s, m, args, below, meth, c⟩ := K
  intro hx hby hml hown hZ hret hlk hnm T locs X hF hh
  obtain ⟨s₂, v, L', st, r⟩ := hr _ rfl hx hby hml hown hZ hret hlk hnm T locs X hF hh
  exact ⟨s₂, v, L', XS.lshr X.here hx rfl (hb hby hd) rfl st, r⟩
theorem lshrE {x : Int64} {y : Int32} {z : Int64} (hd : decode bs pc = .ok (.lshr, 1)) (hp : pc + 1 = pc') (hz : x >>> (y &&& 63).toInt64 = z) (hr : Go K rm Z n0 bs ml ret own nm Q kc ks h pc' L (.long z :: S)) : Go K rm Z n0 bs ml ret own nm Q kc ks h pc L (.int y :: .long x :: S) :=
  lshr hd hp fun z' e => by obtain rfl : z' = z := e.trans hz; exact hr
theorem lushr {x : Int64} {y : Int32} (hd : decode bs pc = .ok (.lushr, 1)) (hp : pc + 1 = pc') (hr : ∀ z, z = Jvm.Own.ushrL x y → Go K rm Z n0 bs ml ret own nm Q kc ks h pc' L (.long z :: S)) : Go K rm Z n0 bs ml ret own nm Q kc ks h pc L (.int y :: .long x :: S) := by
  subst hp
  obtain ⟨p, l, e, s, m, args, below, meth, c⟩ := K
  intro hx hby hml hown hZ hret hlk hnm T locs X hF hh
  obtain ⟨s₂, v, L', st, r⟩ := hr _ rfl hx hby hml hown hZ hret hlk hnm T locs X hF hh
  exact ⟨s₂, v, L', XS.lushr X.here hx rfl (hb hby hd) rfl st, r⟩
theorem lushrE {x : Int64} {y : Int32} {z : Int64} (hd : decode bs pc = .ok (.lushr, 1)) (hp : pc + 1 = pc') (hz : Jvm.Own.ushrL x y = z) (hr : Go K rm Z n0 bs ml ret own nm Q kc ks h pc' L (.long z :: S)) : Go K rm Z n0 bs ml ret own nm Q kc ks h pc L (.int y :: .long x :: S) :=
  lushr hd hp fun z' e => by obtain rfl : z' = z := e.trans hz; exact hr
theorem idiv {x y : Int32} (hd : decode bs pc = .ok (.idiv, 1)) (hy : y ≠ 0) (hp : pc + 1 = pc') (hr : ∀ z, z = x / y → Go K rm Z n0 bs ml ret own nm Q kc ks h pc' L (.int z :: S)) : Go K rm Z n0 bs ml ret own nm Q kc ks h pc L (.int y :: .int x :: S) := by
  subst hp
  obtain ⟨p, l, e, s, m, args, below, meth, c⟩ := K
  intro hx hby hml hown hZ hret hlk hnm T locs X hF hh
  obtain ⟨s₂, v, L', st, r⟩ := hr _ rfl hx hby hml hown hZ hret hlk hnm T locs X hF hh
  exact ⟨s₂, v, L', XS.idiv X.here hx rfl (hb hby hd) rfl hy st, r⟩
theorem idivE {x y : Int32} {z : Int32} (hd : decode bs pc = .ok (.idiv, 1)) (hy : y ≠ 0) (hp : pc + 1 = pc') (hz : x / y = z) (hr : Go K rm Z n0 bs ml ret own nm Q kc ks h pc' L (.int z :: S)) : Go K rm Z n0 bs ml ret own nm Q kc ks h pc L (.int y :: .int x :: S) :=
  idiv hd hy hp fun z' e => by obtain rfl : z' = z := e.trans hz; exact hr
theorem irem {x y : Int32} (hd : decode bs pc = .ok (.irem, 1)) (hy : y ≠ 0) (hp : pc + 1 = pc') (hr : ∀ z, z = x % y → Go K rm Z n0 bs ml ret own nm Q kc ks h pc' L (.int z :: S)) : Go K rm Z n0 bs ml ret own nm Q kc ks h pc L (.int y :: .int x :: S) := by
  subst hp
  obtain ⟨p, l, e, s, m, args, below, meth, c⟩ := K
  intro hx hby hml hown hZ hret hlk hnm T locs X hF hh
  obtain ⟨s₂, v, L', st, r⟩ := hr _ rfl hx hby hml hown hZ hret hlk hnm T locs X hF hh
  exact ⟨s₂, v, L', iremM X hx rfl (hb hby hd) rfl hy st, r⟩
theorem iremE {x y : Int32} {z : Int32} (hd : decode bs pc = .ok (.irem, 1)) (hy : y ≠ 0) (hp : pc + 1 = pc') (hz : x % y = z) (hr : Go K rm Z n0 bs ml ret own nm Q kc ks h pc' L (.int z :: S)) : Go K rm Z n0 bs ml ret own nm Q kc ks h pc L (.int y :: .int x :: S) :=
  irem hd hy hp fun z' e => by obtain rfl : z' = z := e.trans hz; exact hr
theorem ldiv {x y : Int64} (hd : decode bs pc = .ok (.ldiv, 1)) (hy : y ≠ 0) (hp : pc + 1 = pc') (hr : ∀ z, z = x / y → Go K rm Z n0 bs ml ret own nm Q kc ks h pc' L (.long z :: S)) : Go K rm Z n0 bs ml ret own nm Q kc ks h pc L (.long y :: .long x :: S) := by
  subst hp
  obtain ⟨p, l, e, s, m, args, below, meth, c⟩ := K
  intro hx hby hml hown hZ hret hlk hnm T locs X hF hh
  obtain ⟨s₂, v, L', st, r⟩ := hr _ rfl hx hby hml hown hZ hret hlk hnm T locs X hF hh
  exact ⟨s₂, v, L', XS.ldiv X.here hx rfl (hb hby hd) rfl hy st, r⟩
theorem ldivE {x y : Int64} {z : Int64} (hd : decode bs pc = .ok (.ldiv, 1)) (hy : y ≠ 0) (hp : pc + 1 = pc') (hz : x / y = z) (hr : Go K rm Z n0 bs ml ret own nm Q kc ks h pc' L (.long z :: S)) : Go K rm Z n0 bs ml ret own nm Q kc ks h pc L (.long y :: .long x :: S) :=
  ldiv hd hy hp fun z' e => by obtain rfl : z' = z := e.trans hz; exact hr
theorem lrem {x y : Int64} (hd : decode bs pc = .ok (.lrem, 1)) (hy : y ≠ 0) (hp : pc + 1 = pc') (hr : ∀ z, z = x - (x / y) * y → Go K rm Z n0 bs ml ret own nm Q kc ks h pc' L (.long z :: S)) : Go K rm Z n0 bs ml ret own nm Q kc ks h pc L (.long y :: .long x :: S) := by
  subst hp
  obtain ⟨p, l, e, s, m, args, below, meth, c⟩ := K
  intro hx hby hml hown hZ hret hlk hnm T locs X hF hh
  obtain ⟨s₂, v, L', st, r⟩ := hr _ rfl hx hby hml hown hZ hret hlk hnm T locs X hF hh
  exact ⟨s₂, v, L', XS.lrem X.here hx rfl (hb hby hd) rfl hy st, r⟩
theorem lremE {x y : Int64} {z : Int64} (hd : decode bs pc = .ok (.lrem, 1)) (hy : y ≠ 0) (hp : pc + 1 = pc') (hz : x - (x / y) * y = z) (hr : Go K rm Z n0 bs ml ret own nm Q kc ks h pc' L (.long z :: S)) : Go K rm Z n0 bs ml ret own nm Q kc ks h pc L (.long y :: .long x :: S) :=
  lrem hd hy hp fun z' e => by obtain rfl : z' = z := e.trans hz; exact hr
theorem ineg {x : Int32} (hd : decode bs pc = .ok (.ineg, 1)) (hp : pc + 1 = pc') (hr : ∀ z, z = -x → Go K rm Z n0 bs ml ret own nm Q kc ks h pc' L (.int z :: S)) : Go K rm Z n0 bs ml ret own nm Q kc ks h pc L (.int x :: S) := by
  subst hp
  obtain ⟨p, l, e, s, m, args, below, meth, c⟩ := K
  intro hx hby hml hown hZ hret hlk hnm T locs X hF hh
  obtain ⟨s₂, v, L', st, r⟩ := hr _ rfl hx hby hml hown hZ hret hlk hnm T locs X hF hh
  exact ⟨s₂, v, L', XS.ineg X.here hx rfl (hb hby hd) rfl st, r⟩
theorem inegE {x : Int32} {z : Int32} (hd : decode bs pc = .ok (.ineg, 1)) (hp : pc + 1 = pc') (hz : -x = z) (hr : Go K rm Z n0 bs ml ret own nm Q kc ks h pc' L (.int z :: S)) : Go K rm Z n0 bs ml ret own nm Q kc ks h pc L (.int x :: S) :=
  ineg hd hp fun z' e => by obtain rfl : z' = z := e.trans hz; exact hr
theorem lneg {x : Int64} (hd : decode bs pc = .ok (.lneg, 1)) (hp : pc + 1 = pc') (hr : ∀ z, z = -x → Go K rm Z n0 bs ml ret own nm Q kc ks h pc' L (.long z :: S)) : Go K rm Z n0 bs ml ret own nm Q kc ks h pc L (.long x :: S) := by
  subst hp
  obtain ⟨p, l, e, s, m, args, below, meth, c⟩ := K
  intro hx hby hml hown hZ hret hlk hnm T locs X hF hh
  obtain ⟨s₂, v, L', st, r⟩ := hr _ rfl hx hby hml hown hZ hret hlk hnm T locs X hF hh
  exact ⟨s₂, v, L', XS.lneg X.here hx rfl (hb hby hd) rfl st, r⟩
theorem lnegE {x : Int64} {z : Int64} (hd : decode bs pc = .ok (.lneg, 1)) (hp : pc + 1 = pc') (hz : -x = z) (hr : Go K rm Z n0 bs ml ret own nm Q kc ks h pc' L (.long z :: S)) : Go K rm Z n0 bs ml ret own nm Q kc ks h pc L (.long x :: S) :=
  lneg hd hp fun z' e => by obtain rfl : z' = z := e.trans hz; exact hr
theorem i2l {x : Int32} (hd : decode bs pc = .ok (.i2l, 1)) (hp : pc + 1 = pc') (hr : ∀ z, z = x.toInt64 → Go K rm Z n0 bs ml ret own nm Q kc ks h pc' L (.long z :: S)) : Go K rm Z n0 bs ml ret own nm Q kc ks h pc L (.int x :: S) := by
  subst hp
  obtain ⟨p, l, e, s, m, args, below, meth, c⟩ := K
  intro hx hby hml hown hZ hret hlk hnm T locs X hF hh
  obtain ⟨s₂, v, L', st, r⟩ := hr _ rfl hx hby hml hown hZ hret hlk hnm T locs X hF hh
  exact ⟨s₂, v, L', XS.i2l X.here hx rfl (hb hby hd) rfl st, r⟩
theorem i2lE {x : Int32} {z : Int64} (hd : decode bs pc = .ok (.i2l, 1)) (hp : pc + 1 = pc') (hz : x.toInt64 = z) (hr : Go K rm Z n0 bs ml ret own nm Q kc ks h pc' L (.long z :: S)) : Go K rm Z n0 bs ml ret own nm Q kc ks h pc L (.int x :: S) :=
  i2l hd hp fun z' e => by obtain rfl : z' = z := e.trans hz; exact hr
theorem l2i {x : Int64} (hd : decode bs pc = .ok (.l2i, 1)) (hp : pc + 1 = pc') (hr : ∀ z, z = x.toInt32 → Go K rm Z n0 bs ml ret own nm Q kc ks h pc' L (.int z :: S)) : Go K rm Z n0 bs ml ret own nm Q kc ks h pc L (.long x :: S) := by
  subst hp
  obtain ⟨p, l, e, s, m, args, below, meth, c⟩ := K
  intro hx hby hml hown hZ hret hlk hnm T locs X hF hh
  obtain ⟨s₂, v, L', st, r⟩ := hr _ rfl hx hby hml hown hZ hret hlk hnm T locs X hF hh
  exact ⟨s₂, v, L', XS.l2i X.here hx rfl (hb hby hd) rfl st, r⟩
theorem l2iE {x : Int64} {z : Int32} (hd : decode bs pc = .ok (.l2i, 1)) (hp : pc + 1 = pc') (hz : x.toInt32 = z) (hr : Go K rm Z n0 bs ml ret own nm Q kc ks h pc' L (.int z :: S)) : Go K rm Z n0 bs ml ret own nm Q kc ks h pc L (.long x :: S) :=
  l2i hd hp fun z' e => by obtain rfl : z' = z := e.trans hz; exact hr
theorem i2b {x : Int32} (hd : decode bs pc = .ok (.i2b, 1)) (hp : pc + 1 = pc') (hr : ∀ z, z = x.toInt8.toInt32 → Go K rm Z n0 bs ml ret own nm Q kc ks h pc' L (.int z :: S)) : Go K rm Z n0 bs ml ret own nm Q kc ks h pc L (.int x :: S) := by
  subst hp
  obtain ⟨p, l, e, s, m, args, below, meth, c⟩ := K
  intro hx hby hml hown hZ hret hlk hnm T locs X hF hh
  obtain ⟨s₂, v, L', st, r⟩ := hr _ rfl hx hby hml hown hZ hret hlk hnm T locs X hF hh
  exact ⟨s₂, v, L', XS.i2b X.here hx rfl (hb hby hd) rfl st, r⟩
theorem i2bE {x : Int32} {z : Int32} (hd : decode bs pc = .ok (.i2b, 1)) (hp : pc + 1 = pc') (hz : x.toInt8.toInt32 = z) (hr : Go K rm Z n0 bs ml ret own nm Q kc ks h pc' L (.int z :: S)) : Go K rm Z n0 bs ml ret own nm Q kc ks h pc L (.int x :: S) :=
  i2b hd hp fun z' e => by obtain rfl : z' = z := e.trans hz; exact hr
theorem i2c {x : Int32} (hd : decode bs pc = .ok (.i2c, 1)) (hp : pc + 1 = pc') (hr : ∀ z, z = x.toUInt32.toUInt16.toUInt32.toInt32 → Go K rm Z n0 bs ml ret own nm Q kc ks h pc' L (.int z :: S)) : Go K rm Z n0 bs ml ret own nm Q kc ks h pc L (.int x :: S) := by
  subst hp
  obtain ⟨p, l, e, s, m, args, below, meth, c⟩ := K
  intro hx hby hml hown hZ hret hlk hnm T locs X hF hh
  obtain ⟨s₂, v, L', st, r⟩ := hr _ rfl hx hby hml hown hZ hret hlk hnm T locs X hF hh
  exact ⟨s₂, v, L', XS.i2c X.here hx rfl (hb hby hd) rfl st, r⟩
theorem i2cE {x : Int32} {z : Int32} (hd : decode bs pc = .ok (.i2c, 1)) (hp : pc + 1 = pc') (hz : x.toUInt32.toUInt16.toUInt32.toInt32 = z) (hr : Go K rm Z n0 bs ml ret own nm Q kc ks h pc' L (.int z :: S)) : Go K rm Z n0 bs ml ret own nm Q kc ks h pc L (.int x :: S) :=
  i2c hd hp fun z' e => by obtain rfl : z' = z := e.trans hz; exact hr
theorem iinc {k : Nat} {i : Int} {x : Int32} {L1 : Int32 → Array Slot} (hd : decode bs pc = .ok (.iinc k i, 3)) (hl : L[k]? = some (.val (.int x))) (hl1 : ∀ z : Int32, storeLocals L k (.int z) = some (L1 z)) (hp : pc + 3 = pc') (hr : ∀ z, z = x + Int32.ofInt i → Go K rm Z n0 bs ml ret own nm Q kc ks h pc' (L1 z) S) : Go K rm Z n0 bs ml ret own nm Q kc ks h pc L S := by
  subst hp
  obtain ⟨p, l, e, s, m, args, below, meth, c⟩ := K
  intro hx hby hml hown hZ hret hlk hnm T locs X hF hh
  obtain ⟨s₂, v, L', st, r⟩ := hr _ rfl hx hby hml hown hZ hret hlk hnm T locs X hF hh
  exact ⟨s₂, v, L', XS.iinc X.here hx rfl (hb hby hd) hl (hl1 _) st, r⟩
theorem iincE {k : Nat} {i : Int} {x : Int32} {L1 : Int32 → Array Slot} {z : Int32} (hd : decode bs pc = .ok (.iinc k i, 3)) (hl : L[k]? = some (.val (.int x))) (hl1 : ∀ z : Int32, storeLocals L k (.int z) = some (L1 z)) (hp : pc + 3 = pc') (hz : x + Int32.ofInt i = z) (hr : Go K rm Z n0 bs ml ret own nm Q kc ks h pc' (L1 z) S) : Go K rm Z n0 bs ml ret own nm Q kc ks h pc L S :=
  iinc hd hl hl1 hp fun z' e => by obtain rfl : z' = z := e.trans hz; exact hr
theorem dup {x : Value} (hd : decode bs pc = .ok (.dup, 1)) (hc : x.category = 1) (hp : pc + 1 = pc') (hr : Go K rm Z n0 bs ml ret own nm Q kc ks h pc' L (x :: x :: S)) : Go K rm Z n0 bs ml ret own nm Q kc ks h pc L (x :: S) := by
  subst hp
  obtain ⟨p, l, e, s, m, args, below, meth, c⟩ := K
  intro hx hby hml hown hZ hret hlk hnm T locs X hF hh
  obtain ⟨s₂, v, L', st, r⟩ := hr hx hby hml hown hZ hret hlk hnm T locs X hF hh
  exact ⟨s₂, v, L', XS.dup X.here hx rfl (hb hby hd) rfl hc st, r⟩
theorem pop {x : Value} (hd : decode bs pc = .ok (.pop, 1)) (hc : x.category = 1) (hp : pc + 1 = pc') (hr : Go K rm Z n0 bs ml ret own nm Q kc ks h pc' L S) : Go K rm Z n0 bs ml ret own nm Q kc ks h pc L (x :: S) := by
  subst hp
  obtain ⟨p, l, e, s, m, args, below, meth, c⟩ := K
  intro hx hby hml hown hZ hret hlk hnm T locs X hF hh
  obtain ⟨s₂, v, L', st, r⟩ := hr hx hby hml hown hZ hret hlk hnm T locs X hF hh
  exact ⟨s₂, v, L', XS.pop X.here hx rfl (hb hby hd) rfl hc st, r⟩
theorem dup2 {x y : Value} (hd : decode bs pc = .ok (.dup2, 1)) (hc : x.category = 1) (hc2 : y.category = 1) (hp : pc + 1 = pc') (hr : Go K rm Z n0 bs ml ret own nm Q kc ks h pc' L (x :: y :: x :: y :: S)) : Go K rm Z n0 bs ml ret own nm Q kc ks h pc L (x :: y :: S) := by
  subst hp
  obtain ⟨p, l, e, s, m, args, below, meth, c⟩ := K
  intro hx hby hml hown hZ hret hlk hnm T locs X hF hh
  obtain ⟨s₂, v, L', st, r⟩ := hr hx hby hml hown hZ hret hlk hnm T locs X hF hh
  exact ⟨s₂, v, L', Jvm.Free.XT.dup2 X.here hx rfl (hb hby hd) rfl hc hc2 st, r⟩
theorem dupX1 {x y : Value} (hd : decode bs pc = .ok (.dup_x1, 1)) (hc : x.category = 1) (hc2 : y.category = 1) (hp : pc + 1 = pc') (hr : Go K rm Z n0 bs ml ret own nm Q kc ks h pc' L (x :: y :: x :: S)) : Go K rm Z n0 bs ml ret own nm Q kc ks h pc L (x :: y :: S) := by
  subst hp
  obtain ⟨p, l, e, s, m, args, below, meth, c⟩ := K
  intro hx hby hml hown hZ hret hlk hnm T locs X hF hh
  obtain ⟨s₂, v, L', st, r⟩ := hr hx hby hml hown hZ hret hlk hnm T locs X hF hh
  exact ⟨s₂, v, L', XS.dupX1 X.here hx rfl (hb hby hd) rfl hc hc2 st, r⟩
theorem acmp {o : Int} {cd : ACond} {x y : Value} {same : Bool} (hd : decode bs pc = .ok (.if_acmp cd o, 3)) (h1 : x.isRef = true) (h2 : y.isRef = true) (hq : decide (x = y) = same) (ho : 0 ≤ (pc : Int) + o) (hp : pc' = if Jvm.RoadKit.acV cd same = true then ((pc : Int) + o).toNat else pc + 3) (hr : Go K rm Z n0 bs ml ret own nm Q kc ks h pc' L S) : Go K rm Z n0 bs ml ret own nm Q kc ks h pc L (y :: x :: S) := by
  obtain ⟨p, l, e, s, m, args, below, meth, c⟩ := K
  intro hx hby hml hown hZ hret hlk hnm T locs X hF hh
  obtain ⟨s₂, v, L', st, r⟩ := hr hx hby hml hown hZ hret hlk hnm T locs X hF hh
  exact ⟨s₂, v, L', Jvm.RoadKit.acmp X hx rfl h1 h2 (pc0 := pc) (pc' := pc') rfl (hb hby hd) rfl hq ho hp st, r⟩
theorem goto {o : Int} (hd : decode bs pc = .ok (.goto o, 3)) (ho : 0 ≤ (pc : Int) + o) (hp : ((pc : Int) + o).toNat = pc') (hr : Go K rm Z n0 bs ml ret own nm Q kc ks h pc' L S) : Go K rm Z n0 bs ml ret own nm Q kc ks h pc L S := by
  obtain ⟨p, l, e, s, m, args, below, meth, c⟩ := K
  intro hx hby hml hown hZ hret hlk hnm T locs X hF hh
  obtain ⟨s₂, v, L', st, r⟩ := hr hx hby hml hown hZ hret hlk hnm T locs X hF hh
  exact ⟨s₂, v, L', XS.goto X.here hx rfl (pc0 := pc) (pc' := pc') rfl (hb hby hd) ho hp st, r⟩
theorem holds_iff (cd : ClassFile.Cond) (x y : Int32) : if_icmp.holds cd x y = true ↔ (match cd with | .lt => x.toInt < y.toInt | .ge => y.toInt ≤ x.toInt | .gt => y.toInt < x.toInt | .le => x.toInt ≤ y.toInt | .eq => x = y | .ne => x ≠ y) := by
  cases cd <;> simp [if_icmp.holds, Int32.lt_iff_toInt_lt, Int32.le_iff_toInt_le]
theorem icmp_lt {x y : Int32} {o : Int} {pc2 : Nat} (hd : decode bs pc = .ok (.if_icmp .lt o, 3)) (ho : 0 ≤ (pc : Int) + o) (hp : ((pc : Int) + o).toNat = pc') (hp2 : pc + 3 = pc2)
    (hy : x.toInt < y.toInt → Go K rm Z n0 bs ml ret own nm Q kc ks h pc' L S) (hn : ¬ (x.toInt < y.toInt) → Go K rm Z n0 bs ml ret own nm Q kc ks h pc2 L S) : Go K rm Z n0 bs ml ret own nm Q kc ks h pc L (.int y :: .int x :: S) := by
  subst hp2
  by_cases q : x.toInt < y.toInt
  · have q2 := (holds_iff .lt x y).mpr q
    replace hy := hy q
    obtain ⟨p, l, e, s, m, args, below, meth, c⟩ := K
    intro hx hby hml hown hZ hret hlk hnm T locs X hF hh
    obtain ⟨s₂, v, L', st, r⟩ := hy hx hby hml hown hZ hret hlk hnm T locs X hF hh
    exact ⟨s₂, v, L', XS.icmpYes X.here hx rfl (pc0 := pc) (pc' := pc') rfl (hb hby hd) rfl q2 ho hp st, r⟩
  · have q2 : if_icmp.holds .lt x y = false := by rw [← Bool.not_eq_true]; exact fun t => q ((holds_iff .lt x y).mp t)
    replace hn := hn q
    obtain ⟨p, l, e, s, m, args, below, meth, c⟩ := K
    intro hx hby hml hown hZ hret hlk hnm T locs X hF hh
    obtain ⟨s₂, v, L', st, r⟩ := hn hx hby hml hown hZ hret hlk hnm T locs X hF hh
    exact ⟨s₂, v, L', XS.icmpNo X.here hx rfl (hb hby hd) rfl q2 st, r⟩
theorem icmp_ge {x y : Int32} {o : Int} {pc2 : Nat} (hd : decode bs pc = .ok (.if_icmp .ge o, 3)) (ho : 0 ≤ (pc : Int) + o) (hp : ((pc : Int) + o).toNat = pc') (hp2 : pc + 3 = pc2)
    (hy : y.toInt ≤ x.toInt → Go K rm Z n0 bs ml ret own nm Q kc ks h pc' L S) (hn : ¬ (y.toInt ≤ x.toInt) → Go K rm Z n0 bs ml ret own nm Q kc ks h pc2 L S) : Go K rm Z n0 bs ml ret own nm Q kc ks h pc L (.int y :: .int x :: S) := by
  subst hp2
  by_cases q : y.toInt ≤ x.toInt
  · have q2 := (holds_iff .ge x y).mpr q
    replace hy := hy q
    obtain ⟨p, l, e, s, m, args, below, meth, c⟩ := K
    intro hx hby hml hown hZ hret hlk hnm T locs X hF hh
    obtain ⟨s₂, v, L', st, r⟩ := hy hx hby hml hown hZ hret hlk hnm T locs X hF hh
    exact ⟨s₂, v, L', XS.icmpYes X.here hx rfl (pc0 := pc) (pc' := pc') rfl (hb hby hd) rfl q2 ho hp st, r⟩
  · have q2 : if_icmp.holds .ge x y = false := by rw [← Bool.not_eq_true]; exact fun t => q ((holds_iff .ge x y).mp t)
    replace hn := hn q
    obtain ⟨p, l, e, s, m, args, below, meth, c⟩ := K
    intro hx hby hml hown hZ hret hlk hnm T locs X hF hh
    obtain ⟨s₂, v, L', st, r⟩ := hn hx hby hml hown hZ hret hlk hnm T locs X hF hh
    exact ⟨s₂, v, L', XS.icmpNo X.here hx rfl (hb hby hd) rfl q2 st, r⟩
theorem icmp_gt {x y : Int32} {o : Int} {pc2 : Nat} (hd : decode bs pc = .ok (.if_icmp .gt o, 3)) (ho : 0 ≤ (pc : Int) + o) (hp : ((pc : Int) + o).toNat = pc') (hp2 : pc + 3 = pc2)
    (hy : y.toInt < x.toInt → Go K rm Z n0 bs ml ret own nm Q kc ks h pc' L S) (hn : ¬ (y.toInt < x.toInt) → Go K rm Z n0 bs ml ret own nm Q kc ks h pc2 L S) : Go K rm Z n0 bs ml ret own nm Q kc ks h pc L (.int y :: .int x :: S) := by
  subst hp2
  by_cases q : y.toInt < x.toInt
  · have q2 := (holds_iff .gt x y).mpr q
    replace hy := hy q
    obtain ⟨p, l, e, s, m, args, below, meth, c⟩ := K
    intro hx hby hml hown hZ hret hlk hnm T locs X hF hh
    obtain ⟨s₂, v, L', st, r⟩ := hy hx hby hml hown hZ hret hlk hnm T locs X hF hh
    exact ⟨s₂, v, L', XS.icmpYes X.here hx rfl (pc0 := pc) (pc' := pc') rfl (hb hby hd) rfl q2 ho hp st, r⟩
  · have q2 : if_icmp.holds .gt x y = false := by rw [← Bool.not_eq_true]; exact fun t => q ((holds_iff .gt x y).mp t)
    replace hn := hn q
    obtain ⟨p, l, e, s, m, args, below, meth, c⟩ := K
    intro hx hby hml hown hZ hret hlk hnm T locs X hF hh
    obtain ⟨s₂, v, L', st, r⟩ := hn hx hby hml hown hZ hret hlk hnm T locs X hF hh
    exact ⟨s₂, v, L', XS.icmpNo X.here hx rfl (hb hby hd) rfl q2 st, r⟩
theorem icmp_le {x y : Int32} {o : Int} {pc2 : Nat} (hd : decode bs pc = .ok (.if_icmp .le o, 3)) (ho : 0 ≤ (pc : Int) + o) (hp : ((pc : Int) + o).toNat = pc') (hp2 : pc + 3 = pc2)
    (hy : x.toInt ≤ y.toInt → Go K rm Z n0 bs ml ret own nm Q kc ks h pc' L S) (hn : ¬ (x.toInt ≤ y.toInt) → Go K rm Z n0 bs ml ret own nm Q kc ks h pc2 L S) : Go K rm Z n0 bs ml ret own nm Q kc ks h pc L (.int y :: .int x :: S) := by
  subst hp2
  by_cases q : x.toInt ≤ y.toInt
  · have q2 := (holds_iff .le x y).mpr q
    replace hy := hy q
    obtain ⟨p, l, e, s, m, args, below, meth, c⟩ := K
    intro hx hby hml hown hZ hret hlk hnm T locs X hF hh
    obtain ⟨s₂, v, L', st, r⟩ := hy hx hby hml hown hZ hret hlk hnm T locs X hF hh
    exact ⟨s₂, v, L', XS.icmpYes X.here hx rfl (pc0 := pc) (pc' := pc') rfl (hb hby hd) rfl q2 ho hp st, r⟩
  · have q2 : if_icmp.holds .le x y = false := by rw [← Bool.not_eq_true]; exact fun t => q ((holds_iff .le x y).mp t)
    replace hn := hn q
    obtain ⟨p, l, e, s, m, args, below, meth, c⟩ := K
    intro hx hby hml hown hZ hret hlk hnm T locs X hF hh
    obtain ⟨s₂, v, L', st, r⟩ := hn hx hby hml hown hZ hret hlk hnm T locs X hF hh
    exact ⟨s₂, v, L', XS.icmpNo X.here hx rfl (hb hby hd) rfl q2 st, r⟩
theorem icmp_eq {x y : Int32} {o : Int} {pc2 : Nat} (hd : decode bs pc = .ok (.if_icmp .eq o, 3)) (ho : 0 ≤ (pc : Int) + o) (hp : ((pc : Int) + o).toNat = pc') (hp2 : pc + 3 = pc2)
    (hy : x = y → Go K rm Z n0 bs ml ret own nm Q kc ks h pc' L S) (hn : ¬ (x = y) → Go K rm Z n0 bs ml ret own nm Q kc ks h pc2 L S) : Go K rm Z n0 bs ml ret own nm Q kc ks h pc L (.int y :: .int x :: S) := by
  subst hp2
  by_cases q : x = y
  · have q2 := (holds_iff .eq x y).mpr q
    replace hy := hy q
    obtain ⟨p, l, e, s, m, args, below, meth, c⟩ := K
    intro hx hby hml hown hZ hret hlk hnm T locs X hF hh
    obtain ⟨s₂, v, L', st, r⟩ := hy hx hby hml hown hZ hret hlk hnm T locs X hF hh
    exact ⟨s₂, v, L', XS.icmpYes X.here hx rfl (pc0 := pc) (pc' := pc') rfl (hb hby hd) rfl q2 ho hp st, r⟩
  · have q2 : if_icmp.holds .eq x y = false := by rw [← Bool.not_eq_true]; exact fun t => q ((holds_iff .eq x y).mp t)
    replace hn := hn q
    obtain ⟨p, l, e, s, m, args, below, meth, c⟩ := K
    intro hx hby hml hown hZ hret hlk hnm T locs X hF hh
    obtain ⟨s₂, v, L', st, r⟩ := hn hx hby hml hown hZ hret hlk hnm T locs X hF hh
    exact ⟨s₂, v, L', XS.icmpNo X.here hx rfl (hb hby hd) rfl q2 st, r⟩
theorem icmp_ne {x y : Int32} {o : Int} {pc2 : Nat} (hd : decode bs pc = .ok (.if_icmp .ne o, 3)) (ho : 0 ≤ (pc : Int) + o) (hp : ((pc : Int) + o).toNat = pc') (hp2 : pc + 3 = pc2)
    (hy : x ≠ y → Go K rm Z n0 bs ml ret own nm Q kc ks h pc' L S) (hn : ¬ (x ≠ y) → Go K rm Z n0 bs ml ret own nm Q kc ks h pc2 L S) : Go K rm Z n0 bs ml ret own nm Q kc ks h pc L (.int y :: .int x :: S) := by
  subst hp2
  by_cases q : x ≠ y
  · have q2 := (holds_iff .ne x y).mpr q
    replace hy := hy q
    obtain ⟨p, l, e, s, m, args, below, meth, c⟩ := K
    intro hx hby hml hown hZ hret hlk hnm T locs X hF hh
    obtain ⟨s₂, v, L', st, r⟩ := hy hx hby hml hown hZ hret hlk hnm T locs X hF hh
    exact ⟨s₂, v, L', XS.icmpYes X.here hx rfl (pc0 := pc) (pc' := pc') rfl (hb hby hd) rfl q2 ho hp st, r⟩
  · have q2 : if_icmp.holds .ne x y = false := by rw [← Bool.not_eq_true]; exact fun t => q ((holds_iff .ne x y).mp t)
    replace hn := hn q
    obtain ⟨p, l, e, s, m, args, below, meth, c⟩ := K
    intro hx hby hml hown hZ hret hlk hnm T locs X hF hh
    obtain ⟨s₂, v, L', st, r⟩ := hn hx hby hml hown hZ hret hlk hnm T locs X hF hh
    exact ⟨s₂, v, L', XS.icmpNo X.here hx rfl (hb hby hd) rfl q2 st, r⟩
theorem if_lt {x : Int32} {o : Int} {pc2 : Nat} (hd : decode bs pc = .ok (.ifCond .lt o, 3)) (ho : 0 ≤ (pc : Int) + o) (hp : ((pc : Int) + o).toNat = pc') (hp2 : pc + 3 = pc2)
    (hy : x.toInt < 0 → Go K rm Z n0 bs ml ret own nm Q kc ks h pc' L S) (hn : ¬ (x.toInt < 0) → Go K rm Z n0 bs ml ret own nm Q kc ks h pc2 L S) : Go K rm Z n0 bs ml ret own nm Q kc ks h pc L (.int x :: S) := by
  subst hp2
  by_cases q : x.toInt < 0
  · have q2 : ifCond.holds .lt x = true := (if0 _ _).trans ((holds_iff .lt x 0).mpr (by simpa using q))
    replace hy := hy q
    obtain ⟨p, l, e, s, m, args, below, meth, c⟩ := K
    intro hx hby hml hown hZ hret hlk hnm T locs X hF hh
    obtain ⟨s₂, v, L', st, r⟩ := hy hx hby hml hown hZ hret hlk hnm T locs X hF hh
    exact ⟨s₂, v, L', XS.ifYes X.here hx rfl (pc0 := pc) (pc' := pc') rfl (hb hby hd) rfl q2 ho hp st, r⟩
  · have q2 : ifCond.holds .lt x = false := by rw [← Bool.not_eq_true, if0]; exact fun t => q (by simpa using (holds_iff .lt x 0).mp t)
    replace hn := hn q
    obtain ⟨p, l, e, s, m, args, below, meth, c⟩ := K
    intro hx hby hml hown hZ hret hlk hnm T locs X hF hh
    obtain ⟨s₂, v, L', st, r⟩ := hn hx hby hml hown hZ hret hlk hnm T locs X hF hh
    exact ⟨s₂, v, L', XS.ifNo X.here hx rfl (hb hby hd) rfl q2 st, r⟩
theorem if_ge {x : Int32} {o : Int} {pc2 : Nat} (hd : decode bs pc = .ok (.ifCond .ge o, 3)) (ho : 0 ≤ (pc : Int) + o) (hp : ((pc : Int) + o).toNat = pc') (hp2 : pc + 3 = pc2)
    (hy : 0 ≤ x.toInt → Go K rm Z n0 bs ml ret own nm Q kc ks h pc' L S) (hn : ¬ (0 ≤ x.toInt) → Go K rm Z n0 bs ml ret own nm Q kc ks h pc2 L S) : Go K rm Z n0 bs ml ret own nm Q kc ks h pc L (.int x :: S) := by
  subst hp2
  by_cases q : 0 ≤ x.toInt
  · have q2 : ifCond.holds .ge x = true := (if0 _ _).trans ((holds_iff .ge x 0).mpr (by simpa using q))
    replace hy := hy q
    obtain ⟨p, l, e, s, m, args, below, meth, c⟩ := K
    intro hx hby hml hown hZ hret hlk hnm T locs X hF hh
    obtain ⟨s₂, v, L', st, r⟩ := hy hx hby hml hown hZ hret hlk hnm T locs X hF hh
    exact ⟨s₂, v, L', XS.ifYes X.here hx rfl (pc0 := pc) (pc' := pc') rfl (hb hby hd) rfl q2 ho hp st, r⟩
  · have q2 : ifCond.holds .ge x = false := by rw [← Bool.not_eq_true, if0]; exact fun t => q (by simpa using (holds_iff .ge x 0).mp t)
    replace hn := hn q
    obtain ⟨p, l, e, s, m, args, below, meth, c⟩ := K
    intro hx hby hml hown hZ hret hlk hnm T locs X hF hh
    obtain ⟨s₂, v, L', st, r⟩ := hn hx hby hml hown hZ hret hlk hnm T locs X hF hh
    exact ⟨s₂, v, L', XS.ifNo X.here hx rfl (hb hby hd) rfl q2 st, r⟩
theorem if_gt {x : Int32} {o : Int} {pc2 : Nat} (hd : decode bs pc = .ok (.ifCond .gt o, 3)) (ho : 0 ≤ (pc : Int) + o) (hp : ((pc : Int) + o).toNat = pc') (hp2 : pc + 3 = pc2)
    (hy : 0 < x.toInt → Go K rm Z n0 bs ml ret own nm Q kc ks h pc' L S) (hn : ¬ (0 < x.toInt) → Go K rm Z n0 bs ml ret own nm Q kc ks h pc2 L S) : Go K rm Z n0 bs ml ret own nm Q kc ks h pc L (.int x :: S) := by
  subst hp2
  by_cases q : 0 < x.toInt
  · have q2 : ifCond.holds .gt x = true := (if0 _ _).trans ((holds_iff .gt x 0).mpr (by simpa using q))
    replace hy := hy q
    obtain ⟨p, l, e, s, m, args, below, meth, c⟩ := K
    intro hx hby hml hown hZ hret hlk hnm T locs X hF hh
    obtain ⟨s₂, v, L', st, r⟩ := hy hx hby hml hown hZ hret hlk hnm T locs X hF hh
    exact ⟨s₂, v, L', XS.ifYes X.here hx rfl (pc0 := pc) (pc' := pc') rfl (hb hby hd) rfl q2 ho hp st, r⟩
  · have q2 : ifCond.holds .gt x = false := by rw [← Bool.not_eq_true, if0]; exact fun t => q (by simpa using (holds_iff .gt x 0).mp t)
    replace hn := hn q
    obtain ⟨p, l, e, s, m, args, below, meth, c⟩ := K
    intro hx hby hml hown hZ hret hlk hnm T locs X hF hh
    obtain ⟨s₂, v, L', st, r⟩ := hn hx hby hml hown hZ hret hlk hnm T locs X hF hh
    exact ⟨s₂, v, L', XS.ifNo X.here hx rfl (hb hby hd) rfl q2 st, r⟩
theorem if_le {x : Int32} {o : Int} {pc2 : Nat} (hd : decode bs pc = .ok (.ifCond .le o, 3)) (ho : 0 ≤ (pc : Int) + o) (hp : ((pc : Int) + o).toNat = pc') (hp2 : pc + 3 = pc2)
    (hy : x.toInt ≤ 0 → Go K rm Z n0 bs ml ret own nm Q kc ks h pc' L S) (hn : ¬ (x.toInt ≤ 0) → Go K rm Z n0 bs ml ret own nm Q kc ks h pc2 L S) : Go K rm Z n0 bs ml ret own nm Q kc ks h pc L (.int x :: S) := by
  subst hp2
  by_cases q : x.toInt ≤ 0
  · have q2 : ifCond.holds .le x = true := (if0 _ _).trans ((holds_iff .le x 0).mpr (by simpa using q))
    replace hy := hy q
    obtain ⟨p, l, e, s, m, args, below, meth, c⟩ := K
    intro hx hby hml hown hZ hret hlk hnm T locs X hF hh
    obtain ⟨s₂, v, L', st, r⟩ := hy hx hby hml hown hZ hret hlk hnm T locs X hF hh
    exact ⟨s₂, v, L', XS.ifYes X.here hx rfl (pc0 := pc) (pc' := pc') rfl (hb hby hd) rfl q2 ho hp st, r⟩
  · have q2 : ifCond.holds .le x = false := by rw [← Bool.not_eq_true, if0]; exact fun t => q (by simpa using (holds_iff .le x 0).mp t)
    replace hn := hn q
    obtain ⟨p, l, e, s, m, args, below, meth, c⟩ := K
    intro hx hby hml hown hZ hret hlk hnm T locs X hF hh
    obtain ⟨s₂, v, L', st, r⟩ := hn hx hby hml hown hZ hret hlk hnm T locs X hF hh
    exact ⟨s₂, v, L', XS.ifNo X.here hx rfl (hb hby hd) rfl q2 st, r⟩
theorem if_eq {x : Int32} {o : Int} {pc2 : Nat} (hd : decode bs pc = .ok (.ifCond .eq o, 3)) (ho : 0 ≤ (pc : Int) + o) (hp : ((pc : Int) + o).toNat = pc') (hp2 : pc + 3 = pc2)
    (hy : x = 0 → Go K rm Z n0 bs ml ret own nm Q kc ks h pc' L S) (hn : ¬ (x = 0) → Go K rm Z n0 bs ml ret own nm Q kc ks h pc2 L S) : Go K rm Z n0 bs ml ret own nm Q kc ks h pc L (.int x :: S) := by
  subst hp2
  by_cases q : x = 0
  · have q2 : ifCond.holds .eq x = true := (if0 _ _).trans ((holds_iff .eq x 0).mpr (by simpa using q))
    replace hy := hy q
    obtain ⟨p, l, e, s, m, args, below, meth, c⟩ := K
    intro hx hby hml hown hZ hret hlk hnm T locs X hF hh
    obtain ⟨s₂, v, L', st, r⟩ := hy hx hby hml hown hZ hret hlk hnm T locs X hF hh
    exact ⟨s₂, v, L', XS.ifYes X.here hx rfl (pc0 := pc) (pc' := pc') rfl (hb hby hd) rfl q2 ho hp st, r⟩
  · have q2 : ifCond.holds .eq x = false := by rw [← Bool.not_eq_true, if0]; exact fun t => q (by simpa using (holds_iff .eq x 0).mp t)
    replace hn := hn q
    obtain ⟨p, l, e, s, m, args, below, meth, c⟩ := K
    intro hx hby hml hown hZ hret hlk hnm T locs X hF hh
    obtain ⟨s₂, v, L', st, r⟩ := hn hx hby hml hown hZ hret hlk hnm T locs X hF hh
    exact ⟨s₂, v, L', XS.ifNo X.here hx rfl (hb hby hd) rfl q2 st, r⟩
theorem if_ne {x : Int32} {o : Int} {pc2 : Nat} (hd : decode bs pc = .ok (.ifCond .ne o, 3)) (ho : 0 ≤ (pc : Int) + o) (hp : ((pc : Int) + o).toNat = pc') (hp2 : pc + 3 = pc2)
    (hy : x ≠ 0 → Go K rm Z n0 bs ml ret own nm Q kc ks h pc' L S) (hn : ¬ (x ≠ 0) → Go K rm Z n0 bs ml ret own nm Q kc ks h pc2 L S) : Go K rm Z n0 bs ml ret own nm Q kc ks h pc L (.int x :: S) := by
  subst hp2
  by_cases q : x ≠ 0
  · have q2 : ifCond.holds .ne x = true := (if0 _ _).trans ((holds_iff .ne x 0).mpr (by simpa using q))
    replace hy := hy q
    obtain ⟨p, l, e, s, m, args, below, meth, c⟩ := K
    intro hx hby hml hown hZ hret hlk hnm T locs X hF hh
    obtain ⟨s₂, v, L', st, r⟩ := hy hx hby hml hown hZ hret hlk hnm T locs X hF hh
    exact ⟨s₂, v, L', XS.ifYes X.here hx rfl (pc0 := pc) (pc' := pc') rfl (hb hby hd) rfl q2 ho hp st, r⟩
  · have q2 : ifCond.holds .ne x = false := by rw [← Bool.not_eq_true, if0]; exact fun t => q (by simpa using (holds_iff .ne x 0).mp t)
    replace hn := hn q
    obtain ⟨p, l, e, s, m, args, below, meth, c⟩ := K
    intro hx hby hml hown hZ hret hlk hnm T locs X hF hh
    obtain ⟨s₂, v, L', st, r⟩ := hn hx hby hml hown hZ hret hlk hnm T locs X hF hh
    exact ⟨s₂, v, L', XS.ifNo X.here hx rfl (hb hby hd) rfl q2 st, r⟩
theorem lcmp0 {x y : Int64} (hd : decode bs pc = .ok (.lcmp, 1)) (hp : pc + 1 = pc') (hr : Go K rm Z n0 bs ml ret own nm Q kc ks h pc' L (.int (lcmpW x y) :: S)) : Go K rm Z n0 bs ml ret own nm Q kc ks h pc L (.long y :: .long x :: S) := by
  subst hp
  obtain ⟨p, l, e, s, m, args, below, meth, c⟩ := K
  intro hx hby hml hown hZ hret hlk hnm T locs X hF hh
  obtain ⟨s₂, v, L', st, r⟩ := hr hx hby hml hown hZ hret hlk hnm T locs X hF hh
  exact ⟨s₂, v, L', XS.lcmp X.here hx rfl (hb hby hd) rfl st, r⟩
theorem lw_pos (x y : Int64) : (lcmpW x y).toInt < 0 ↔ x.toInt < y.toInt := by
  have := lw_lt x y; rw [Int32.lt_iff_toInt_lt, Int64.lt_iff_toInt_lt] at this; simpa using this
theorem lw_neg (x y : Int64) : 0 < (lcmpW x y).toInt ↔ y.toInt < x.toInt := by
  have := lw_gt x y; rw [Int32.lt_iff_toInt_lt, Int64.lt_iff_toInt_lt] at this; simpa using this
theorem lcmp_lt {x y : Int64} {o : Int} {pc1 pc2 : Nat} (hd : decode bs pc = .ok (.lcmp, 1)) (hp1 : pc + 1 = pc1) (hd1 : decode bs pc1 = .ok (.ifCond .lt o, 3)) (ho : 0 ≤ (pc1 : Int) + o) (hp : ((pc1 : Int) + o).toNat = pc') (hp2 : pc1 + 3 = pc2)
    (hy : x.toInt < y.toInt → Go K rm Z n0 bs ml ret own nm Q kc ks h pc' L S) (hn : ¬ (x.toInt < y.toInt) → Go K rm Z n0 bs ml ret own nm Q kc ks h pc2 L S) : Go K rm Z n0 bs ml ret own nm Q kc ks h pc L (.long y :: .long x :: S) := by
  have e : ((lcmpW x y).toInt < 0) ↔ (x.toInt < y.toInt) := lw_pos x y
  exact lcmp0 hd hp1 (if_lt hd1 ho hp hp2 (fun q => hy (e.mp q)) (fun q => hn (fun t => q (e.mpr t))))
theorem lcmp_ge {x y : Int64} {o : Int} {pc1 pc2 : Nat} (hd : decode bs pc = .ok (.lcmp, 1)) (hp1 : pc + 1 = pc1) (hd1 : decode bs pc1 = .ok (.ifCond .ge o, 3)) (ho : 0 ≤ (pc1 : Int) + o) (hp : ((pc1 : Int) + o).toNat = pc') (hp2 : pc1 + 3 = pc2)
    (hy : y.toInt ≤ x.toInt → Go K rm Z n0 bs ml ret own nm Q kc ks h pc' L S) (hn : ¬ (y.toInt ≤ x.toInt) → Go K rm Z n0 bs ml ret own nm Q kc ks h pc2 L S) : Go K rm Z n0 bs ml ret own nm Q kc ks h pc L (.long y :: .long x :: S) := by
  have e : (0 ≤ (lcmpW x y).toInt) ↔ (y.toInt ≤ x.toInt) := (by rw [← Int.not_lt, ← Int.not_lt, lw_pos])
  exact lcmp0 hd hp1 (if_ge hd1 ho hp hp2 (fun q => hy (e.mp q)) (fun q => hn (fun t => q (e.mpr t))))
theorem lcmp_gt {x y : Int64} {o : Int} {pc1 pc2 : Nat} (hd : decode bs pc = .ok (.lcmp, 1)) (hp1 : pc + 1 = pc1) (hd1 : decode bs pc1 = .ok (.ifCond .gt o, 3)) (ho : 0 ≤ (pc1 : Int) + o) (hp : ((pc1 : Int) + o).toNat = pc') (hp2 : pc1 + 3 = pc2)
    (hy : y.toInt < x.toInt → Go K rm Z n0 bs ml ret own nm Q kc ks h pc' L S) (hn : ¬ (y.toInt < x.toInt) → Go K rm Z n0 bs ml ret own nm Q kc ks h pc2 L S) : Go K rm Z n0 bs ml ret own nm Q kc ks h pc L (.long y :: .long x :: S) := by
  have e : (0 < (lcmpW x y).toInt) ↔ (y.toInt < x.toInt) := lw_neg x y
  exact lcmp0 hd hp1 (if_gt hd1 ho hp hp2 (fun q => hy (e.mp q)) (fun q => hn (fun t => q (e.mpr t))))
theorem lcmp_le {x y : Int64} {o : Int} {pc1 pc2 : Nat} (hd : decode bs pc = .ok (.lcmp, 1)) (hp1 : pc + 1 = pc1) (hd1 : decode bs pc1 = .ok (.ifCond .le o, 3)) (ho : 0 ≤ (pc1 : Int) + o) (hp : ((pc1 : Int) + o).toNat = pc') (hp2 : pc1 + 3 = pc2)
    (hy : x.toInt ≤ y.toInt → Go K rm Z n0 bs ml ret own nm Q kc ks h pc' L S) (hn : ¬ (x.toInt ≤ y.toInt) → Go K rm Z n0 bs ml ret own nm Q kc ks h pc2 L S) : Go K rm Z n0 bs ml ret own nm Q kc ks h pc L (.long y :: .long x :: S) := by
  have e : ((lcmpW x y).toInt ≤ 0) ↔ (x.toInt ≤ y.toInt) := (by rw [← Int.not_lt, ← Int.not_lt, lw_neg])
  exact lcmp0 hd hp1 (if_le hd1 ho hp hp2 (fun q => hy (e.mp q)) (fun q => hn (fun t => q (e.mpr t))))
theorem lcmp_eq {x y : Int64} {o : Int} {pc1 pc2 : Nat} (hd : decode bs pc = .ok (.lcmp, 1)) (hp1 : pc + 1 = pc1) (hd1 : decode bs pc1 = .ok (.ifCond .eq o, 3)) (ho : 0 ≤ (pc1 : Int) + o) (hp : ((pc1 : Int) + o).toNat = pc') (hp2 : pc1 + 3 = pc2)
    (hy : x = y → Go K rm Z n0 bs ml ret own nm Q kc ks h pc' L S) (hn : ¬ (x = y) → Go K rm Z n0 bs ml ret own nm Q kc ks h pc2 L S) : Go K rm Z n0 bs ml ret own nm Q kc ks h pc L (.long y :: .long x :: S) := by
  have e : ((lcmpW x y) = 0) ↔ (x = y) := lw_eq x y
  exact lcmp0 hd hp1 (if_eq hd1 ho hp hp2 (fun q => hy (e.mp q)) (fun q => hn (fun t => q (e.mpr t))))
theorem lcmp_ne {x y : Int64} {o : Int} {pc1 pc2 : Nat} (hd : decode bs pc = .ok (.lcmp, 1)) (hp1 : pc + 1 = pc1) (hd1 : decode bs pc1 = .ok (.ifCond .ne o, 3)) (ho : 0 ≤ (pc1 : Int) + o) (hp : ((pc1 : Int) + o).toNat = pc') (hp2 : pc1 + 3 = pc2)
    (hy : x ≠ y → Go K rm Z n0 bs ml ret own nm Q kc ks h pc' L S) (hn : ¬ (x ≠ y) → Go K rm Z n0 bs ml ret own nm Q kc ks h pc2 L S) : Go K rm Z n0 bs ml ret own nm Q kc ks h pc L (.long y :: .long x :: S) := by
  have e : ((lcmpW x y) ≠ 0) ↔ (x ≠ y) := not_congr (lw_eq x y)
  exact lcmp0 hd hp1 (if_ne hd1 ho hp hp2 (fun q => hy (e.mp q)) (fun q => hn (fun t => q (e.mpr t))))
theorem ifnull_yes {o : Int} (hd : decode bs pc = .ok (.ifnull o, 3)) (ho : 0 ≤ (pc : Int) + o) (hp : ((pc : Int) + o).toNat = pc') (hr : Go K rm Z n0 bs ml ret own nm Q kc ks h pc' L S) : Go K rm Z n0 bs ml ret own nm Q kc ks h pc L (.null :: S) := by
  obtain ⟨p, l, e, s, m, args, below, meth, c⟩ := K
  intro hx hby hml hown hZ hret hlk hnm T locs X hF hh
  obtain ⟨s₂, v, L', st, r⟩ := hr hx hby hml hown hZ hret hlk hnm T locs X hF hh
  exact ⟨s₂, v, L', XS.ifnullYes X.here hx rfl (pc0 := pc) (pc' := pc') rfl (hb hby hd) rfl ho hp st, r⟩
theorem ifnull_no {o : Int} {b : Addr} (hd : decode bs pc = .ok (.ifnull o, 3)) (hp : pc + 3 = pc') (hr : Go K rm Z n0 bs ml ret own nm Q kc ks h pc' L S) : Go K rm Z n0 bs ml ret own nm Q kc ks h pc L (.ref b :: S) := by
  subst hp
  obtain ⟨p, l, e, s, m, args, below, meth, c⟩ := K
  intro hx hby hml hown hZ hret hlk hnm T locs X hF hh
  obtain ⟨s₂, v, L', st, r⟩ := hr hx hby hml hown hZ hret hlk hnm T locs X hF hh
  exact ⟨s₂, v, L', XS.ifnullNo X.here hx rfl (hb hby hd) rfl st, r⟩
theorem getfield {R0 O n d host : String} {idx : Nat} {a : Addr} {v : Value} (hd : decode bs pc = .ok (.getfield idx, 3)) (hp : pc + 3 = pc') (w : (Jvm.Cond.fieldLink own idx R0 n d).before a0 Z = true ∨ (Jvm.Cond.fieldLinkNest own idx R0 n d host).before a0 Z = true) (via : Via Z R0 O n d) (F : Fld Z h a O n d v) (hr : Go K rm Z n0 bs ml ret own nm Q kc ks h pc' L (v :: S)) : Go K rm Z n0 bs ml ret own nm Q kc ks h pc L (.ref a :: S) := by
  subst hp
  obtain ⟨p, l, e, s, m, args, below, meth, c⟩ := K
  intro hx hby hml hown hZ hret hlk hnm T locs X hF hh
  obtain ⟨T', X', e', st'⟩ := getF X hx hZ hown w via hh F (g := mkF m pc L (.ref a :: S)) rfl rfl (hb hby hd)
  obtain ⟨s₂, v, L', st, r⟩ := hr hx hby hml hown hZ hret hlk hnm T' locs X' hF e'
  exact ⟨s₂, v, L', st' _ st, r⟩
theorem getstatic {R0 O n d : String} {idx : Nat} {v : Value} (hd : decode bs pc = .ok (.getstatic idx, 3)) (hp : pc + 3 = pc') (w : (Jvm.Cond.fieldLink own idx R0 n d).before a0 Z = true) (via : Via Z R0 O n d) (F : Sta Z h O n d v) (hr : Go K rm Z n0 bs ml ret own nm Q kc ks h pc' L (v :: S)) : Go K rm Z n0 bs ml ret own nm Q kc ks h pc L S := by
  subst hp
  obtain ⟨p, l, e, s, m, args, below, meth, c⟩ := K
  intro hx hby hml hown hZ hret hlk hnm T locs X hF hh
  obtain ⟨T', X', e', st'⟩ := getS (host := "") X hx hZ hown w via hh F (g := mkF m pc L S) rfl (hb hby hd)
  obtain ⟨s₂, v, L', st, r⟩ := hr hx hby hml hown hZ hret hlk hnm T' locs X' hF e'
  exact ⟨s₂, v, L', st' _ st, r⟩
theorem putfield {R0 O n d host C : String} {idx kk : Nat} {ty : FieldType} {a : Addr} {v old : Value} (hd : decode bs pc = .ok (.putfield idx, 3)) (hp : pc + 3 = pc') (w : (Jvm.Cond.fieldLink own idx R0 n d).before a0 Z = true ∨ (Jvm.Cond.fieldLinkNest own idx R0 n d host).before a0 Z = true) (via : Via Z R0 O n d)
    (F : Fld Z h a O n d old) (E : Exa Z h a C) (Lw : (Jvm.Cond.lays C O n d).before a0 Z = true ∨ ((Jvm.Cond.laysFinal C O n d).before a0 Z = true ∧ own = O ∧ nm = "<init>")) (wi : (Jvm.Cond.instantiable C kk).before a0 Z = true)
    (hty : parseFieldDescriptor d = some ty) (hn : narrow ty v = v) (hf : fits ty v = true) (hg : n0 ≤ a) (hr : ∀ h', Wr h h' a (Jvm.RoadKit.slotOf Z O n d) v → Go K rm Z n0 bs ml ret own nm Q kc ks h' pc' L S) : Go K rm Z n0 bs ml ret own nm Q kc ks h pc L (v :: .ref a :: S) := by
  subst hp
  obtain ⟨p, l, e, s, m, args, below, meth, c⟩ := K
  intro hx hby hml hown hZ hret hlk hnm T locs X hF hh
  obtain ⟨T', h', X', e', W', st'⟩ := putF X hx hZ hown w via hh F E (Lw.imp id fun q => ⟨q.1, q.2.1, hnm.trans q.2.2⟩) wi hty hn hf (g := mkF m pc L (v :: .ref a :: S)) rfl rfl (hb hby hd)
  obtain ⟨s₂, v, L', st, r⟩ := hr h' W' hx hby hml hown hZ hret hlk hnm T' _ X' (Fr.snoc X' hF hg) e'
  exact ⟨s₂, v, L', st' _ st, r⟩
theorem newobj {C : String} {idx n : Nat} (hd : decode bs pc = .ok (.new idx, 3)) (hp : pc + 3 = pc') (w : (Jvm.Cond.classLink own idx C).before a0 Z = true) (wi : (Jvm.Cond.instantiable C n).before a0 Z = true) (wz : (Jvm.Cond.initialized C).before a0 Z = true) (hc : kc + 1 ≤ rm.cells) (hs : ks + n ≤ rm.slots)
    (hr : ∀ a h', a = h.size → Ext h h' → Exa Z h' a C → (∀ {O nm d : String} {ty : FieldType}, Laid Z a0 C O nm d → parseFieldDescriptor d = some ty → Fld Z h' a O nm d (defaultValue ty)) → Go K rm Z n0 bs ml ret own nm Q (kc + 1) (ks + n) h' pc' L (.ref a :: S)) : Go K rm Z n0 bs ml ret own nm Q kc ks h pc L S := by
  subst hp
  obtain ⟨p, l, e, s, m, args, below, meth, c⟩ := K
  intro hx hby hml hown hZ hret hlk hnm T locs X hF hh
  obtain ⟨T', h', X', e', E', A', D', -, st'⟩ := newO X hx hZ hown w wi wz hh (g := mkF m pc L S) rfl (hb hby hd) hc hs
  obtain ⟨s₂, v, L', st, r⟩ := hr _ h' rfl E' A' D' hx hby hml hown hZ hret hlk hnm T' _ X' hF e'
  exact ⟨s₂, v, L', st' _ st, r⟩
theorem objinit {idx : Nat} {a : Addr} (hd : decode bs pc = .ok (.invokespecial idx, 3)) (hp : pc + 3 = pc') (w1 : (Jvm.Cond.methodLink own idx Lib.objectInit).before a0 Z = true) (w2 : (Jvm.Cond.instanceMethod Lib.objectInit).before a0 Z = true) (w3 : (Jvm.Cond.code Lib.objectInit ⟨#[0xb1]⟩ 1 none).before a0 Z = true)
    (hL : L.size = ml) (hf : 1 ≤ rm.frames) {W : Nat} (hW : (S.map fun v => v.category).sum = W) (hl : W + 12 ≤ rm.locals) (hr : Go K rm Z n0 bs ml ret own nm Q kc ks h pc' L S) : Go K rm Z n0 bs ml ret own nm Q kc ks h pc L (.ref a :: S) := by
  subst hp
  obtain ⟨p, l, e, s, m, args, below, meth, c⟩ := K
  intro hx hby hml hown hZ hret hlk hnm T locs X hF hh
  obtain ⟨T', X', e', st'⟩ := initO X hx hZ hown w1 w2 w3 hh (g := mkF m pc L (.ref a :: S)) rfl (by rw [hml]; exact hL) rfl (hb hby hd) hf (W := W) (by show 2 * 0 + _ ≤ _; omega) hl
  obtain ⟨s₂, v, L', st, r⟩ := hr hx hby hml hown hZ hret hlk hnm T' locs X' hF e'
  exact ⟨s₂, v, L', st' _ st, r⟩
theorem instof {KC : String} {idx : Nat} {a : Addr} (hd : decode bs pc = .ok (.instanceof idx, 3)) (hp : pc + 3 = pc') (w : (Jvm.Cond.classLink own idx KC).before a0 Z = true) (F : Ins Z h a KC true) (hr : Go K rm Z n0 bs ml ret own nm Q kc ks h pc' L (.int 1 :: S)) : Go K rm Z n0 bs ml ret own nm Q kc ks h pc L (.ref a :: S) := by
  subst hp
  obtain ⟨p, l, e, s, m, args, below, meth, c⟩ := K
  intro hx hby hml hown hZ hret hlk hnm T locs X hF hh
  obtain ⟨T', X', e', st'⟩ := instY X hx hZ hown w hh F (g := mkF m pc L (.ref a :: S)) rfl rfl (hb hby hd)
  obtain ⟨s₂, v, L', st, r⟩ := hr hx hby hml hown hZ hret hlk hnm T' locs X' hF e'
  exact ⟨s₂, v, L', st' _ st, r⟩
theorem chcast {KC : String} {idx : Nat} {a : Addr} (hd : decode bs pc = .ok (.checkcast idx, 3)) (hp : pc + 3 = pc') (w : (Jvm.Cond.classLink own idx KC).before a0 Z = true) (F : Ins Z h a KC true) (hr : Go K rm Z n0 bs ml ret own nm Q kc ks h pc' L (.ref a :: S)) : Go K rm Z n0 bs ml ret own nm Q kc ks h pc L (.ref a :: S) := by
  subst hp
  obtain ⟨p, l, e, s, m, args, below, meth, c⟩ := K
  intro hx hby hml hown hZ hret hlk hnm T locs X hF hh
  obtain ⟨T', X', e', st'⟩ := castY X hx hZ hown w hh F (g := mkF m pc L (.ref a :: S)) rfl rfl (hb hby hd)
  obtain ⟨s₂, v, L', st, r⟩ := hr hx hby hml hown hZ hret hlk hnm T' locs X' hF e'
  exact ⟨s₂, v, L', st' _ st, r⟩
theorem acmp2 {o : Int} {cd : ACond} {x y : Value} {pcs pcd : Nat} (hd : decode bs pc = .ok (.if_acmp cd o, 3)) (h1 : x.isRef = true) (h2 : y.isRef = true) (ho : 0 ≤ (pc : Int) + o) (hps : pcs = if Jvm.RoadKit.acV cd true = true then ((pc : Int) + o).toNat else pc + 3) (hpd : pcd = if Jvm.RoadKit.acV cd false = true then ((pc : Int) + o).toNat else pc + 3) (hy : x = y → Go K rm Z n0 bs ml ret own nm Q kc ks h pcs L S) (hn : x ≠ y → Go K rm Z n0 bs ml ret own nm Q kc ks h pcd L S) : Go K rm Z n0 bs ml ret own nm Q kc ks h pc L (y :: x :: S) := by
  by_cases q : x = y
  · exact acmp (same := true) hd h1 h2 (by simp [q]) ho hps (hy q)
  · exact acmp (same := false) hd h1 h2 (by simp [q]) ho hpd (hn q)
theorem static {W : Nat} {y : MethodName} {bs' : ByteArray} {ml' idx : Nat} {ret' : Option FieldType} {rm' : Room} {as rest : List Value} {Q' : Option Value → Heap → Prop} (hd : decode bs pc = .ok (.invokestatic idx, 3)) (hp : pc + 3 = pc') (w1 : (Jvm.Cond.methodLink own idx y).before a0 Z = true) (w2 : (Jvm.Cond.static y).before a0 Z = true) (w3 : (Jvm.Cond.initialized y.cls).before a0 Z = true) (w4 : (Jvm.Cond.code y bs' ml' ret').before a0 Z = true)
    (hy : y.cls ≠ "java/lang/invoke/MethodHandle" ∧ y.cls ≠ "java/lang/invoke/VarHandle") (C : Con Z n0 y bs' ml' ret' rm' as h Q') (hst : S = as.reverse ++ rest) (hL : L.size = ml) (hlen : ∀ sig, parseMethodDescriptor y.desc = some sig → as.length = sig.parameters.length)
    (hf : rm'.frames + 1 ≤ rm.frames) (hW : (rest.map fun v => v.category).sum = W) (hl : W + (ml' + 11) + rm'.locals ≤ rm.locals) (hc : kc + rm'.cells ≤ rm.cells) (hs : ks + rm'.slots ≤ rm.slots)
    (hr : ∀ v h', Q' v h' → Go K rm Z n0 bs ml ret own nm Q (kc + rm'.cells) (ks + rm'.slots) h' pc' L (v.toList ++ rest)) : Go K rm Z n0 bs ml ret own nm Q kc ks h pc L S := by
  subst hp
  obtain ⟨p, l, e, s, m, args, below, meth, c⟩ := K
  intro hx hby hml hown hZ hret hlk hnm T locs X hF hh
  obtain ⟨_, _, ⟨T', L1, k1, n1⟩, -, X', ⟨Lc, hQ, l1, y1, z1⟩, st'⟩ := Jvm.LawKit.callS X hx hown (mvT hZ w1) (mvT hZ w2) (mvT hZ w3) (mvT hZ w4) hy (backOf (Q := fun v h L => Q' v h ∧ Fr n0 L) (W := W) (C l) hZ w4 w3 hf hl) (g := mkF m pc L S) rfl (by rw [hml]; exact hL) (argsL := as) (rest := rest) hlen hst (by show 2 * 0 + _ ≤ _; omega) (hb hby hd) (fun _ _ => ⟨rfl, hh, hc, hs⟩)
  dsimp only [Pt.U, Pt.locs, Pt.cells, Pt.slots] at X' l1 y1 z1 st' hQ
  subst l1 y1 z1
  obtain ⟨s₂, v, L', st, r⟩ := hr _ _ hQ.1 hx hby hml hown hZ hret hlk hnm T' _ X' (Fr.app hF hQ.2) rfl
  exact ⟨s₂, v, L', st' _ st, r⟩
theorem special {W : Nat} {y : MethodName} {bs' : ByteArray} {ml' idx : Nat} {rm' : Room} {as rest : List Value} {Q' : Option Value → Heap → Prop} {a : Addr} (hd : decode bs pc = .ok (.invokespecial idx, 3)) (hp : pc + 3 = pc') (hy1 : y.name = "<init>") (w1 : (Jvm.Cond.methodLink own idx y).before a0 Z = true) (w2 : (Jvm.Cond.instanceMethod y).before a0 Z = true) (w3 : (Jvm.Cond.initialized y.cls).before a0 Z = true) (w4 : (Jvm.Cond.code y bs' ml' none).before a0 Z = true)
    (hy : y.cls ≠ "java/lang/invoke/MethodHandle" ∧ y.cls ≠ "java/lang/invoke/VarHandle") (C : Con Z n0 y bs' ml' none rm' (.ref a :: as) h Q') (hst : S = as.reverse ++ .ref a :: rest) (hL : L.size = ml) (hlen : ∀ sig, parseMethodDescriptor y.desc = some sig → as.length = sig.parameters.length)
    (hf : rm'.frames + 1 ≤ rm.frames) (hW : (rest.map fun v => v.category).sum = W) (hl : W + (ml' + 11) + rm'.locals ≤ rm.locals) (hc : kc + rm'.cells ≤ rm.cells) (hs : ks + rm'.slots ≤ rm.slots)
    (hr : ∀ v h', Q' v h' → Go K rm Z n0 bs ml ret own nm Q (kc + rm'.cells) (ks + rm'.slots) h' pc' L (v.toList ++ rest)) : Go K rm Z n0 bs ml ret own nm Q kc ks h pc L S := by
  subst hp
  obtain ⟨p, l, e, s, m, args, below, meth, c⟩ := K
  intro hx hby hml hown hZ hret hlk hnm T locs X hF hh
  obtain ⟨_, _, ⟨T', L1, k1, n1⟩, -, X', ⟨Lc, hQ, l1, y1, z1⟩, st'⟩ := X.specialBack hx hy1 hown (mvT hZ w1) (mvT hZ w2) (mvT hZ w4) hy (backOf (Q := fun v h L => Q' v h ∧ Fr n0 L) (W := W) (C l) hZ w4 w3 hf hl) (g := mkF m pc L S) rfl (by rw [hml]; exact hL) (Steps.refl _) (a := a) (argsL := as) (rest := rest) hlen hst (by show 2 * 0 + _ ≤ _; omega) (hb hby hd) (fun _ _ => ⟨rfl, hh, hc, hs⟩)
  dsimp only [Pt.U, Pt.locs, Pt.cells, Pt.slots] at X' l1 y1 z1 st' hQ
  subst l1 y1 z1
  obtain ⟨s₂, v, L', st, r⟩ := hr _ _ hQ.1 hx hby hml hown hZ hret hlk hnm T' _ X' (Fr.app hF hQ.2) rfl
  exact ⟨s₂, v, L', st'.trans st, r⟩
theorem virtual {W : Nat} {y : MethodName} {bs' : ByteArray} {ml' idx : Nat} {ret' : Option FieldType} {rm' : Room} {as rest : List Value} {Q' : Option Value → Heap → Prop} {C' : String} {a : Addr} (hd : decode bs pc = .ok (.invokevirtual idx, 3)) (hp : pc + 3 = pc') (w1 : (Jvm.Cond.methodLink own idx y).before a0 Z = true) (w2 : (Jvm.Cond.declares y).before a0 Z = true) (w5 : (Jvm.Cond.selects C' y y).before a0 Z = true) (w6 : (Jvm.Cond.instanceMethod y).before a0 Z = true) (w3 : (Jvm.Cond.initialized y.cls).before a0 Z = true) (w4 : (Jvm.Cond.code y bs' ml' ret').before a0 Z = true)
    (hy : y.cls ≠ "java/lang/invoke/MethodHandle" ∧ y.cls ≠ "java/lang/invoke/VarHandle") (E : Exa Z h a C') (C : Con Z n0 y bs' ml' ret' rm' (.ref a :: as) h Q') (hst : S = as.reverse ++ .ref a :: rest) (hL : L.size = ml) (hlen : ∀ sig, parseMethodDescriptor y.desc = some sig → as.length = sig.parameters.length)
    (hf : rm'.frames + 1 ≤ rm.frames) (hW : (rest.map fun v => v.category).sum = W) (hl : W + (ml' + 11) + rm'.locals ≤ rm.locals) (hc : kc + rm'.cells ≤ rm.cells) (hs : ks + rm'.slots ≤ rm.slots)
    (hr : ∀ v h', Q' v h' → Go K rm Z n0 bs ml ret own nm Q (kc + rm'.cells) (ks + rm'.slots) h' pc' L (v.toList ++ rest)) : Go K rm Z n0 bs ml ret own nm Q kc ks h pc L S := by
  subst hp
  obtain ⟨p, l, e, s, m, args, below, meth, c⟩ := K
  intro hx hby hml hown hZ hret hlk hnm T locs X hF hh
  obtain ⟨cq, kq, qa, qb, qc⟩ := isOf (T := T) hZ hh E
  obtain ⟨_, _, ⟨T', L1, k1, n1⟩, -, X', ⟨Lc, hQ, l1, y1, z1⟩, st'⟩ := X.virtualBack hx (y := y) (z := y) hown (mvT hZ w1) (mvT hZ w2) (notFace_of_selects (args := #[]) (mvT hZ w5)) (mvT hZ w5) (mvT hZ w6) hy (backOf (Q := fun v h L => Q' v h ∧ Fr n0 L) (W := W) (C l) hZ w4 w3 hf hl) qa qc (g := mkF m pc L S) rfl (by rw [hml]; exact hL) (Steps.refl _) (argsL := as) (rest := rest) hlen hst (by show 2 * 0 + _ ≤ _; omega) (hb hby hd) (fun _ _ => ⟨rfl, hh, hc, hs⟩)
  dsimp only [Pt.U, Pt.locs, Pt.cells, Pt.slots] at X' l1 y1 z1 st' hQ
  subst l1 y1 z1
  obtain ⟨s₂, v, L', st, r⟩ := hr _ _ hQ.1 hx hby hml hown hZ hret hlk hnm T' _ X' (Fr.app hF hQ.2) rfl
  exact ⟨s₂, v, L', st'.trans st, r⟩
theorem privat {W : Nat} {y : MethodName} {bs' : ByteArray} {ml' idx : Nat} {ret' : Option FieldType} {rm' : Room} {as rest : List Value} {Q' : Option Value → Heap → Prop} {a : Addr} (hd : decode bs pc = .ok (.invokevirtual idx, 3)) (hp : pc + 3 = pc') (w1 : (Jvm.Cond.methodLink own idx y).before a0 Z = true) (w6 : (Jvm.Cond.instanceMethod y).before a0 Z = true) {kk : Nat} (wi : (Jvm.Cond.instantiable y.cls kk).before a0 Z = true) (w7 : (Jvm.Cond.privateMethod y).before a0 Z = true) (w3 : (Jvm.Cond.initialized y.cls).before a0 Z = true) (w4 : (Jvm.Cond.code y bs' ml' ret').before a0 Z = true)
    (hy : y.cls ≠ "java/lang/invoke/MethodHandle" ∧ y.cls ≠ "java/lang/invoke/VarHandle") (E : Exa Z h a y.cls) (C : Con Z n0 y bs' ml' ret' rm' (.ref a :: as) h Q') (hst : S = as.reverse ++ .ref a :: rest) (hL : L.size = ml) (hlen : ∀ sig, parseMethodDescriptor y.desc = some sig → as.length = sig.parameters.length)
    (hf : rm'.frames + 1 ≤ rm.frames) (hW : (rest.map fun v => v.category).sum = W) (hl : W + (ml' + 11) + rm'.locals ≤ rm.locals) (hc : kc + rm'.cells ≤ rm.cells) (hs : ks + rm'.slots ≤ rm.slots)
    (hr : ∀ v h', Q' v h' → Go K rm Z n0 bs ml ret own nm Q (kc + rm'.cells) (ks + rm'.slots) h' pc' L (v.toList ++ rest)) : Go K rm Z n0 bs ml ret own nm Q kc ks h pc L S := by
  subst hp
  obtain ⟨p, l, e, s, m, args, below, meth, c⟩ := K
  intro hx hby hml hown hZ hret hlk hnm T locs X hF hh
  obtain ⟨cq, q1, q2⟩ := E.cell
  obtain ⟨c2, k2, i1, i2, i3, i4, -⟩ := Cond.instantiable_spec (mvT hZ wi (args := args))
  have hsl := selects_self_of_private (args := args) i1 i2 (by simp only [Bool.or_eq_false_iff] at i4; exact i4.1) (Cond.privateMethod_at (mvP hZ w7 (args := #[]))) (mvT hZ w6) hy
  obtain ⟨_, _, ⟨T', L1, k1, n1⟩, -, X', ⟨Lc, hQ, l1, y1, z1⟩, st'⟩ := X.privateBack hx hown (mvT hZ w1) (mvT hZ w6) hsl (Cond.privateMethod_at (mvP hZ w7 (args := #[]))) (mvT hZ w4) hy (backOf (Q := fun v h L => Q' v h ∧ Fr n0 L) (W := W) (C l) hZ w4 w3 hf hl) (g := mkF m pc L S) rfl (by rw [hml]; exact hL) (Steps.refl _) (a := a) (by rw [hh]; exact q1) q2 (argsL := as) (rest := rest) hlen hst (by show 2 * 0 + _ ≤ _; omega) (hb hby hd) (fun _ _ => ⟨rfl, hh, hc, hs⟩)
  dsimp only [Pt.U, Pt.locs, Pt.cells, Pt.slots] at X' l1 y1 z1 st' hQ
  subst l1 y1 z1
  obtain ⟨s₂, v, L', st, r⟩ := hr _ _ hQ.1 hx hby hml hown hZ hret hlk hnm T' _ X' (Fr.app hF hQ.2) rfl
  exact ⟨s₂, v, L', st'.trans st, r⟩
theorem ireturnZ {z z' : Int32} (hd : decode bs pc = .ok (.ireturn, 1)) (ht : ret = some .boolean) (hz : nar .boolean z = z') (hQ : Q (some (.int z')) h) (hc : kc ≤ rm.cells) (hs : ks ≤ rm.slots) : Go K rm Z n0 bs ml ret own nm Q kc ks h pc L (.int z :: S) := by
  subst ht hz
  obtain ⟨p, l, e, s, m, args, below, meth, c⟩ := K
  intro hx hby hml hown hZ hret hlk hnm T locs X hF hh
  obtain ⟨fs, hr, hrun, hended, hW, hsame⟩ := X.leave (v := some (.int (nar .boolean z))) (fun q => by rw [hret] at q; cases q) hlk
  exact ⟨T.setFrames fs, _, locs, retN X hx (t := .boolean) hret (by simp) (hb hby hd) hr, hrun, hended, by rw [show (T.setFrames fs).heap = h from hh]; exact hQ, hF, ⟨_, rfl⟩, hW, hsame.mono hc hs⟩
theorem ireturnI {z : Int32} (hd : decode bs pc = .ok (.ireturn, 1)) (ht : ret = some .int) (hQ : Q (some (.int z)) h) (hc : kc ≤ rm.cells) (hs : ks ≤ rm.slots) : Go K rm Z n0 bs ml ret own nm Q kc ks h pc L (.int z :: S) := by
  subst ht
  obtain ⟨p, l, e, s, m, args, below, meth, c⟩ := K
  intro hx hby hml hown hZ hret hlk hnm T locs X hF hh
  obtain ⟨fs, hr, hrun, hended, hW, hsame⟩ := X.leave (v := some (.int z)) (fun q => by rw [hret] at q; cases q) hlk
  exact ⟨T.setFrames fs, _, locs, retOut X hx hret rfl (Or.inl ⟨rfl, Or.inl rfl, z, rfl⟩) (hb hby hd) hr, hrun, hended, by rw [show (T.setFrames fs).heap = h from hh]; exact hQ, hF, ⟨_, rfl⟩, hW, hsame.mono hc hs⟩
theorem lreturn {z : Int64} (hd : decode bs pc = .ok (.lreturn, 1)) (ht : ret = some .long) (hQ : Q (some (.long z)) h) (hc : kc ≤ rm.cells) (hs : ks ≤ rm.slots) : Go K rm Z n0 bs ml ret own nm Q kc ks h pc L (.long z :: S) := by
  subst ht
  obtain ⟨p, l, e, s, m, args, below, meth, c⟩ := K
  intro hx hby hml hown hZ hret hlk hnm T locs X hF hh
  obtain ⟨fs, hr, hrun, hended, hW, hsame⟩ := X.leave (v := some (.long z)) (fun q => by rw [hret] at q; cases q) hlk
  exact ⟨T.setFrames fs, _, locs, retOut X hx hret rfl (Or.inr (Or.inl ⟨rfl, rfl, z, rfl⟩)) (hb hby hd) hr, hrun, hended, by rw [show (T.setFrames fs).heap = h from hh]; exact hQ, hF, ⟨_, rfl⟩, hW, hsame.mono hc hs⟩
theorem areturn {t : FieldType} {v : Value} (hd : decode bs pc = .ok (.areturn, 1)) (ht : ret = some t) (htr : t.isReference = true) (hv : v.isRef = true) (hnn : narrow t v = v) (hQ : Q (some v) h) (hc : kc ≤ rm.cells) (hs : ks ≤ rm.slots) : Go K rm Z n0 bs ml ret own nm Q kc ks h pc L (v :: S) := by
  subst ht
  obtain ⟨p, l, e, s, m, args, below, meth, c⟩ := K
  intro hx hby hml hown hZ hret hlk hnm T locs X hF hh
  obtain ⟨fs, hr, hrun, hended, hW, hsame⟩ := X.leave (v := some v) (fun q => by rw [hret] at q; cases q) hlk
  exact ⟨T.setFrames fs, _, locs, retOut X hx hret hnn (Or.inr (Or.inr (Or.inr (Or.inr ⟨rfl, htr, hv⟩)))) (hb hby hd) hr, hrun, hended, by rw [show (T.setFrames fs).heap = h from hh]; exact hQ, hF, ⟨_, rfl⟩, hW, hsame.mono hc hs⟩
theorem vreturn (hd : decode bs pc = .ok (.return_, 1)) (ht : ret = none) (hQ : Q none h) (hc : kc ≤ rm.cells) (hs : ks ≤ rm.slots) : Go K rm Z n0 bs ml ret own nm Q kc ks h pc L [] := by
  subst ht
  obtain ⟨p, l, e, s, m, args, below, meth, c⟩ := K
  intro hx hby hml hown hZ hret hlk hnm T locs X hF hh
  obtain ⟨fs, hr, hrun, hended, hW, hsame⟩ := X.leave (v := none) (fun _ => rfl) hlk
  exact ⟨T.setFrames fs, _, locs, X.returnOut hx hret (hb hby hd) hr, hrun, hended, by rw [show (T.setFrames fs).heap = h from hh]; exact hQ, hF, ⟨_, rfl⟩, hW, hsame.mono hc hs⟩
theorem join {pc2 : Nat} {L2 : Array Slot} {S2 : List Value} (h1 : Go K rm Z n0 bs ml ret own nm Q kc ks h pc2 L2 S2 → Go K rm Z n0 bs ml ret own nm Q kc ks h pc L S) (h2 : Go K rm Z n0 bs ml ret own nm Q kc ks h pc2 L2 S2) : Go K rm Z n0 bs ml ret own nm Q kc ks h pc L S := h1 h2
theorem ifnonnull_no {o : Int} (hd : decode bs pc = .ok (.ifnonnull o, 3)) (hp : pc + 3 = pc') (hr : Go K rm Z n0 bs ml ret own nm Q kc ks h pc' L S) : Go K rm Z n0 bs ml ret own nm Q kc ks h pc L (.null :: S) := by
  subst hp
  obtain ⟨p, l, e, s, m, args, below, meth, c⟩ := K
  intro hx hby hml hown hZ hret hlk hnm T locs X hF hh
  obtain ⟨s₂, v, L', st, r⟩ := hr hx hby hml hown hZ hret hlk hnm T locs X hF hh
  exact ⟨s₂, v, L', XS.ifnonnullNo X.here hx rfl (hb hby hd) rfl st, r⟩
theorem ifnonnull_yes {o : Int} {b : Addr} (hd : decode bs pc = .ok (.ifnonnull o, 3)) (ho : 0 ≤ (pc : Int) + o) (hp : ((pc : Int) + o).toNat = pc') (hr : Go K rm Z n0 bs ml ret own nm Q kc ks h pc' L S) : Go K rm Z n0 bs ml ret own nm Q kc ks h pc L (.ref b :: S) := by
  obtain ⟨p, l, e, s, m, args, below, meth, c⟩ := K
  intro hx hby hml hown hZ hret hlk hnm T locs X hF hh
  obtain ⟨s₂, v, L', st, r⟩ := hr hx hby hml hown hZ hret hlk hnm T locs X hF hh
  exact ⟨s₂, v, L', XS.ifnonnullYes X.here hx rfl (pc0 := pc) (pc' := pc') rfl (hb hby hd) rfl ho hp st, r⟩
theorem Go.more {kc' ks' : Nat} (hc : kc ≤ kc') (hs : ks ≤ ks') (hr : Go K rm Z n0 bs ml ret own nm Q kc' ks' h pc L S) : Go K rm Z n0 bs ml ret own nm Q kc ks h pc L S := by
  obtain ⟨p, l, e, s, m, args, below, meth, c⟩ := K
  intro hx hby hml hown hZ hret hlk hnm T locs X hF hh
  exact hr hx hby hml hown hZ hret hlk hnm T locs (X.more hc hs) hF hh
theorem Con.post {y : MethodName} {rm' : Room} {bs' : ByteArray} {ml' : Nat} {ret' : Option FieldType} {as : List Value} {Q1 Q2 : Option Value → Heap → Prop} (C : Con Z n0 y bs' ml' ret' rm' as h Q1) (q : ∀ v h', Q1 v h' → Q2 v h') : Con Z n0 y bs' ml' ret' rm' as h Q2 := fun l p e h1 h2 h3 s m args below h4 h5 h6 h7 => by
  obtain ⟨n, o, g1, g2, g3, v, L, g4, g5, g6⟩ := C l p e h1 h2 h3 s m args below h4 h5 h6 h7
  exact ⟨n, o, g1, g2, g3, v, L, g4, ⟨q _ _ g5.1, g5.2⟩, g6⟩
/-- an int[] of n places that hold f 0 .. f (n - 1) -/
def AI (Z : State) (h : Heap) (a : Addr) (n : Nat) (f : Nat → Int32) : Prop := ∃ cl : Cell, Arr Z h a cl .int ∧ cl.slots.size = n ∧ n < 2 ^ 31 ∧ ∀ k, k < n → cl.slots[k]? = some (.int (f k))
def AJ (Z : State) (h : Heap) (a : Addr) (n : Nat) (f : Nat → Int64) : Prop := ∃ cl : Cell, Arr Z h a cl .long ∧ cl.slots.size = n ∧ n < 2 ^ 31 ∧ ∀ k, k < n → cl.slots[k]? = some (.long (f k))
def AB (Z : State) (h : Heap) (a : Addr) (n : Nat) (f : Nat → Int32) : Prop := ∃ cl : Cell, Arr Z h a cl .byte ∧ cl.slots.size = n ∧ n < 2 ^ 31 ∧ ∀ k, k < n → cl.slots[k]? = some (.int (f k))
def ownSet {α : Type} (f : Nat → α) (i : Nat) (x : α) : Nat → α := fun k => if k = i then x else f k
theorem inb {j : Int32} {i n : Nat} (hj : j.toInt = (i : Int)) (hi : i < n) : ¬ (j < 0 ∨ n ≤ j.toNatClampNeg) ∧ j.toNatClampNeg = i := by
  have e : j.toNatClampNeg = i := by simp [Int32.toNatClampNeg, hj]
  refine ⟨?_, e⟩
  rw [e, Int32.lt_iff_toInt_lt, hj]
  simp; omega
theorem AI.ext {h' : Heap} {a : Addr} {n : Nat} {f : Nat → Int32} (F : AI Z h a n f) (E : Ext h h') : AI Z h' a n f := by obtain ⟨c, A, r⟩ := F; exact ⟨c, A.ext E, r⟩
theorem AI.other {h' : Heap} {a b : Addr} {sl n : Nat} {v : Value} {f : Nat → Int32} (F : AI Z h b n f) (W : Wr h h' a sl v) (q : b ≠ a) : AI Z h' b n f := by obtain ⟨c, A, r⟩ := F; exact ⟨c, A.other W q, r⟩
theorem AI.keep {h' : Heap} {a : Addr} {n : Nat} {ws : List Addr} {f : Nat → Int32} (F : AI Z h a n f) (K : Keep h h' ws) (q : a ∉ ws) : AI Z h' a n f := by obtain ⟨c, A, r⟩ := F; exact ⟨c, ⟨K.2.1 a c A.1 q, A.2⟩, r⟩
theorem AI.lt {a : Addr} {n : Nat} {f : Nat → Int32} (F : AI Z h a n f) : a < h.size := by obtain ⟨c, A, -⟩ := F; exact A.lt
theorem AI.set {h' : Heap} {a : Addr} {n i : Nat} {x : Int32} {f : Nat → Int32} (F : AI Z h a n f) (W : Wr h h' a i (.int x)) : AI Z h' a n (ownSet f i x) := by
  obtain ⟨c, A, r1, r2, r3⟩ := F
  refine ⟨_, A.same W, by rw [sz_set]; exact r1, r2, fun k hk => ?_⟩
  by_cases e : k = i
  · subst e; simp [Cell.setSlot, ownSet, r1, hk]
  · rw [show (c.setSlot i (.int x)).slots[k]? = c.slots[k]? from Array.getElem?_setIfInBounds_ne (Ne.symm e), r3 k hk]; simp [ownSet, e]
theorem AI.cong {a : Addr} {n : Nat} {f g : Nat → Int32} (F : AI Z h a n f) (q : ∀ k, k < n → f k = g k) : AI Z h a n g := by obtain ⟨c, A, r1, r2, r3⟩ := F; exact ⟨c, A, r1, r2, fun k hk => by rw [r3 k hk, q k hk]⟩
theorem AJ.ext {h' : Heap} {a : Addr} {n : Nat} {f : Nat → Int64} (F : AJ Z h a n f) (E : Ext h h') : AJ Z h' a n f := by obtain ⟨c, A, r⟩ := F; exact ⟨c, A.ext E, r⟩
theorem AJ.other {h' : Heap} {a b : Addr} {sl n : Nat} {v : Value} {f : Nat → Int64} (F : AJ Z h b n f) (W : Wr h h' a sl v) (q : b ≠ a) : AJ Z h' b n f := by obtain ⟨c, A, r⟩ := F; exact ⟨c, A.other W q, r⟩
theorem AJ.keep {h' : Heap} {a : Addr} {n : Nat} {ws : List Addr} {f : Nat → Int64} (F : AJ Z h a n f) (K : Keep h h' ws) (q : a ∉ ws) : AJ Z h' a n f := by obtain ⟨c, A, r⟩ := F; exact ⟨c, ⟨K.2.1 a c A.1 q, A.2⟩, r⟩
theorem AJ.lt {a : Addr} {n : Nat} {f : Nat → Int64} (F : AJ Z h a n f) : a < h.size := by obtain ⟨c, A, -⟩ := F; exact A.lt
theorem AJ.set {h' : Heap} {a : Addr} {n i : Nat} {x : Int64} {f : Nat → Int64} (F : AJ Z h a n f) (W : Wr h h' a i (.long x)) : AJ Z h' a n (ownSet f i x) := by
  obtain ⟨c, A, r1, r2, r3⟩ := F
  refine ⟨_, A.same W, by rw [sz_set]; exact r1, r2, fun k hk => ?_⟩
  by_cases e : k = i
  · subst e; simp [Cell.setSlot, ownSet, r1, hk]
  · rw [show (c.setSlot i (.long x)).slots[k]? = c.slots[k]? from Array.getElem?_setIfInBounds_ne (Ne.symm e), r3 k hk]; simp [ownSet, e]
theorem AJ.cong {a : Addr} {n : Nat} {f g : Nat → Int64} (F : AJ Z h a n f) (q : ∀ k, k < n → f k = g k) : AJ Z h a n g := by obtain ⟨c, A, r1, r2, r3⟩ := F; exact ⟨c, A, r1, r2, fun k hk => by rw [r3 k hk, q k hk]⟩
theorem AB.ext {h' : Heap} {a : Addr} {n : Nat} {f : Nat → Int32} (F : AB Z h a n f) (E : Ext h h') : AB Z h' a n f := by obtain ⟨c, A, r⟩ := F; exact ⟨c, A.ext E, r⟩
theorem AB.other {h' : Heap} {a b : Addr} {sl n : Nat} {v : Value} {f : Nat → Int32} (F : AB Z h b n f) (W : Wr h h' a sl v) (q : b ≠ a) : AB Z h' b n f := by obtain ⟨c, A, r⟩ := F; exact ⟨c, A.other W q, r⟩
theorem AB.keep {h' : Heap} {a : Addr} {n : Nat} {ws : List Addr} {f : Nat → Int32} (F : AB Z h a n f) (K : Keep h h' ws) (q : a ∉ ws) : AB Z h' a n f := by obtain ⟨c, A, r⟩ := F; exact ⟨c, ⟨K.2.1 a c A.1 q, A.2⟩, r⟩
theorem AB.lt {a : Addr} {n : Nat} {f : Nat → Int32} (F : AB Z h a n f) : a < h.size := by obtain ⟨c, A, -⟩ := F; exact A.lt
theorem AB.set {h' : Heap} {a : Addr} {n i : Nat} {x : Int32} {f : Nat → Int32} (F : AB Z h a n f) (W : Wr h h' a i (.int x)) : AB Z h' a n (ownSet f i x) := by
  obtain ⟨c, A, r1, r2, r3⟩ := F
  refine ⟨_, A.same W, by rw [sz_set]; exact r1, r2, fun k hk => ?_⟩
  by_cases e : k = i
  · subst e; simp [Cell.setSlot, ownSet, r1, hk]
  · rw [show (c.setSlot i (.int x)).slots[k]? = c.slots[k]? from Array.getElem?_setIfInBounds_ne (Ne.symm e), r3 k hk]; simp [ownSet, e]
theorem AB.cong {a : Addr} {n : Nat} {f g : Nat → Int32} (F : AB Z h a n f) (q : ∀ k, k < n → f k = g k) : AB Z h a n g := by obtain ⟨c, A, r1, r2, r3⟩ := F; exact ⟨c, A, r1, r2, fun k hk => by rw [r3 k hk, q k hk]⟩
theorem iaload {a : Addr} {j : Int32} {i n : Nat} {f : Nat → Int32} (hd : decode bs pc = .ok (.iaload, 1)) (hp : pc + 1 = pc') (A : AI Z h a n f) (hj : j.toInt = (i : Int)) (hi : i < n) (hr : Go K rm Z n0 bs ml ret own nm Q kc ks h pc' L (.int (f i) :: S)) : Go K rm Z n0 bs ml ret own nm Q kc ks h pc L (.int j :: .ref a :: S) := by
  subst hp
  obtain ⟨p, l, e, s, m, args, below, meth, c⟩ := K
  intro hx hby hml hown hZ hret hlk hnm T locs X hF hh
  obtain ⟨cl, A1, r1, r2, r3⟩ := A
  obtain ⟨g1, g2⟩ := inb hj hi
  obtain ⟨s₂, v, L', st, r⟩ := hr hx hby hml hown hZ hret hlk hnm T locs X hF hh
  exact ⟨s₂, v, L', X.iaload hx (j := j) (v := .int (f i)) (by rw [hh]; exact A1.1) (State.isArrayOf_alike hZ.alike A1.2.1) A1.2.2 (by rw [r1]; exact g1) (by rw [g2]; exact r3 i hi) (g := mkF m pc L (.int j :: .ref a :: S)) rfl rfl (hb hby hd) _ st, r⟩
theorem laload {a : Addr} {j : Int32} {i n : Nat} {f : Nat → Int64} (hd : decode bs pc = .ok (.laload, 1)) (hp : pc + 1 = pc') (A : AJ Z h a n f) (hj : j.toInt = (i : Int)) (hi : i < n) (hr : Go K rm Z n0 bs ml ret own nm Q kc ks h pc' L (.long (f i) :: S)) : Go K rm Z n0 bs ml ret own nm Q kc ks h pc L (.int j :: .ref a :: S) := by
  subst hp
  obtain ⟨p, l, e, s, m, args, below, meth, c⟩ := K
  intro hx hby hml hown hZ hret hlk hnm T locs X hF hh
  obtain ⟨cl, A1, r1, r2, r3⟩ := A
  obtain ⟨g1, g2⟩ := inb hj hi
  obtain ⟨s₂, v, L', st, r⟩ := hr hx hby hml hown hZ hret hlk hnm T locs X hF hh
  exact ⟨s₂, v, L', X.laload hx (j := j) (v := .long (f i)) (by rw [hh]; exact A1.1) (State.isArrayOf_alike hZ.alike A1.2.1) A1.2.2 (by rw [r1]; exact g1) (by rw [g2]; exact r3 i hi) (g := mkF m pc L (.int j :: .ref a :: S)) rfl rfl (hb hby hd) _ st, r⟩
theorem baload {a : Addr} {j : Int32} {i n : Nat} {f : Nat → Int32} (hd : decode bs pc = .ok (.baload, 1)) (hp : pc + 1 = pc') (A : AB Z h a n f) (hj : j.toInt = (i : Int)) (hi : i < n) (hr : Go K rm Z n0 bs ml ret own nm Q kc ks h pc' L (.int (f i) :: S)) : Go K rm Z n0 bs ml ret own nm Q kc ks h pc L (.int j :: .ref a :: S) := by
  subst hp
  obtain ⟨p, l, e, s, m, args, below, meth, c⟩ := K
  intro hx hby hml hown hZ hret hlk hnm T locs X hF hh
  obtain ⟨cl, A1, r1, r2, r3⟩ := A
  obtain ⟨g1, g2⟩ := inb hj hi
  obtain ⟨s₂, v, L', st, r⟩ := hr hx hby hml hown hZ hret hlk hnm T locs X hF hh
  exact ⟨s₂, v, L', X.baloadBytes hx (j := j) (v := .int (f i)) (by rw [hh]; exact A1.1) (State.isArrayOf_alike hZ.alike A1.2.1) A1.2.2 (by rw [r1]; exact g1) (by rw [g2]; exact r3 i hi) (g := mkF m pc L (.int j :: .ref a :: S)) rfl rfl (hb hby hd) _ st, r⟩
theorem iastore {a : Addr} {j : Int32} {x : Int32} {i n : Nat} {f : Nat → Int32} (hd : decode bs pc = .ok (.iastore, 1)) (hp : pc + 1 = pc') (A : AI Z h a n f) (hg : n0 ≤ a) (hj : j.toInt = (i : Int)) (hi : i < n) (hr : ∀ h', Wr h h' a i (.int x) → AI Z h' a n (ownSet f i x) → Go K rm Z n0 bs ml ret own nm Q kc ks h' pc' L S) : Go K rm Z n0 bs ml ret own nm Q kc ks h pc L (.int x :: .int j :: .ref a :: S) := by
  subst hp
  have A0 := A
  obtain ⟨p, l, e, s, m, args, below, meth, c⟩ := K
  intro hx hby hml hown hZ hret hlk hnm T locs X hF hh
  obtain ⟨cl, A1, r1, r2, r3⟩ := A
  obtain ⟨g1, g2⟩ := inb hj hi
  obtain ⟨T', h', X', e', W', st'⟩ := stI X hx hZ hh A1 (j := j) (by rw [r1]; exact g1) (g := mkF m pc L (.int x :: .int j :: .ref a :: S)) rfl rfl (hb hby hd)
  have W2 : Wr h h' a i (.int x) := by rw [g2] at W'; exact W'
  obtain ⟨s₂, v, L', st, r⟩ := hr h' W2 (A0.set W2) hx hby hml hown hZ hret hlk hnm T' _ X' (Fr.snoc X' hF hg) e'
  exact ⟨s₂, v, L', st' _ st, r⟩
theorem lastore {a : Addr} {j : Int32} {x : Int64} {i n : Nat} {f : Nat → Int64} (hd : decode bs pc = .ok (.lastore, 1)) (hp : pc + 1 = pc') (A : AJ Z h a n f) (hg : n0 ≤ a) (hj : j.toInt = (i : Int)) (hi : i < n) (hr : ∀ h', Wr h h' a i (.long x) → AJ Z h' a n (ownSet f i x) → Go K rm Z n0 bs ml ret own nm Q kc ks h' pc' L S) : Go K rm Z n0 bs ml ret own nm Q kc ks h pc L (.long x :: .int j :: .ref a :: S) := by
  subst hp
  have A0 := A
  obtain ⟨p, l, e, s, m, args, below, meth, c⟩ := K
  intro hx hby hml hown hZ hret hlk hnm T locs X hF hh
  obtain ⟨cl, A1, r1, r2, r3⟩ := A
  obtain ⟨g1, g2⟩ := inb hj hi
  obtain ⟨T', h', X', e', W', st'⟩ := stJ X hx hZ hh A1 (j := j) (by rw [r1]; exact g1) (g := mkF m pc L (.long x :: .int j :: .ref a :: S)) rfl rfl (hb hby hd)
  have W2 : Wr h h' a i (.long x) := by rw [g2] at W'; exact W'
  obtain ⟨s₂, v, L', st, r⟩ := hr h' W2 (A0.set W2) hx hby hml hown hZ hret hlk hnm T' _ X' (Fr.snoc X' hF hg) e'
  exact ⟨s₂, v, L', st' _ st, r⟩
theorem bastore {a : Addr} {j x : Int32} {i n : Nat} {f : Nat → Int32} (hd : decode bs pc = .ok (.bastore, 1)) (hp : pc + 1 = pc') (A : AB Z h a n f) (hg : n0 ≤ a) (hj : j.toInt = (i : Int)) (hi : i < n) (hr : ∀ h', Wr h h' a i (.int x.toInt8.toInt32) → AB Z h' a n (ownSet f i x.toInt8.toInt32) → Go K rm Z n0 bs ml ret own nm Q kc ks h' pc' L S) : Go K rm Z n0 bs ml ret own nm Q kc ks h pc L (.int x :: .int j :: .ref a :: S) := by
  subst hp
  have A0 := A
  obtain ⟨p, l, e, s, m, args, below, meth, c⟩ := K
  intro hx hby hml hown hZ hret hlk hnm T locs X hF hh
  obtain ⟨cl, A1, r1, r2, r3⟩ := A
  obtain ⟨g1, g2⟩ := inb hj hi
  obtain ⟨T', h', X', e', W', st'⟩ := stB X hx hZ hh A1 (j := j) (by rw [r1]; exact g1) (g := mkF m pc L (.int x :: .int j :: .ref a :: S)) rfl rfl (hb hby hd)
  have W2 : Wr h h' a i (.int x.toInt8.toInt32) := by rw [g2] at W'; exact W'
  obtain ⟨s₂, v, L', st, r⟩ := hr h' W2 (A0.set W2) hx hby hml hown hZ hret hlk hnm T' _ X' (Fr.snoc X' hF hg) e'
  exact ⟨s₂, v, L', st' _ st, r⟩
theorem newI {j : Int32} {n cap : Nat} (hd : decode bs pc = .ok (.newarray .int, 2)) (hp : pc + 2 = pc') (w : (Jvm.Cond.arrayClass .int).before a0 Z = true) (hj : j.toInt = (n : Int)) (hcap : n ≤ cap) (hb8 : cap * 8 ≤ 536870912) (hc : kc + 1 ≤ rm.cells) (hs : ks + cap ≤ rm.slots)
    (hr : ∀ a h', a = h.size → Ext h h' → AI Z h' a n (fun _ => 0) → Go K rm Z n0 bs ml ret own nm Q (kc + 1) (ks + cap) h' pc' L (.ref a :: S)) : Go K rm Z n0 bs ml ret own nm Q kc ks h pc L (.int j :: S) := by
  subst hp
  obtain ⟨p, l, e, s, m, args, below, meth, c⟩ := K
  intro hx hby hml hown hZ hret hlk hnm T locs X hF hh
  have hn : ¬ j < 0 := by rw [Int32.lt_iff_toInt_lt, hj]; simp
  have e : j.toNatClampNeg = n := by simp [Int32.toNatClampNeg, hj]
  obtain ⟨T', h', cA, X', e', E', A', st'⟩ := newP (aty := .int) X hx hZ w hh (g := mkF m pc L (.int j :: S)) rfl (hb hby hd) rfl hn (cap := cap) (by rw [e]; exact hcap) hb8 hc hs
  have hj2 := Int32.toInt_lt j
  have F : AI Z h' h.size n (fun _ => 0) := ⟨_, A', by rw [sz_new]; exact e, by omega, fun k hk => by
    have q : (newA cA .int j).slots[k]? = some (defaultValue .int) := by simp only [newA, e, Array.getElem?_replicate, if_pos hk]
    exact q⟩
  obtain ⟨s₂, v, L', st, r⟩ := hr _ h' rfl E' F hx hby hml hown hZ hret hlk hnm T' _ X' hF e'
  exact ⟨s₂, v, L', st' _ st, r⟩
theorem newJ {j : Int32} {n cap : Nat} (hd : decode bs pc = .ok (.newarray .long, 2)) (hp : pc + 2 = pc') (w : (Jvm.Cond.arrayClass .long).before a0 Z = true) (hj : j.toInt = (n : Int)) (hcap : n ≤ cap) (hb8 : cap * 8 ≤ 536870912) (hc : kc + 1 ≤ rm.cells) (hs : ks + cap ≤ rm.slots)
    (hr : ∀ a h', a = h.size → Ext h h' → AJ Z h' a n (fun _ => 0) → Go K rm Z n0 bs ml ret own nm Q (kc + 1) (ks + cap) h' pc' L (.ref a :: S)) : Go K rm Z n0 bs ml ret own nm Q kc ks h pc L (.int j :: S) := by
  subst hp
  obtain ⟨p, l, e, s, m, args, below, meth, c⟩ := K
  intro hx hby hml hown hZ hret hlk hnm T locs X hF hh
  have hn : ¬ j < 0 := by rw [Int32.lt_iff_toInt_lt, hj]; simp
  have e : j.toNatClampNeg = n := by simp [Int32.toNatClampNeg, hj]
  obtain ⟨T', h', cA, X', e', E', A', st'⟩ := newP (aty := .long) X hx hZ w hh (g := mkF m pc L (.int j :: S)) rfl (hb hby hd) rfl hn (cap := cap) (by rw [e]; exact hcap) hb8 hc hs
  have hj2 := Int32.toInt_lt j
  have F : AJ Z h' h.size n (fun _ => 0) := ⟨_, A', by rw [sz_new]; exact e, by omega, fun k hk => by
    have q : (newA cA .long j).slots[k]? = some (defaultValue .long) := by simp only [newA, e, Array.getElem?_replicate, if_pos hk]
    exact q⟩
  obtain ⟨s₂, v, L', st, r⟩ := hr _ h' rfl E' F hx hby hml hown hZ hret hlk hnm T' _ X' hF e'
  exact ⟨s₂, v, L', st' _ st, r⟩
theorem newB {j : Int32} {n cap : Nat} (hd : decode bs pc = .ok (.newarray .byte, 2)) (hp : pc + 2 = pc') (w : (Jvm.Cond.arrayClass .byte).before a0 Z = true) (hj : j.toInt = (n : Int)) (hcap : n ≤ cap) (hb8 : cap * 8 ≤ 536870912) (hc : kc + 1 ≤ rm.cells) (hs : ks + cap ≤ rm.slots)
    (hr : ∀ a h', a = h.size → Ext h h' → AB Z h' a n (fun _ => 0) → Go K rm Z n0 bs ml ret own nm Q (kc + 1) (ks + cap) h' pc' L (.ref a :: S)) : Go K rm Z n0 bs ml ret own nm Q kc ks h pc L (.int j :: S) := by
  subst hp
  obtain ⟨p, l, e, s, m, args, below, meth, c⟩ := K
  intro hx hby hml hown hZ hret hlk hnm T locs X hF hh
  have hn : ¬ j < 0 := by rw [Int32.lt_iff_toInt_lt, hj]; simp
  have e : j.toNatClampNeg = n := by simp [Int32.toNatClampNeg, hj]
  obtain ⟨T', h', cA, X', e', E', A', st'⟩ := newP (aty := .byte) X hx hZ w hh (g := mkF m pc L (.int j :: S)) rfl (hb hby hd) rfl hn (cap := cap) (by rw [e]; exact hcap) hb8 hc hs
  have hj2 := Int32.toInt_lt j
  have F : AB Z h' h.size n (fun _ => 0) := ⟨_, A', by rw [sz_new]; exact e, by omega, fun k hk => by
    have q : (newA cA .byte j).slots[k]? = some (defaultValue .byte) := by simp only [newA, e, Array.getElem?_replicate, if_pos hk]
    exact q⟩
  obtain ⟨s₂, v, L', st, r⟩ := hr _ h' rfl E' F hx hby hml hown hZ hret hlk hnm T' _ X' hF e'
  exact ⟨s₂, v, L', st' _ st, r⟩
theorem lenI {a : Addr} {n : Nat} {f : Nat → Int32} (hd : decode bs pc = .ok (.arraylength, 1)) (hp : pc + 1 = pc') (A : AI Z h a n f) (hr : ∀ z : Int32, z.toInt = (n : Int) → Go K rm Z n0 bs ml ret own nm Q kc ks h pc' L (.int z :: S)) : Go K rm Z n0 bs ml ret own nm Q kc ks h pc L (.ref a :: S) := by
  subst hp
  obtain ⟨p, l, e, s, m, args, below, meth, c⟩ := K
  intro hx hby hml hown hZ hret hlk hnm T locs X hF hh
  obtain ⟨cl, A1, r1, r2, r3⟩ := A
  obtain ⟨s₂, v, L', st, r⟩ := hr cl.slots.size.toInt32 (by rw [r1]; exact len_toInt r2) hx hby hml hown hZ hret hlk hnm T locs X hF hh
  exact ⟨s₂, v, L', X.arraylength hx (by rw [hh]; exact A1.1) (State.isArrayOf_alike hZ.alike A1.2.1) (g := mkF m pc L (.ref a :: S)) rfl rfl (hb hby hd) _ st, r⟩
theorem lenIE {a : Addr} {n : Nat} {z : Int32} {f : Nat → Int32} (hd : decode bs pc = .ok (.arraylength, 1)) (hp : pc + 1 = pc') (A : AI Z h a n f) (hz : z.toInt = (n : Int)) (hr : Go K rm Z n0 bs ml ret own nm Q kc ks h pc' L (.int z :: S)) : Go K rm Z n0 bs ml ret own nm Q kc ks h pc L (.ref a :: S) :=
  lenI hd hp A fun z' e => by obtain rfl : z' = z := Int32.toInt_inj.mp (e.trans hz.symm); exact hr
theorem lenJ {a : Addr} {n : Nat} {f : Nat → Int64} (hd : decode bs pc = .ok (.arraylength, 1)) (hp : pc + 1 = pc') (A : AJ Z h a n f) (hr : ∀ z : Int32, z.toInt = (n : Int) → Go K rm Z n0 bs ml ret own nm Q kc ks h pc' L (.int z :: S)) : Go K rm Z n0 bs ml ret own nm Q kc ks h pc L (.ref a :: S) := by
  subst hp
  obtain ⟨p, l, e, s, m, args, below, meth, c⟩ := K
  intro hx hby hml hown hZ hret hlk hnm T locs X hF hh
  obtain ⟨cl, A1, r1, r2, r3⟩ := A
  obtain ⟨s₂, v, L', st, r⟩ := hr cl.slots.size.toInt32 (by rw [r1]; exact len_toInt r2) hx hby hml hown hZ hret hlk hnm T locs X hF hh
  exact ⟨s₂, v, L', X.arraylength hx (by rw [hh]; exact A1.1) (State.isArrayOf_alike hZ.alike A1.2.1) (g := mkF m pc L (.ref a :: S)) rfl rfl (hb hby hd) _ st, r⟩
theorem lenJE {a : Addr} {n : Nat} {z : Int32} {f : Nat → Int64} (hd : decode bs pc = .ok (.arraylength, 1)) (hp : pc + 1 = pc') (A : AJ Z h a n f) (hz : z.toInt = (n : Int)) (hr : Go K rm Z n0 bs ml ret own nm Q kc ks h pc' L (.int z :: S)) : Go K rm Z n0 bs ml ret own nm Q kc ks h pc L (.ref a :: S) :=
  lenJ hd hp A fun z' e => by obtain rfl : z' = z := Int32.toInt_inj.mp (e.trans hz.symm); exact hr
theorem lenB {a : Addr} {n : Nat} {f : Nat → Int32} (hd : decode bs pc = .ok (.arraylength, 1)) (hp : pc + 1 = pc') (A : AB Z h a n f) (hr : ∀ z : Int32, z.toInt = (n : Int) → Go K rm Z n0 bs ml ret own nm Q kc ks h pc' L (.int z :: S)) : Go K rm Z n0 bs ml ret own nm Q kc ks h pc L (.ref a :: S) := by
  subst hp
  obtain ⟨p, l, e, s, m, args, below, meth, c⟩ := K
  intro hx hby hml hown hZ hret hlk hnm T locs X hF hh
  obtain ⟨cl, A1, r1, r2, r3⟩ := A
  obtain ⟨s₂, v, L', st, r⟩ := hr cl.slots.size.toInt32 (by rw [r1]; exact len_toInt r2) hx hby hml hown hZ hret hlk hnm T locs X hF hh
  exact ⟨s₂, v, L', X.arraylength hx (by rw [hh]; exact A1.1) (State.isArrayOf_alike hZ.alike A1.2.1) (g := mkF m pc L (.ref a :: S)) rfl rfl (hb hby hd) _ st, r⟩
theorem lenBE {a : Addr} {n : Nat} {z : Int32} {f : Nat → Int32} (hd : decode bs pc = .ok (.arraylength, 1)) (hp : pc + 1 = pc') (A : AB Z h a n f) (hz : z.toInt = (n : Int)) (hr : Go K rm Z n0 bs ml ret own nm Q kc ks h pc' L (.int z :: S)) : Go K rm Z n0 bs ml ret own nm Q kc ks h pc L (.ref a :: S) :=
  lenB hd hp A fun z' e => by obtain rfl : z' = z := Int32.toInt_inj.mp (e.trans hz.symm); exact hr
theorem clamp_of {j : Int32} {i : Nat} (hj : j.toInt = (i : Int)) : j.toNatClampNeg = i ∧ ¬ j < 0 := by
  refine ⟨by simp [Int32.toNatClampNeg, hj], ?_⟩
  rw [Int32.lt_iff_toInt_lt, hj]; simp
theorem AJ.arv {a : Addr} {n : Nat} {f : Nat → Int64} (F : AJ Z h a n f) : ∃ k, Arv Z h a k .long (Int32.ofInt n) ((List.range n).map fun i => Value.long (f i)) (.long 0) ∧ (Int32.ofInt (n : Int)).toNatClampNeg = n := by
  obtain ⟨c, A, r1, r2, r3⟩ := F
  have e : (Int32.ofInt (n : Int)).toInt = (n : Int) := by rw [Int32.toInt_ofInt]; exact LawKit.bmod32 (by omega) (by omega)
  obtain ⟨e1, e2⟩ := clamp_of e
  refine ⟨c.cls, ⟨c, A, rfl, by rw [r1, e1], e2, fun k hk => ?_, fun k hk => ?_⟩, e1⟩
  · rw [r1] at hk; rw [r3 k hk]; simp [List.getD_eq_getElem?_getD, hk]
  · rw [r1] at hk; simp [List.getD_eq_getElem?_getD, hk, fits]
theorem arraycopyJ {idx W : Nat} {a b : Addr} {sp dp nn : Int32} {n m i j k : Nat} {f g : Nat → Int64} (hd : decode bs pc = .ok (.invokestatic idx, 3)) (hp : pc + 3 = pc') (w1 : (Jvm.Cond.methodLink own idx Jvm.Stand.acN).before a0 Z = true) (w2 : (Jvm.Cond.native Jvm.Stand.acN).before a0 Z = true) (w3 : (Jvm.Cond.static Jvm.Stand.acN).before a0 Z = true) (w4 : (Jvm.Cond.initialized "java/lang/System").before a0 Z = true)
    (A : AJ Z h a n f) (B : AJ Z h b m g) (hsp : sp.toInt = (i : Int)) (hdp : dp.toInt = (j : Int)) (hnn : nn.toInt = (k : Int)) (h4 : i + k ≤ n) (h5 : j + k ≤ m) (ge : n0 ≤ b) (hL : L.size = ml) (hf : 1 ≤ rm.frames) (hW : (S.map fun v => v.category).sum = W) (hlo : W + (nativeFrameWords "java/lang/System" "arraycopy" 5 + 11) ≤ rm.locals)
    (hr : ∀ h', Keep h h' [b] → AJ Z h' b m (fun t => if j ≤ t ∧ t < j + k then f (i + (t - j)) else g t) → Go K rm Z n0 bs ml ret own nm Q kc ks h' pc' L S) : Go K rm Z n0 bs ml ret own nm Q kc ks h pc L (.int nn :: .int dp :: .ref b :: .int sp :: .ref a :: S) := by
  subst hp
  obtain ⟨ka, Va, ea⟩ := A.arv
  obtain ⟨kb, Vb, eb⟩ := B.arv
  obtain ⟨s1, s2⟩ := clamp_of hsp
  obtain ⟨d1, d2⟩ := clamp_of hdp
  obtain ⟨n1, n2⟩ := clamp_of hnn
  have hm : m < 2 ^ 31 := by obtain ⟨_, _, _, q, _⟩ := B; exact q
  obtain ⟨p, l, e, s, m_, args, below, meth, c⟩ := K
  intro hx hby hml hown hZ hret hlk hnm T locs X hF hh
  obtain ⟨T', h', L2, X', e', N', Kp, V', st'⟩ := cpA X hx hZ hown w1 w2 w3 w4 hh Va Vb (Or.inl ⟨rfl, rfl⟩) s2 d2 n2 (by rw [s1, n1, ea]; exact h4) (by rw [d1, n1, eb]; exact h5) rfl (by rw [d1, n1, List.length_map, List.length_range]; exact h5) hF ge (g := mkF m_ pc L (.int nn :: .int dp :: .ref b :: .int sp :: .ref a :: S)) rfl (by rw [hml]; exact hL) rfl (hb hby hd) hf (W := W) (by show 2 * 0 + _ ≤ _; omega) hlo
  have F' : AJ Z h' b m (fun t => if j ≤ t ∧ t < j + k then f (i + (t - j)) else g t) := by
    obtain ⟨c', A', -, q1, -, q2, -⟩ := V'
    refine ⟨c', A', by rw [q1, eb], hm, fun t ht => ?_⟩
    rw [q2 t (by rw [q1, eb]; exact ht), d1, n1, s1]
    congr 1
    show _ = Value.long (if j ≤ t ∧ t < j + k then f (i + (t - j)) else g t)
    rw [List.getD_eq_getElem?_getD]
    by_cases c1 : t < j
    · rw [if_neg (by omega), List.append_assoc, List.getElem?_append_left (by rw [List.length_take, List.length_map, List.length_range]; omega), List.getElem?_take_of_lt c1]
      simp [show t < m by omega]
    · by_cases c2 : t < j + k
      · rw [if_pos ⟨by omega, c2⟩, List.getElem?_append_left (by rw [List.length_append, List.length_take, List.length_map, List.length_range, List.length_map, List.length_range]; omega), List.getElem?_append_right (by rw [List.length_take, List.length_map, List.length_range]; omega), List.length_take, List.length_map, List.length_range, show min j m = j by omega]
        simp [List.getD_eq_getElem?_getD, show t - j < k by omega, show i + (t - j) < n by omega]
      · rw [if_neg (by omega), List.getElem?_append_right (by rw [List.length_append, List.length_take, List.length_map, List.length_range, List.length_map, List.length_range]; omega), List.length_append, List.length_take, List.length_map, List.length_range, List.length_map, List.length_range, show min j m = j by omega, List.getElem?_drop, show j + k + (t - (j + k)) = t by omega]
        simp [show t < m by omega]
  obtain ⟨s₂, v, L', st, r⟩ := hr h' Kp F' hx hby hml hown hZ hret hlk hnm T' _ X' N' e'
  exact ⟨s₂, v, L', st' _ st, r⟩
/-- an array of C of n places that hold f 0 .. f (n - 1) -/
def AR (Z : State) (h : Heap) (a : Addr) (C : String) (n : Nat) (f : Nat → Value) : Prop := ∃ cl : Cell, Arr Z h a cl (.object C) ∧ Ovr Z cl.cls C ∧ cl.slots.size = n ∧ n < 2 ^ 31 ∧ ∀ k, k < n → cl.slots[k]? = some (f k) ∧ (f k).isRef = true
def AZ (Z : State) (h : Heap) (a : Addr) (n : Nat) (f : Nat → Int32) : Prop := ∃ cl : Cell, Arr Z h a cl .boolean ∧ cl.slots.size = n ∧ n < 2 ^ 31 ∧ ∀ k, k < n → cl.slots[k]? = some (.int (f k))
theorem AZ.ext {h' : Heap} {a : Addr} {n : Nat} {f : Nat → Int32} (F : AZ Z h a n f) (E : Ext h h') : AZ Z h' a n f := by obtain ⟨c, A, r⟩ := F; exact ⟨c, A.ext E, r⟩
theorem AZ.other {h' : Heap} {a b : Addr} {sl n : Nat} {v : Value} {f : Nat → Int32} (F : AZ Z h b n f) (W : Wr h h' a sl v) (q : b ≠ a) : AZ Z h' b n f := by obtain ⟨c, A, r⟩ := F; exact ⟨c, A.other W q, r⟩
theorem AZ.keep {h' : Heap} {a : Addr} {n : Nat} {ws : List Addr} {f : Nat → Int32} (F : AZ Z h a n f) (K : Keep h h' ws) (q : a ∉ ws) : AZ Z h' a n f := by obtain ⟨c, A, r⟩ := F; exact ⟨c, ⟨K.2.1 a c A.1 q, A.2⟩, r⟩
theorem AZ.lt {a : Addr} {n : Nat} {f : Nat → Int32} (F : AZ Z h a n f) : a < h.size := by obtain ⟨c, A, -⟩ := F; exact A.lt
theorem AR.ext {h' : Heap} {a : Addr} {C : String} {n : Nat} {f : Nat → Value} (F : AR Z h a C n f) (E : Ext h h') : AR Z h' a C n f := by obtain ⟨c, A, r⟩ := F; exact ⟨c, A.ext E, r⟩
theorem AR.other {h' : Heap} {a b : Addr} {C : String} {sl n : Nat} {v : Value} {f : Nat → Value} (F : AR Z h b C n f) (W : Wr h h' a sl v) (q : b ≠ a) : AR Z h' b C n f := by obtain ⟨c, A, r⟩ := F; exact ⟨c, A.other W q, r⟩
theorem AR.keep {h' : Heap} {a : Addr} {C : String} {n : Nat} {ws : List Addr} {f : Nat → Value} (F : AR Z h a C n f) (K : Keep h h' ws) (q : a ∉ ws) : AR Z h' a C n f := by obtain ⟨c, A, r⟩ := F; exact ⟨c, ⟨K.2.1 a c A.1 q, A.2⟩, r⟩
theorem AR.lt {a : Addr} {C : String} {n : Nat} {f : Nat → Value} (F : AR Z h a C n f) : a < h.size := by obtain ⟨c, A, -⟩ := F; exact A.lt
theorem AR.set {h' : Heap} {a : Addr} {C : String} {n i : Nat} {x : Value} {f : Nat → Value} (F : AR Z h a C n f) (W : Wr h h' a i x) (hx : x.isRef = true) : AR Z h' a C n (ownSet f i x) := by
  obtain ⟨c, A, O, r1, r2, r3⟩ := F
  refine ⟨_, A.same W, O, by rw [sz_set]; exact r1, r2, fun k hk => ?_⟩
  by_cases e : k = i
  · subst e; simp [Cell.setSlot, ownSet, r1, hk, hx]
  · rw [show (c.setSlot i x).slots[k]? = c.slots[k]? from Array.getElem?_setIfInBounds_ne (Ne.symm e)]
    have := r3 k hk
    simp only [ownSet, if_neg e]; exact this
theorem newR {j : Int32} {n cap idx : Nat} {C : String} (hd : decode bs pc = .ok (.anewarray idx, 3)) (hp : pc + 3 = pc') (w1 : (Jvm.Cond.classLink own idx C).before a0 Z = true) (w2 : (Jvm.Cond.arrayOver (.object C)).before a0 Z = true) (hj : j.toInt = (n : Int)) (hcap : n ≤ cap) (hb8 : cap * 8 ≤ 536870912) (hc : kc + 1 ≤ rm.cells) (hs : ks + cap ≤ rm.slots)
    (hr : ∀ a h', a = h.size → Ext h h' → AR Z h' a C n (fun _ => .null) → Go K rm Z n0 bs ml ret own nm Q (kc + 1) (ks + cap) h' pc' L (.ref a :: S)) : Go K rm Z n0 bs ml ret own nm Q kc ks h pc L (.int j :: S) := by
  subst hp
  obtain ⟨p, l, e, s, m, args, below, meth, c⟩ := K
  intro hx hby hml hown hZ hret hlk hnm T locs X hF hh
  obtain ⟨e, hn⟩ := clamp_of hj
  obtain ⟨T', h', cA, X', e', E', A', O', st'⟩ := Jvm.RoadKit.newR X hx hZ hown w1 w2 hh (g := mkF m pc L (.int j :: S)) rfl (hb hby hd) rfl hn (cap := cap) (by rw [e]; exact hcap) hb8 hc hs
  have hj2 := Int32.toInt_lt j
  have F : AR Z h' h.size C n (fun _ => .null) := ⟨_, A', O', by rw [sz_new]; exact e, by omega, fun k hk => by
    have q : (newA cA (.object C) j).slots[k]? = some (defaultValue (.object C)) := by simp only [newA, e, Array.getElem?_replicate, if_pos hk]
    exact ⟨q, rfl⟩⟩
  obtain ⟨s₂, v, L', st, r⟩ := hr _ h' rfl E' F hx hby hml hown hZ hret hlk hnm T' _ X' hF e'
  exact ⟨s₂, v, L', st' _ st, r⟩
theorem newZ {j : Int32} {n cap : Nat} (hd : decode bs pc = .ok (.newarray .boolean, 2)) (hp : pc + 2 = pc') (w : (Jvm.Cond.arrayClass .boolean).before a0 Z = true) (hj : j.toInt = (n : Int)) (hcap : n ≤ cap) (hb8 : cap * 8 ≤ 536870912) (hc : kc + 1 ≤ rm.cells) (hs : ks + cap ≤ rm.slots)
    (hr : ∀ a h', a = h.size → Ext h h' → AZ Z h' a n (fun _ => 0) → Go K rm Z n0 bs ml ret own nm Q (kc + 1) (ks + cap) h' pc' L (.ref a :: S)) : Go K rm Z n0 bs ml ret own nm Q kc ks h pc L (.int j :: S) := by
  subst hp
  obtain ⟨p, l, e, s, m, args, below, meth, c⟩ := K
  intro hx hby hml hown hZ hret hlk hnm T locs X hF hh
  obtain ⟨e, hn⟩ := clamp_of hj
  obtain ⟨T', h', cA, X', e', E', A', st'⟩ := newP (aty := .boolean) X hx hZ w hh (g := mkF m pc L (.int j :: S)) rfl (hb hby hd) rfl hn (cap := cap) (by rw [e]; exact hcap) hb8 hc hs
  have hj2 := Int32.toInt_lt j
  have F : AZ Z h' h.size n (fun _ => 0) := ⟨_, A', by rw [sz_new]; exact e, by omega, fun k hk => by
    have q : (newA cA .boolean j).slots[k]? = some (defaultValue .boolean) := by simp only [newA, e, Array.getElem?_replicate, if_pos hk]
    exact q⟩
  obtain ⟨s₂, v, L', st, r⟩ := hr _ h' rfl E' F hx hby hml hown hZ hret hlk hnm T' _ X' hF e'
  exact ⟨s₂, v, L', st' _ st, r⟩
theorem aaload {a : Addr} {C : String} {j : Int32} {i n : Nat} {f : Nat → Value} (hd : decode bs pc = .ok (.aaload, 1)) (hp : pc + 1 = pc') (A : AR Z h a C n f) (hj : j.toInt = (i : Int)) (hi : i < n) (hr : Go K rm Z n0 bs ml ret own nm Q kc ks h pc' L (f i :: S)) : Go K rm Z n0 bs ml ret own nm Q kc ks h pc L (.int j :: .ref a :: S) := by
  subst hp
  obtain ⟨p, l, e, s, m, args, below, meth, c⟩ := K
  intro hx hby hml hown hZ hret hlk hnm T locs X hF hh
  obtain ⟨cl, A1, O1, r1, r2, r3⟩ := A
  obtain ⟨g1, g2⟩ := inb hj hi
  obtain ⟨s₂, v, L', st, r⟩ := hr hx hby hml hown hZ hret hlk hnm T locs X hF hh
  exact ⟨s₂, v, L', X.aaload hx (j := j) (v := f i) (by rw [hh]; exact A1.1) (State.isArrayOf_alike hZ.alike A1.2.1) rfl A1.2.2 (by rw [r1]; exact g1) (by rw [g2]; exact (r3 i hi).1) (g := mkF m pc L (.int j :: .ref a :: S)) rfl rfl (hb hby hd) _ st, r⟩
theorem aastore {a y : Addr} {C : String} {j : Int32} {i n : Nat} {f : Nat → Value} (hd : decode bs pc = .ok (.aastore, 1)) (hp : pc + 1 = pc') (A : AR Z h a C n f) (I : Ins Z h y C true) (hg : n0 ≤ a) (hj : j.toInt = (i : Int)) (hi : i < n) (hr : ∀ h', Wr h h' a i (.ref y) → AR Z h' a C n (ownSet f i (.ref y)) → Go K rm Z n0 bs ml ret own nm Q kc ks h' pc' L S) : Go K rm Z n0 bs ml ret own nm Q kc ks h pc L (.ref y :: .int j :: .ref a :: S) := by
  subst hp
  have A0 := A
  obtain ⟨p, l, e, s, m, args, below, meth, c⟩ := K
  intro hx hby hml hown hZ hret hlk hnm T locs X hF hh
  obtain ⟨cl, A1, O1, r1, r2, r3⟩ := A
  obtain ⟨g1, g2⟩ := inb hj hi
  obtain ⟨T', h', X', e', W', st'⟩ := stR X hx hZ hh A1 (j := j) (by rw [r1]; exact g1) rfl (Sto.of A1 O1 I) (g := mkF m pc L (.ref y :: .int j :: .ref a :: S)) rfl rfl (hb hby hd)
  have W2 : Wr h h' a i (.ref y) := by rw [g2] at W'; exact W'
  obtain ⟨s₂, v, L', st, r⟩ := hr h' W2 (A0.set W2 rfl) hx hby hml hown hZ hret hlk hnm T' _ X' (Fr.snoc X' hF hg) e'
  exact ⟨s₂, v, L', st' _ st, r⟩
theorem lenR {a : Addr} {C : String} {n : Nat} {f : Nat → Value} (hd : decode bs pc = .ok (.arraylength, 1)) (hp : pc + 1 = pc') (A : AR Z h a C n f) (hr : ∀ z : Int32, z.toInt = (n : Int) → Go K rm Z n0 bs ml ret own nm Q kc ks h pc' L (.int z :: S)) : Go K rm Z n0 bs ml ret own nm Q kc ks h pc L (.ref a :: S) := by
  subst hp
  obtain ⟨p, l, e, s, m, args, below, meth, c⟩ := K
  intro hx hby hml hown hZ hret hlk hnm T locs X hF hh
  obtain ⟨cl, A1, O1, r1, r2, r3⟩ := A
  obtain ⟨s₂, v, L', st, r⟩ := hr cl.slots.size.toInt32 (by rw [r1]; exact len_toInt r2) hx hby hml hown hZ hret hlk hnm T locs X hF hh
  exact ⟨s₂, v, L', X.arraylength hx (by rw [hh]; exact A1.1) (State.isArrayOf_alike hZ.alike A1.2.1) (g := mkF m pc L (.ref a :: S)) rfl rfl (hb hby hd) _ st, r⟩
theorem lenRE {a : Addr} {C : String} {n : Nat} {z : Int32} {f : Nat → Value} (hd : decode bs pc = .ok (.arraylength, 1)) (hp : pc + 1 = pc') (A : AR Z h a C n f) (hz : z.toInt = (n : Int)) (hr : Go K rm Z n0 bs ml ret own nm Q kc ks h pc' L (.int z :: S)) : Go K rm Z n0 bs ml ret own nm Q kc ks h pc L (.ref a :: S) :=
  lenR hd hp A fun z' e => by obtain rfl : z' = z := Int32.toInt_inj.mp (e.trans hz.symm); exact hr
theorem putfieldN {R0 O n d C : String} {idx kk : Nat} {ty : FieldType} {a : Addr} {v v' old : Value} (hd : decode bs pc = .ok (.putfield idx, 3)) (hp : pc + 3 = pc') (w : (Jvm.Cond.fieldLink own idx R0 n d).before a0 Z = true) (via : Via Z R0 O n d)
    (F : Fld Z h a O n d old) (E : Exa Z h a C) (Lw : (Jvm.Cond.lays C O n d).before a0 Z = true ∨ ((Jvm.Cond.laysFinal C O n d).before a0 Z = true ∧ own = O ∧ nm = "<init>")) (wi : (Jvm.Cond.instantiable C kk).before a0 Z = true)
    (hty : parseFieldDescriptor d = some ty) (hn : narrow ty v = v') (hf : fits ty v' = true) (hg : n0 ≤ a) (hr : ∀ h', Wr h h' a (Jvm.RoadKit.slotOf Z O n d) v' → Go K rm Z n0 bs ml ret own nm Q kc ks h' pc' L S) : Go K rm Z n0 bs ml ret own nm Q kc ks h pc L (v :: .ref a :: S) := by
  subst hp
  obtain ⟨p, l, e, s, m, args, below, meth, c⟩ := K
  intro hx hby hml hown hZ hret hlk hnm T locs X hF hh
  obtain ⟨T', h', X', e', W', st'⟩ := putFN X hx hZ hown w via hh F E (Lw.imp id fun q => ⟨q.1, q.2.1, hnm.trans q.2.2⟩) wi hty hn hf (g := mkF m pc L (v :: .ref a :: S)) rfl rfl (hb hby hd)
  obtain ⟨s₂, v, L', st, r⟩ := hr h' W' hx hby hml hown hZ hret hlk hnm T' _ X' (Fr.snoc X' hF hg) e'
  exact ⟨s₂, v, L', st' _ st, r⟩
theorem AR.arv {a : Addr} {C : String} {n : Nat} {f : Nat → Value} (F : AR Z h a C n f) : ∃ k, Arv Z h a k (.object C) (Int32.ofInt n) ((List.range n).map f) .null ∧ (Int32.ofInt (n : Int)).toNatClampNeg = n := by
  obtain ⟨c, A, -, r1, r2, r3⟩ := F
  have e : (Int32.ofInt (n : Int)).toInt = (n : Int) := by rw [Int32.toInt_ofInt]; exact LawKit.bmod32 (by omega) (by omega)
  obtain ⟨e1, e2⟩ := clamp_of e
  refine ⟨c.cls, ⟨c, A, rfl, by rw [r1, e1], e2, fun k hk => ?_, fun k hk => ?_⟩, e1⟩
  · rw [r1] at hk; rw [(r3 k hk).1]; simp [List.getD_eq_getElem?_getD, hk]
  · rw [r1] at hk; have := (r3 k hk).2; simp [List.getD_eq_getElem?_getD, hk]; rcases ref_cases this with q | ⟨x, q⟩ <;> rw [q] <;> rfl
theorem arraycopyR0 {idx W : Nat} {a b : Addr} {C : String} {sp dp nn : Int32} {n m i j : Nat} {f g : Nat → Value} (hd : decode bs pc = .ok (.invokestatic idx, 3)) (hp : pc + 3 = pc') (w1 : (Jvm.Cond.methodLink own idx Jvm.Stand.acN).before a0 Z = true) (w2 : (Jvm.Cond.native Jvm.Stand.acN).before a0 Z = true) (w3 : (Jvm.Cond.static Jvm.Stand.acN).before a0 Z = true) (w4 : (Jvm.Cond.initialized "java/lang/System").before a0 Z = true)
    (A : AR Z h a C n f) (B : AR Z h b C m g) (hsp : sp.toInt = (i : Int)) (hdp : dp.toInt = (j : Int)) (hnn : nn.toInt = 0) (h4 : i ≤ n) (h5 : j ≤ m) (ge : n0 ≤ b) (hL : L.size = ml) (hf : 1 ≤ rm.frames) (hW : (S.map fun v => v.category).sum = W) (hlo : W + (nativeFrameWords "java/lang/System" "arraycopy" 5 + 11) ≤ rm.locals)
    (hr : ∀ h', Keep h h' [b] → AR Z h' b C m g → Go K rm Z n0 bs ml ret own nm Q kc ks h' pc' L S) : Go K rm Z n0 bs ml ret own nm Q kc ks h pc L (.int nn :: .int dp :: .ref b :: .int sp :: .ref a :: S) := by
  subst hp
  obtain ⟨ka, Va, ea⟩ := A.arv
  obtain ⟨kb, Vb, eb⟩ := B.arv
  obtain ⟨s1, s2⟩ := clamp_of hsp
  obtain ⟨d1, d2⟩ := clamp_of hdp
  obtain ⟨n1, n2⟩ := clamp_of (i := 0) hnn
  obtain ⟨cB, AB1, OB, rB1, hm, rB3⟩ := B
  obtain ⟨p, l, e, s, m_, args, below, meth, c⟩ := K
  intro hx hby hml hown hZ hret hlk hnm T locs X hF hh
  obtain ⟨T', h', L2, X', e', N', Kp, V', st'⟩ := cpA X hx hZ hown w1 w2 w3 w4 hh Va Vb (us := []) (Or.inr ⟨rfl, rfl, trivial⟩) s2 d2 n2 (by rw [s1, n1, ea]; exact h4) (by rw [d1, n1, eb]; exact h5) (by rw [n1]; rfl) (by rw [d1, n1, List.length_map, List.length_range]; exact h5) hF ge (g := mkF m_ pc L (.int nn :: .int dp :: .ref b :: .int sp :: .ref a :: S)) rfl (by rw [hml]; exact hL) rfl (hb hby hd) hf (W := W) (by show 2 * 0 + _ ≤ _; omega) hlo
  have F' : AR Z h' b C m g := by
    obtain ⟨c', A', q0, q1, -, q2, -⟩ := V'
    refine ⟨c', A', ?_, by rw [q1, eb], hm, fun t ht => ?_⟩
    · obtain ⟨c2, p1, p2, -⟩ := Kp.2.2 b cB AB1.1
      have : c' = c2 := Option.some.inj (A'.1.symm.trans p1)
      rw [this, p2]; exact OB
    · refine ⟨?_, (rB3 t ht).2⟩
      rw [q2 t (by rw [q1, eb]; exact ht), d1, n1]
      simp [List.getD_eq_getElem?_getD, ht]
  obtain ⟨s₂, v, L', st, r⟩ := hr h' Kp F' hx hby hml hown hZ hret hlk hnm T' _ X' N' e'
  exact ⟨s₂, v, L', st' _ st, r⟩
end Laws
end Jvm.Own
@@BLOCK:NumsL.lean.txt@@
namespace Jvm.Own
theorem i64_nat (x : Int64) (h : 0 ≤ x.toInt) : (x.toBitVec.toNat : Int) = x.toInt := by
  have hl := x.toBitVec.isLt
  have e : x.toInt = x.toBitVec.toInt := rfl
  rw [e] at h ⊢
  rw [BitVec.toInt_eq_toNat_cond] at h ⊢
  split at h <;> rename_i hc
  · rw [if_pos hc]
  · omega
theorem i64_ofnat (x : Int64) (h : x.toBitVec.toNat < 2 ^ 63) : x.toInt = (x.toBitVec.toNat : Int) := by
  show x.toBitVec.toInt = _
  rw [BitVec.toInt_eq_toNat_cond, if_pos (by omega)]
theorem i64_or (x y : Int64) (k q : Nat) (hx : x.toInt = (q : Int) * 2 ^ k) (hy0 : 0 ≤ y.toInt) (hy : y.toInt < 2 ^ k) (hb : (q : Int) * 2 ^ k + 2 ^ k ≤ 2 ^ 63) : (x ||| y).toInt = x.toInt + y.toInt := by
  have c : ((q * 2 ^ k : Nat) : Int) = (q : Int) * 2 ^ k := by simp
  have c2 : ((2 ^ k : Nat) : Int) = 2 ^ k := by simp
  have x0 : 0 ≤ x.toInt := by omega
  have hx' := i64_nat x x0
  have hy' := i64_nat y hy0
  have ex : x.toBitVec.toNat = 2 ^ k * q := by rw [Nat.mul_comm]; omega
  have ey : y.toBitVec.toNat < 2 ^ k := by omega
  have e : (x ||| y).toBitVec.toNat = x.toBitVec.toNat + y.toBitVec.toNat := by
    rw [Int64.toBitVec_or, BitVec.toNat_or, ex, ← Nat.two_pow_add_eq_or_of_lt ey]
  rw [i64_ofnat _ (by omega), e]; omega
theorem i64_hi (x m : Int64) (k : Nat) (hk : k < 63) (hm : m.toBitVec.toNat = (2 ^ (64 - k) - 1) * 2 ^ k) (h0 : 0 ≤ x.toInt) : (x &&& m).toInt = x.toInt / 2 ^ k * 2 ^ k := by
  have hx' := i64_nat x h0
  have hl := x.toBitVec.isLt
  have c2 : ((2 ^ k : Nat) : Int) = 2 ^ k := by simp
  have hlt := Int64.toInt_lt x
  have e : (x &&& m).toBitVec.toNat = x.toBitVec.toNat / 2 ^ k * 2 ^ k := by
    rw [Int64.toBitVec_and, BitVec.toNat_and, hm, ← Nat.shiftLeft_eq, ← Nat.shiftLeft_eq, ← Nat.shiftRight_eq_div_pow]
    apply Nat.eq_of_testBit_eq
    intro i
    rw [Nat.testBit_and, Nat.testBit_shiftLeft, Nat.testBit_shiftLeft, Nat.testBit_two_pow_sub_one, Nat.testBit_shiftRight]
    by_cases q : k ≤ i
    · rw [show k + (i - k) = i by omega]
      by_cases q2 : i < 64
      · simp [q, show i - k < 64 - k by omega]
      · rw [Nat.testBit_lt_two_pow (Nat.lt_of_lt_of_le hl (Nat.pow_le_pow_right (by omega) (by omega)))]; simp
    · simp [q]
  have le : x.toBitVec.toNat / 2 ^ k * 2 ^ k ≤ x.toBitVec.toNat := Nat.div_mul_le_self _ _
  rw [i64_ofnat _ (by omega), e, ← hx', ← c2]; simp
theorem i32_nat (x : Int32) (h : 0 ≤ x.toInt) : (x.toBitVec.toNat : Int) = x.toInt := by
  have hl := x.toBitVec.isLt
  have e : x.toInt = x.toBitVec.toInt := rfl
  rw [e] at h ⊢
  rw [BitVec.toInt_eq_toNat_cond] at h ⊢
  split at h <;> rename_i hc
  · rw [if_pos hc]
  · omega
theorem i32_ofnat (x : Int32) (h : x.toBitVec.toNat < 2 ^ 31) : x.toInt = (x.toBitVec.toNat : Int) := by
  show x.toBitVec.toInt = _
  rw [BitVec.toInt_eq_toNat_cond, if_pos (by omega)]
theorem i2c_small (y : Int32) (h0 : 0 ≤ y.toInt) (h1 : y.toInt < 65536) : y.toUInt32.toUInt16.toUInt32.toInt32 = y := by
  apply Int32.toBitVec_inj.mp
  apply BitVec.eq_of_toNat_eq
  have h := i32_nat y h0
  have e : y.toUInt32.toUInt16.toUInt32.toInt32.toBitVec.toNat = y.toUInt32.toUInt16.toUInt32.toNat := rfl
  rw [e, UInt16.toNat_toUInt32, UInt32.toNat_toUInt16]
  show y.toBitVec.toNat % 2 ^ 16 = _
  omega
theorem ushrL_nn (x : Int64) (h0 : 0 ≤ x.toInt) (y : Int32) {k : Nat} (hy : y.toInt = (k : Int)) (hk : k < 64) : (Jvm.Own.ushrL x y).toInt = x.toInt / 2 ^ k := by
  refine Jvm.Kit.i64_lushr (Jvm.Kit.i64_nonneg.mpr h0) ?_ hk
  have e1 := i32_nat y (by omega)
  have e2 : y.toInt64.toBitVec.toNat = k := by
    have := i64_nat y.toInt64 (by rw [Int32.toInt_toInt64]; omega)
    rw [Int32.toInt_toInt64] at this; omega
  have e4 := Jvm.Kit.i32_mask y 63 (k := 6) (by decide) (by decide)
  have e5 := i64_nat (y &&& 63).toInt64 (by rw [Int32.toInt_toInt64]; omega)
  rw [Int32.toInt_toInt64] at e5
  have e6 : (y &&& 63).toInt64.toUInt64.toNat = (y &&& 63).toInt64.toBitVec.toNat := rfl
  omega
theorem ushrL_bv (x : Int64) (y : Int32) (k : Nat) (hy : y.toInt = (k : Int)) (hk : k < 64) : Jvm.Own.ushrL x y = Int64.ofBitVec (x.toBitVec >>> k) := by
  have e4 := Jvm.Kit.i32_mask y 63 (k := 6) (by decide) (by decide)
  have e5 := i64_nat (y &&& 63).toInt64 (by rw [Int32.toInt_toInt64]; omega)
  rw [Int32.toInt_toInt64] at e5
  have e6 : (y &&& 63).toInt64.toUInt64.toBitVec.toNat = k := by
    have : (y &&& 63).toInt64.toUInt64.toBitVec.toNat = (y &&& 63).toInt64.toBitVec.toNat := rfl
    omega
  apply Int64.toBitVec_inj.mp
  apply BitVec.eq_of_toNat_eq
  show (x.toUInt64 >>> (y &&& 63).toInt64.toUInt64).toBitVec.toNat = (x.toBitVec >>> k).toNat
  rw [UInt64.toBitVec_shiftRight, BitVec.ushiftRight_eq', BitVec.toNat_ushiftRight, BitVec.toNat_ushiftRight, BitVec.toNat_umod, e6]
  show x.toBitVec.toNat >>> (k % 64) = _
  rw [Nat.mod_eq_of_lt hk]
end Jvm.Own
namespace Jvm.Pilot.@@N@@
open Jvm Jvm.ClassFile Sem Op Lib Jvm.Free Jvm.Stand Jvm.LawKit Jvm.RoadKit Bundle Jvm.Own Jvm.Pilot.@@N@@.Jvm.D
def own_D (n0 : Nat) (o aK aO aS aL aR : Addr) : Prop := n0 ≤ o ∧ n0 ≤ aK ∧ n0 ≤ aO ∧ n0 ≤ aS ∧ n0 ≤ aL ∧ n0 ≤ aR ∧ o ≠ aK ∧ o ≠ aO ∧ o ≠ aS ∧ o ≠ aL ∧ o ≠ aR ∧ aK ≠ aO ∧ aK ≠ aS ∧ aK ≠ aL ∧ aK ≠ aR ∧ aO ≠ aS ∧ aO ≠ aL ∧ aO ≠ aR ∧ aS ≠ aL ∧ aS ≠ aR ∧ aL ≠ aR
def own_K (Z : State) (h : Heap) (o aK aO aS aL aR : Addr) (kf of : Nat → Int64) (lf rf : Nat → Int32) (us un rt : Int32) : Prop := ∃ sf, Exa Z h o "com/example/lowtide/lowtide/compact/KeyedSums" ∧ Fld Z h o "com/example/lowtide/lowtide/compact/KeyedSums" "keys" "[J" (.ref aK) ∧ Fld Z h o "com/example/lowtide/lowtide/compact/KeyedSums" "own" "[J" (.ref aO) ∧ Fld Z h o "com/example/lowtide/lowtide/compact/KeyedSums" "sums" "[J" (.ref aS) ∧ Fld Z h o "com/example/lowtide/lowtide/compact/KeyedSums" "left" "[I" (.ref aL) ∧ Fld Z h o "com/example/lowtide/lowtide/compact/KeyedSums" "right" "[I" (.ref aR) ∧ Fld Z h o "com/example/lowtide/lowtide/compact/KeyedSums" "used" "I" (.int us) ∧ Fld Z h o "com/example/lowtide/lowtide/compact/KeyedSums" "unused" "I" (.int un) ∧ Fld Z h o "com/example/lowtide/lowtide/compact/KeyedSums" "root" "I" (.int rt) ∧ AJ Z h aK 16 kf ∧ AJ Z h aO 16 of ∧ AJ Z h aS 16 sf ∧ AI Z h aL 16 lf ∧ AI Z h aR 16 rf
def own_Tn (lf rf : Nat → Int32) : Nat → Int32 → List Nat → Prop
  | 0, x, ps => x = -1 ∧ ps = []
  | n+1, x, ps => (x = -1 ∧ ps = []) ∨ ∃ (k : Nat) (l r : List Nat), k < 16 ∧ x.toInt = (k : Int) ∧ ps = l ++ k :: r ∧ own_Tn lf rf n (lf k) l ∧ own_Tn lf rf n (rf k) r
def own_T (lf rf : Nat → Int32) (x : Int32) (ps : List Nat) : Prop := ∃ n, own_Tn lf rf n x ps
def own_V (x : Int32) : Prop := x = -1 ∨ ∃ k : Nat, k < 16 ∧ x.toInt = (k : Int)
theorem own_Tn_succ {lf rf : Nat → Int32} : ∀ (n : Nat) (x : Int32) (ps : List Nat), own_Tn lf rf n x ps → own_Tn lf rf (n+1) x ps := by
  intro n
  induction n with
  | zero => intro x ps h; exact Or.inl h
  | succ n ih =>
    intro x ps h
    rcases h with h | ⟨k, l, r, h1, h2, h3, h4, h5⟩
    · exact Or.inl h
    · exact Or.inr ⟨k, l, r, h1, h2, h3, ih _ _ h4, ih _ _ h5⟩
theorem own_Tn_le {lf rf : Nat → Int32} {n m : Nat} {x : Int32} {ps : List Nat} (h : n ≤ m) (H : own_Tn lf rf n x ps) : own_Tn lf rf m x ps := by
  induction h with
  | refl => exact H
  | step _ ih => exact own_Tn_succ _ _ _ ih
theorem own_Tc {lf rf : Nat → Int32} {x : Int32} {ps : List Nat} (H : own_T lf rf x ps) : (x = -1 ∧ ps = []) ∨ ∃ (k : Nat) (l r : List Nat), k < 16 ∧ x.toInt = (k : Int) ∧ ps = l ++ k :: r ∧ own_T lf rf (lf k) l ∧ own_T lf rf (rf k) r := by
  obtain ⟨n, H⟩ := H
  cases n with
  | zero => exact Or.inl H
  | succ n =>
    rcases H with h | ⟨k, l, r, h1, h2, h3, h4, h5⟩
    · exact Or.inl h
    · exact Or.inr ⟨k, l, r, h1, h2, h3, ⟨n, h4⟩, ⟨n, h5⟩⟩
theorem own_Tk {lf rf : Nat → Int32} {x : Int32} {k : Nat} {l r : List Nat} (h1 : k < 16) (h2 : x.toInt = (k : Int)) (h4 : own_T lf rf (lf k) l) (h5 : own_T lf rf (rf k) r) : own_T lf rf x (l ++ k :: r) := by
  obtain ⟨n, h4⟩ := h4; obtain ⟨m, h5⟩ := h5
  exact ⟨max n m + 1, Or.inr ⟨k, l, r, h1, h2, rfl, own_Tn_le (Nat.le_max_left n m) h4, own_Tn_le (Nat.le_max_right n m) h5⟩⟩
theorem own_T0 {lf rf : Nat → Int32} : own_T lf rf (-1) [] := ⟨0, rfl, rfl⟩
theorem own_nm1 {x : Int32} {k : Nat} (h : x.toInt = (k : Int)) : x ≠ -1 := fun e => by rw [e, show (-1 : Int32).toInt = -1 by decide] at h; omega
theorem own_Tz {lf rf : Nat → Int32} {x : Int32} {ps : List Nat} (H : own_T lf rf x ps) (hx : x = -1) : ps = [] := by
  rcases own_Tc H with ⟨-, h⟩ | ⟨k, l, r, -, h, -⟩
  · exact h
  · exact absurd hx (own_nm1 h)
theorem own_Tn1 {lf rf : Nat → Int32} {x : Int32} {ps : List Nat} (H : own_T lf rf x ps) (hx : x ≠ -1) : ∃ (k : Nat) (l r : List Nat), k < 16 ∧ x.toInt = (k : Int) ∧ ps = l ++ k :: r ∧ own_T lf rf (lf k) l ∧ own_T lf rf (rf k) r := by
  rcases own_Tc H with ⟨h, -⟩ | h
  · exact absurd h hx
  · exact h
theorem own_TV {lf rf : Nat → Int32} {x : Int32} {ps : List Nat} (H : own_T lf rf x ps) : own_V x := by
  rcases own_Tc H with ⟨h, -⟩ | ⟨k, l, r, h1, h, -⟩
  · exact Or.inl h
  · exact Or.inr ⟨k, h1, h⟩
theorem own_Tcong {lf rf lf' rf' : Nat → Int32} {x : Int32} {ps : List Nat} (H : own_T lf rf x ps) (e : ∀ p ∈ ps, lf' p = lf p ∧ rf' p = rf p) : own_T lf' rf' x ps := by
  obtain ⟨n, H⟩ := H
  refine ⟨n, ?_⟩
  induction n generalizing x ps with
  | zero => exact H
  | succ n ih =>
    rcases H with h | ⟨k, l, r, h1, h2, rfl, h4, h5⟩
    · exact Or.inl h
    · obtain ⟨e1, e2⟩ := e k (by simp)
      refine Or.inr ⟨k, l, r, h1, h2, rfl, ?_, ?_⟩
      · rw [e1]; exact ih (fun p hp => e p (by simp [hp])) h4
      · rw [e2]; exact ih (fun p hp => e p (by simp [hp])) h5
theorem own_Tlt {lf rf : Nat → Int32} {x : Int32} {ps : List Nat} (H : own_T lf rf x ps) : ∀ p ∈ ps, p < 16 := by
  obtain ⟨n, H⟩ := H
  induction n generalizing x ps with
  | zero => obtain ⟨-, rfl⟩ := H; simp
  | succ n ih =>
    rcases H with ⟨-, rfl⟩ | ⟨k, l, r, h1, h2, rfl, h4, h5⟩
    · simp
    · intro p hp
      rcases List.mem_append.mp hp with hp | hp
      · exact ih h4 p hp
      · rcases List.mem_cons.mp hp with rfl | hp
        · exact h1
        · exact ih h5 p hp
theorem own_set_eq {α : Type} {f : Nat → α} {i : Nat} {v : α} : ownSet f i v i = v := by simp [ownSet]
theorem own_set_ne {α : Type} {f : Nat → α} {i t : Nat} {v : α} (h : t ≠ i) : ownSet f i v t = f t := by simp [ownSet, h]
/-- what the places hold, in order -/
def own_c (kf of : Nat → Int64) (ps : List Nat) : List (Int64 × Int64) := ps.map fun p => (kf p, of p)
def own_add : List (Int64 × Int64) → Int64 → Int64 → List (Int64 × Int64)
  | [], k, w => [(k, w)]
  | a :: t, k, w => if k = a.1 then (if a.2 + w = 0 then t else (a.1, a.2 + w) :: t) else if k.toInt < a.1.toInt then (k, w) :: a :: t else a :: own_add t k w
def own_S (c : List (Int64 × Int64)) : Prop := c.Pairwise fun a b => a.1.toInt < b.1.toInt
theorem own_add_left {k w : Int64} {x : Int64 × Int64} {b : List (Int64 × Int64)} (h : k.toInt < x.1.toInt) : ∀ a : List (Int64 × Int64), own_add (a ++ x :: b) k w = own_add a k w ++ x :: b
  | [] => by
    have e : k ≠ x.1 := fun e => by rw [e] at h; omega
    simp [own_add, e, h]
  | y :: a => by
    simp only [List.cons_append, own_add]
    split
    · split <;> rfl
    · split
      · rfl
      · rw [own_add_left h a]; rfl
theorem own_add_right {k w : Int64} {x : Int64 × Int64} {b : List (Int64 × Int64)} (h : x.1.toInt < k.toInt) : ∀ a : List (Int64 × Int64), (∀ y ∈ a, y.1.toInt < x.1.toInt) → own_add (a ++ x :: b) k w = a ++ x :: own_add b k w
  | [], _ => by
    have e : k ≠ x.1 := fun e => by rw [e] at h; omega
    have e2 : ¬ k.toInt < x.1.toInt := by omega
    simp [own_add, e, e2]
  | y :: a, hy => by
    have h1 := hy y (by simp)
    have e : k ≠ y.1 := fun e => by rw [e] at h; omega
    have e2 : ¬ k.toInt < y.1.toInt := by omega
    simp only [List.cons_append, own_add, if_neg e, if_neg e2]
    rw [own_add_right h a fun z hz => hy z (by simp [hz])]
theorem own_add_here {k w v : Int64} {b : List (Int64 × Int64)} : ∀ a : List (Int64 × Int64), (∀ y ∈ a, y.1.toInt < k.toInt) → own_add (a ++ (k, v) :: b) k w = a ++ (if v + w = 0 then b else (k, v + w) :: b)
  | [], _ => by simp [own_add]
  | y :: a, hy => by
    have h1 := hy y (by simp)
    have e : k ≠ y.1 := fun e => by rw [e] at h1; omega
    have e2 : ¬ k.toInt < y.1.toInt := by omega
    simp only [List.cons_append, own_add, if_neg e, if_neg e2]
    rw [own_add_here a fun z hz => hy z (by simp [hz])]
theorem own_add_len {k w : Int64} : ∀ c : List (Int64 × Int64), (own_add c k w).length ≤ c.length + 1
  | [] => by simp [own_add]
  | y :: a => by
    simp only [own_add]
    split
    · split <;> simp <;> omega
    · split
      · simp
      · have := own_add_len (k := k) (w := w) a; simp; omega
theorem own_add_mem {k w : Int64} : ∀ (c : List (Int64 × Int64)) (y : Int64 × Int64), y ∈ own_add c k w → y.1 = k ∨ ∃ z ∈ c, z.1 = y.1
  | [], y, h => by simp only [own_add, List.mem_singleton] at h; subst h; exact Or.inl rfl
  | x :: a, y, h => by
    simp only [own_add] at h
    split at h
    · split at h
      · exact Or.inr ⟨y, by simp [h], rfl⟩
      · rcases List.mem_cons.mp h with rfl | h
        · exact Or.inr ⟨x, by simp, rfl⟩
        · exact Or.inr ⟨y, by simp [h], rfl⟩
    · split at h
      · rcases List.mem_cons.mp h with rfl | h
        · exact Or.inl rfl
        · exact Or.inr ⟨y, h, rfl⟩
      · rcases List.mem_cons.mp h with rfl | h
        · exact Or.inr ⟨y, by simp, rfl⟩
        · rcases own_add_mem a y h with h | ⟨z, hz, e⟩
          · exact Or.inl h
          · exact Or.inr ⟨z, by simp [hz], e⟩
theorem own_add_S {k w : Int64} : ∀ c : List (Int64 × Int64), own_S c → own_S (own_add c k w)
  | [], _ => by simp [own_add, own_S]
  | x :: a, h => by
    obtain ⟨h1, h2⟩ := List.pairwise_cons.mp h
    simp only [own_add]
    split
    · split
      · exact h2
      · exact List.pairwise_cons.mpr ⟨h1, h2⟩
    · rename_i hk
      split
      · rename_i hl
        refine List.pairwise_cons.mpr ⟨fun y hy => ?_, h⟩
        rcases List.mem_cons.mp hy with rfl | hy
        · exact hl
        · have := h1 y hy; exact Int.lt_trans hl this
      · rename_i hl
        refine List.pairwise_cons.mpr ⟨fun y hy => ?_, own_add_S a h2⟩
        have hne : k.toInt ≠ x.1.toInt := fun e => hk (Int64.toInt_inj.mp e)
        rcases own_add_mem a y hy with e | ⟨z, hz, e⟩
        · rw [e]; omega
        · rw [← e]; exact h1 z hz
theorem own_add_nz {k w : Int64} (hw : w ≠ 0) : ∀ c : List (Int64 × Int64), (∀ y ∈ c, y.2 ≠ 0) → ∀ y ∈ own_add c k w, y.2 ≠ 0
  | [], _, y, h => by simp only [own_add, List.mem_singleton] at h; subst h; exact hw
  | x :: a, H, y, h => by
    simp only [own_add] at h
    have Ha : ∀ z ∈ a, z.2 ≠ 0 := fun z hz => H z (by simp [hz])
    split at h
    · split at h
      · exact Ha y h
      · rename_i hne
        rcases List.mem_cons.mp h with rfl | h
        · exact hne
        · exact Ha y h
    · split at h
      · rcases List.mem_cons.mp h with rfl | h
        · exact hw
        · exact H y h
      · rcases List.mem_cons.mp h with rfl | h
        · exact H y (by simp)
        · exact own_add_nz hw a Ha y h
theorem own_S_nd {kf of : Nat → Int64} {ps : List Nat} (h : own_S (own_c kf of ps)) : ps.Nodup := by
  have h' : ps.Pairwise fun p q => (kf p).toInt < (kf q).toInt := by simpa [own_S, own_c, List.pairwise_map] using h
  exact h'.imp fun {p q} hpq e => by rw [e] at hpq; omega
theorem own_c_app {kf of : Nat → Int64} {l r : List Nat} {k : Nat} : own_c kf of (l ++ k :: r) = own_c kf of l ++ (kf k, of k) :: own_c kf of r := by simp [own_c]
theorem own_c_cong {kf of kf' of' : Nat → Int64} {ps : List Nat} (h : ∀ p ∈ ps, kf' p = kf p ∧ of' p = of p) : own_c kf' of' ps = own_c kf of ps := by
  unfold own_c; exact List.map_congr_left fun p hp => by rw [(h p hp).1, (h p hp).2]
theorem own_S_mid {kf of : Nat → Int64} {l r : List Nat} {k : Nat} (h : own_S (own_c kf of (l ++ k :: r))) : own_S (own_c kf of l) ∧ own_S (own_c kf of r) ∧ (∀ y ∈ own_c kf of l, y.1.toInt < (kf k).toInt) ∧ (∀ y ∈ own_c kf of r, (kf k).toInt < y.1.toInt) := by
  rw [own_c_app] at h
  obtain ⟨h1, h2, h3⟩ := List.pairwise_append.mp h
  obtain ⟨h4, h5⟩ := List.pairwise_cons.mp h2
  exact ⟨h1, h5, fun y hy => h3 y hy (kf k, of k) (by simp), h4⟩
theorem own_nd_mid {l r : List Nat} {k : Nat} (h : (l ++ k :: r).Nodup) : k ∉ l ∧ k ∉ r ∧ (∀ p ∈ l, p ∉ r) ∧ l.Nodup ∧ r.Nodup ∧ (l ++ r).Nodup := by
  obtain ⟨h1, h2, h3⟩ := List.nodup_append.mp h
  obtain ⟨h4, h5⟩ := List.nodup_cons.mp h2
  refine ⟨fun q => h3 k q k (by simp) rfl, h4, fun p hp hr => h3 p hp p (by simp [hr]) rfl, h1, h5, ?_⟩
  exact List.nodup_append.mpr ⟨h1, h5, fun a ha b hb => h3 a ha b (by simp [hb])⟩
/-- what add leaves -/
def own_A (kf of : Nat → Int64) (lf rf : Nat → Int32) (us un : Int32) (U : Nat) (k w : Int64) (ps : List Nat) (kf' of' : Nat → Int64) (lf' rf' : Nat → Int32) (us' un' z : Int32) (qs : List Nat) : Prop :=
  own_T lf' rf' z qs ∧ own_c kf' of' qs = own_add (own_c kf of ps) k w ∧ ((us' = us ∧ ∀ p ∈ qs, p ∈ ps) ∨ (us'.toInt = (U : Int) + 1 ∧ ∀ p ∈ qs, p ∈ ps ∨ p = U)) ∧ (∀ t, t ∉ ps → t ≠ U → kf' t = kf t ∧ of' t = of t ∧ lf' t = lf t ∧ rf' t = rf t) ∧ ((∀ p ∈ ps, of p + w ≠ 0) → un' = un)
section
variable {kf of kf' of' : Nat → Int64} {lf rf lf' rf' : Nat → Int32} {us un us' un' x z : Int32} {U k0 : Nat} {k w : Int64} {ps qs l r l' r' : List Nat}
theorem own_A.sub (A : own_A kf of lf rf us un U k w ps kf' of' lf' rf' us' un' z qs) : ∀ p ∈ qs, p ∈ ps ∨ p = U := fun p hp => by
  rcases A.2.2.1 with ⟨-, h⟩ | ⟨-, h⟩
  · exact Or.inl (h p hp)
  · exact h p hp
theorem own_A_left (hk0 : k0 < 16) (hx : x.toInt = (k0 : Int)) (hr : own_T lf rf (rf k0) r) (hS : own_S (own_c kf of (l ++ k0 :: r))) (hU : ∀ p ∈ l ++ k0 :: r, p < U) (hk : k.toInt < (kf k0).toInt)
    (A : own_A kf of lf rf us un U k w l kf' of' lf' rf' us' un' z l') : own_A kf of lf rf us un U k w (l ++ k0 :: r) kf' of' (ownSet lf' k0 z) rf' us' un' x (l' ++ k0 :: r) := by
  obtain ⟨n1, n2, n3, n4, n5, -⟩ := own_nd_mid (own_S_nd hS)
  have hsub := A.sub
  obtain ⟨a1, a2, a3, a4, a5⟩ := A
  have hkU : k0 ≠ U := Nat.ne_of_lt (hU k0 (by simp))
  have hkl' : k0 ∉ l' := fun h => (hsub k0 h).elim n1 hkU
  obtain ⟨f1, f2, f3, f4⟩ := a4 k0 n1 hkU
  have hrr : ∀ p ∈ r, p ∉ l ∧ p ≠ U ∧ p ≠ k0 := fun p hp => ⟨fun h => n3 p h hp, Nat.ne_of_lt (hU p (by simp [hp])), fun e => n2 (e ▸ hp)⟩
  refine ⟨own_Tk hk0 hx ?_ ?_, ?_, ?_, ?_, ?_⟩
  · rw [own_set_eq]; exact own_Tcong a1 fun p hp => ⟨own_set_ne fun e => hkl' (e ▸ hp), rfl⟩
  · rw [f4]; exact own_Tcong hr fun p hp => ⟨(own_set_ne (hrr p hp).2.2).trans (a4 p (hrr p hp).1 (hrr p hp).2.1).2.2.1, (a4 p (hrr p hp).1 (hrr p hp).2.1).2.2.2⟩
  · rw [own_c_app, own_c_app, a2, f1, f2, own_add_left (by exact hk), own_c_cong fun p hp => ⟨(a4 p (hrr p hp).1 (hrr p hp).2.1).1, (a4 p (hrr p hp).1 (hrr p hp).2.1).2.1⟩]
  · rcases a3 with ⟨e, h⟩ | ⟨e, h⟩
    · refine Or.inl ⟨e, fun p hp => ?_⟩
      rcases List.mem_append.mp hp with hp | hp
      · exact List.mem_append_left _ (h p hp)
      · exact List.mem_append_right _ hp
    · refine Or.inr ⟨e, fun p hp => ?_⟩
      rcases List.mem_append.mp hp with hp | hp
      · exact (h p hp).imp (fun q => List.mem_append_left _ q) id
      · exact Or.inl (List.mem_append_right _ hp)
  · intro t ht htU
    obtain ⟨g1, g2, g3, g4⟩ := a4 t (fun q => ht (by simp [q])) htU
    exact ⟨g1, g2, (own_set_ne fun e => ht (by simp [e])).trans g3, g4⟩
  · exact fun h => a5 fun p hp => h p (by simp [hp])
theorem own_A_right (hk0 : k0 < 16) (hx : x.toInt = (k0 : Int)) (hl : own_T lf rf (lf k0) l) (hS : own_S (own_c kf of (l ++ k0 :: r))) (hU : ∀ p ∈ l ++ k0 :: r, p < U) (hk : (kf k0).toInt < k.toInt)
    (A : own_A kf of lf rf us un U k w r kf' of' lf' rf' us' un' z r') : own_A kf of lf rf us un U k w (l ++ k0 :: r) kf' of' lf' (ownSet rf' k0 z) us' un' x (l ++ k0 :: r') := by
  obtain ⟨n1, n2, n3, n4, n5, -⟩ := own_nd_mid (own_S_nd hS)
  have hsub := A.sub
  obtain ⟨a1, a2, a3, a4, a5⟩ := A
  have hkU : k0 ≠ U := Nat.ne_of_lt (hU k0 (by simp))
  have hkr' : k0 ∉ r' := fun h => (hsub k0 h).elim n2 hkU
  obtain ⟨f1, f2, f3, f4⟩ := a4 k0 n2 hkU
  have hll : ∀ p ∈ l, p ∉ r ∧ p ≠ U ∧ p ≠ k0 := fun p hp => ⟨n3 p hp, Nat.ne_of_lt (hU p (by simp [hp])), fun e => n1 (e ▸ hp)⟩
  refine ⟨own_Tk hk0 hx ?_ ?_, ?_, ?_, ?_, ?_⟩
  · rw [f3]; exact own_Tcong hl fun p hp => ⟨(a4 p (hll p hp).1 (hll p hp).2.1).2.2.1, (own_set_ne (hll p hp).2.2).trans (a4 p (hll p hp).1 (hll p hp).2.1).2.2.2⟩
  · rw [own_set_eq]; exact own_Tcong a1 fun p hp => ⟨rfl, own_set_ne fun e => hkr' (e ▸ hp)⟩
  · rw [own_c_app, own_c_app, a2, f1, f2, own_add_right (by exact hk) _ (own_S_mid hS).2.2.1, own_c_cong fun p hp => ⟨(a4 p (hll p hp).1 (hll p hp).2.1).1, (a4 p (hll p hp).1 (hll p hp).2.1).2.1⟩]
  · rcases a3 with ⟨e, h⟩ | ⟨e, h⟩
    · refine Or.inl ⟨e, fun p hp => ?_⟩
      rcases List.mem_append.mp hp with hp | hp
      · exact List.mem_append_left _ hp
      · rcases List.mem_cons.mp hp with rfl | hp
        · simp
        · exact List.mem_append_right _ (List.mem_cons_of_mem _ (h p hp))
    · refine Or.inr ⟨e, fun p hp => ?_⟩
      rcases List.mem_append.mp hp with hp | hp
      · exact Or.inl (List.mem_append_left _ hp)
      · rcases List.mem_cons.mp hp with rfl | hp
        · exact Or.inl (by simp)
        · exact (h p hp).imp (fun q => List.mem_append_right _ (List.mem_cons_of_mem _ q)) id
  · intro t ht htU
    obtain ⟨g1, g2, g3, g4⟩ := a4 t (fun q => ht (by simp [q])) htU
    exact ⟨g1, g2, g3, (own_set_ne fun e => ht (by simp [e])).trans g4⟩
  · exact fun h => a5 fun p hp => h p (by simp [hp])
/-- the same content, another shape -/
theorem own_A.turn {lf2 rf2 : Nat → Int32} {z2 : Int32} (A : own_A kf of lf rf us un U k w ps kf' of' lf' rf' us' un' z qs) (T : own_T lf2 rf2 z2 qs) (e : ∀ t, t ∉ qs → lf2 t = lf' t ∧ rf2 t = rf' t) : own_A kf of lf rf us un U k w ps kf' of' lf2 rf2 us' un' z2 qs := by
  have hsub := A.sub
  obtain ⟨a1, a2, a3, a4, a5⟩ := A
  refine ⟨T, a2, a3, fun t h1 h2 => ?_, a5⟩
  obtain ⟨g1, g2, g3, g4⟩ := a4 t h1 h2
  obtain ⟨e1, e2⟩ := e t fun q => (hsub t q).elim h1 h2
  exact ⟨g1, g2, e1.trans g3, e2.trans g4⟩
theorem own_A.nd (hS : own_S (own_c kf of ps)) (A : own_A kf of lf rf us un U k w ps kf' of' lf' rf' us' un' z qs) : own_S (own_c kf' of' qs) ∧ qs.Nodup := by
  have h : own_S (own_c kf' of' qs) := by rw [A.2.1]; exact own_add_S _ hS
  exact ⟨h, own_S_nd h⟩
theorem own_rotR {k : Nat} (T : own_T lf rf x qs) (nd : qs.Nodup) (hk : x.toInt = (k : Int)) (hj : lf k ≠ -1) :
    ∃ j : Nat, j < 16 ∧ k < 16 ∧ (lf k).toInt = (j : Int) ∧ j ≠ k ∧ own_V (rf k) ∧ own_V (lf j) ∧ own_V (rf j) ∧ own_T (ownSet lf k (rf j)) (ownSet rf j x) (lf k) qs ∧ ∀ t, t ∉ qs → ownSet lf k (rf j) t = lf t ∧ ownSet rf j x t = rf t := by
  obtain ⟨k', l, r, h1, h2, rfl, h4, h5⟩ := own_Tn1 T (own_nm1 hk)
  obtain rfl : k' = k := by omega
  obtain ⟨j, l2, r2, g1, g2, rfl, g4, g5⟩ := own_Tn1 h4 hj
  have hjk : j ≠ k' := fun e => by subst e; simp [List.nodup_append] at nd
  have e : (l2 ++ j :: r2) ++ k' :: r = l2 ++ j :: (r2 ++ k' :: r) := by simp
  obtain ⟨n1, n2, -, -, -, -⟩ := own_nd_mid nd
  rw [e] at nd
  obtain ⟨m1, m2, -, -, -, -⟩ := own_nd_mid nd
  have K : ∀ p, p ∈ l2 ∨ p ∈ r2 → p ≠ k' := fun p hp e => n1 (by subst e; rcases hp with h | h <;> simp [h])
  refine ⟨j, g1, h1, g2, hjk, own_TV h5, own_TV g4, own_TV g5, ?_, ?_⟩
  · rw [e]
    refine own_Tk g1 g2 ?_ ?_
    · rw [own_set_ne hjk]
      exact own_Tcong g4 fun p hp => ⟨own_set_ne (K p (Or.inl hp)), own_set_ne fun e => m1 (e ▸ hp)⟩
    · rw [own_set_eq]
      refine own_Tk h1 h2 ?_ ?_
      · rw [own_set_eq]
        exact own_Tcong g5 fun p hp => ⟨own_set_ne (K p (Or.inr hp)), own_set_ne fun e => m2 (by rw [← e]; simp [hp])⟩
      · rw [own_set_ne (Ne.symm hjk)]
        exact own_Tcong h5 fun p hp => ⟨own_set_ne fun e => n2 (e ▸ hp), own_set_ne fun e => m2 (by rw [← e]; simp [hp])⟩
  · intro t ht
    exact ⟨own_set_ne fun e => ht (by simp [e]), own_set_ne fun e => ht (by simp [e])⟩
theorem own_rotL {k : Nat} (T : own_T lf rf x qs) (nd : qs.Nodup) (hk : x.toInt = (k : Int)) (hj : rf k ≠ -1) :
    ∃ j : Nat, j < 16 ∧ k < 16 ∧ (rf k).toInt = (j : Int) ∧ j ≠ k ∧ own_V (lf k) ∧ own_V (rf j) ∧ own_V (lf j) ∧ own_T (ownSet lf j x) (ownSet rf k (lf j)) (rf k) qs ∧ ∀ t, t ∉ qs → ownSet lf j x t = lf t ∧ ownSet rf k (lf j) t = rf t := by
  obtain ⟨k', l, r, h1, h2, rfl, h4, h5⟩ := own_Tn1 T (own_nm1 hk)
  obtain rfl : k' = k := by omega
  obtain ⟨j, l2, r2, g1, g2, rfl, g4, g5⟩ := own_Tn1 h5 hj
  obtain ⟨n1, n2, -, -, -, -⟩ := own_nd_mid nd
  have hjk : j ≠ k' := fun e => n2 (by simp [e])
  have e : l ++ k' :: (l2 ++ j :: r2) = (l ++ k' :: l2) ++ j :: r2 := by simp
  rw [e] at nd
  obtain ⟨m1, m2, -, -, -, -⟩ := own_nd_mid nd
  have K : ∀ p, p ∈ l2 ∨ p ∈ r2 → p ≠ k' := fun p hp e => n2 (by subst e; rcases hp with h | h <;> simp [h])
  refine ⟨j, g1, h1, g2, hjk, own_TV h4, own_TV g5, own_TV g4, ?_, ?_⟩
  · rw [e]
    refine own_Tk g1 g2 ?_ ?_
    · rw [own_set_eq]
      refine own_Tk h1 h2 ?_ ?_
      · rw [own_set_ne (Ne.symm hjk)]
        exact own_Tcong h4 fun p hp => ⟨own_set_ne fun e => m1 (by rw [← e]; simp [hp]), own_set_ne fun e => n1 (e ▸ hp)⟩
      · rw [own_set_eq]
        exact own_Tcong g4 fun p hp => ⟨own_set_ne fun e => m1 (by rw [← e]; simp [hp]), own_set_ne (K p (Or.inl hp))⟩
    · rw [own_set_ne hjk]
      exact own_Tcong g5 fun p hp => ⟨own_set_ne fun e => m2 (e ▸ hp), own_set_ne (K p (Or.inr hp))⟩
  · intro t ht
    exact ⟨own_set_ne fun e => ht (by simp [e]), own_set_ne fun e => ht (by simp [e])⟩
/-- the key was not there -/
theorem own_A_new (hU16 : U < 16) (hus : us.toInt = (U : Int)) (hz : z.toInt = (U : Int)) : own_A kf of lf rf us un U k w [] (ownSet kf U k) (ownSet of U w) (ownSet lf U (-1)) (ownSet rf U (-1)) (us + 1) un z [U] := by
  have e1 : (us + 1).toInt = (U : Int) + 1 := by
    have : (1 : Int32).toInt = 1 := by decide
    rw [Int32.toInt_add, this, hus, Int.bmod_eq_of_le (by omega) (by omega)]
  refine ⟨own_Tk (l := []) (r := []) hU16 hz (by rw [own_set_eq]; exact own_T0) (by rw [own_set_eq]; exact own_T0), by simp [own_c, own_add, ownSet], Or.inr ⟨e1, fun p hp => Or.inr (by simpa using hp)⟩, fun t _ ht => ⟨own_set_ne ht, own_set_ne ht, own_set_ne ht, own_set_ne ht⟩, fun _ => rfl⟩
/-- the key was there and stays -/
theorem own_A_stay (T : own_T lf rf x (l ++ k0 :: r)) (hS : own_S (own_c kf of (l ++ k0 :: r))) (hk : k = kf k0) (hnz : of k0 + w ≠ 0) : own_A kf of lf rf us un U k w (l ++ k0 :: r) kf (ownSet of k0 (of k0 + w)) lf rf us un x (l ++ k0 :: r) := by
  obtain ⟨n1, n2, n3, n4, n5, -⟩ := own_nd_mid (own_S_nd hS)
  refine ⟨T, ?_, Or.inl ⟨rfl, fun p hp => hp⟩, fun t ht _ => ⟨rfl, own_set_ne fun e => ht (by simp [e]), rfl, rfl⟩, fun _ => rfl⟩
  subst hk
  have e1 : own_c kf (ownSet of k0 (of k0 + w)) l = own_c kf of l := own_c_cong fun p hp => ⟨rfl, own_set_ne fun e => n1 (e ▸ hp)⟩
  have e2 : own_c kf (ownSet of k0 (of k0 + w)) r = own_c kf of r := own_c_cong fun p hp => ⟨rfl, own_set_ne fun e => n2 (e ▸ hp)⟩
  rw [own_c_app, own_c_app, own_add_here _ (own_S_mid hS).2.2.1, if_neg hnz, own_set_eq, e1, e2]
/-- the key was there and goes -/
theorem own_A_go {v : Int64} (T : own_T lf' rf' z (l ++ r)) (he : ∀ t, t ∉ l ++ r → lf' t = lf t ∧ rf' t = rf t) (hS : own_S (own_c kf of (l ++ k0 :: r))) (hk : k = kf k0) (hz : of k0 + w = 0) : own_A kf of lf rf us un U k w (l ++ k0 :: r) kf (ownSet of k0 v) (ownSet lf' k0 un) rf' us x z (l ++ r) := by
  obtain ⟨n1, n2, n3, n4, n5, -⟩ := own_nd_mid (own_S_nd hS)
  have hn : ∀ p ∈ l ++ r, p ≠ k0 := fun p hp e => by subst e; rcases List.mem_append.mp hp with h | h <;> contradiction
  refine ⟨own_Tcong T fun p hp => ⟨own_set_ne (hn p hp), rfl⟩, ?_, Or.inl ⟨rfl, fun p hp => by rcases List.mem_append.mp hp with h | h <;> simp [h]⟩, fun t ht _ => ?_, fun h => absurd hz (h k0 (by simp))⟩
  · subst hk
    rw [own_c_app, own_add_here _ (own_S_mid hS).2.2.1, if_pos hz, own_c_cong (kf := kf) (of := of) fun p hp => ⟨rfl, own_set_ne (hn p hp)⟩]
    simp [own_c]
  · have h1 : t ∉ l ++ r := fun q => ht (by rcases List.mem_append.mp q with h | h <;> simp [h])
    exact ⟨rfl, own_set_ne fun e => ht (by simp [e]), (own_set_ne fun e => ht (by simp [e])).trans (he t h1).1, (he t h1).2⟩
/-- join hangs the right tree to the right -/
theorem own_joinR {k : Nat} {z : Int32} {l1 r1 lb : List Nat} (hk : k < 16) (hx : x.toInt = (k : Int)) (h4 : own_T lf rf (lf k) l1) (nd : ((l1 ++ k :: r1) ++ lb).Nodup) (T : own_T lf' rf' z (r1 ++ lb)) (e : ∀ t, t ∉ r1 ++ lb → lf' t = lf t ∧ rf' t = rf t) :
    own_T lf' (ownSet rf' k z) x ((l1 ++ k :: r1) ++ lb) ∧ ∀ t, t ∉ (l1 ++ k :: r1) ++ lb → lf' t = lf t ∧ ownSet rf' k z t = rf t := by
  have ee : (l1 ++ k :: r1) ++ lb = l1 ++ k :: (r1 ++ lb) := by simp
  rw [ee] at nd ⊢
  obtain ⟨n1, n2, n3, -, -, -⟩ := own_nd_mid nd
  refine ⟨own_Tk hk hx ?_ ?_, fun t ht => ?_⟩
  · rw [(e k n2).1]; exact own_Tcong h4 fun p hp => ⟨(e p (n3 p hp)).1, (own_set_ne (i := k) (t := p) fun q => n1 (q ▸ hp)).trans (e p (n3 p hp)).2⟩
  · rw [own_set_eq]; exact own_Tcong T fun p hp => ⟨rfl, own_set_ne fun q => n2 (q ▸ hp)⟩
  · have h1 : t ∉ r1 ++ lb := fun q => ht (List.mem_append_right _ (List.mem_cons_of_mem _ q))
    exact ⟨(e t h1).1, (own_set_ne fun q => ht (by simp [q])).trans (e t h1).2⟩
theorem own_joinL {k : Nat} {z : Int32} {l1 r1 la : List Nat} (hk : k < 16) (hx : x.toInt = (k : Int)) (h5 : own_T lf rf (rf k) r1) (nd : (la ++ (l1 ++ k :: r1)).Nodup) (T : own_T lf' rf' z (la ++ l1)) (e : ∀ t, t ∉ la ++ l1 → lf' t = lf t ∧ rf' t = rf t) :
    own_T (ownSet lf' k z) rf' x (la ++ (l1 ++ k :: r1)) ∧ ∀ t, t ∉ la ++ (l1 ++ k :: r1) → ownSet lf' k z t = lf t ∧ rf' t = rf t := by
  have ee : la ++ (l1 ++ k :: r1) = (la ++ l1) ++ k :: r1 := by simp
  rw [ee] at nd ⊢
  obtain ⟨n1, n2, n3, -, -, -⟩ := own_nd_mid nd
  refine ⟨own_Tk hk hx ?_ ?_, fun t ht => ?_⟩
  · rw [own_set_eq]; exact own_Tcong T fun p hp => ⟨own_set_ne fun q => n1 (q ▸ hp), rfl⟩
  · have hr : ∀ p ∈ r1, p ∉ la ++ l1 := fun p hp q => n3 p q hp
    rw [(e k n1).2]; exact own_Tcong h5 fun p hp => ⟨(own_set_ne (i := k) (t := p) fun q => n2 (q ▸ hp)).trans (e p (hr p hp)).1, (e p (hr p hp)).2⟩
  · have h1 : t ∉ la ++ l1 := fun q => ht (List.mem_append_left _ q)
    exact ⟨(own_set_ne fun q => ht (by simp [q])).trans (e t h1).1, (e t h1).2⟩
end
/-- after: the first key above q, else d -/
def own_aft : List (Int64 × Int64) → Int64 → Int64 → Int64
  | [], _, d => d
  | a :: t, q, d => if q.toInt < a.1.toInt then a.1 else own_aft t q d
theorem own_aft_le {q d : Int64} {b : List (Int64 × Int64)} : ∀ a : List (Int64 × Int64), (∀ y ∈ a, y.1.toInt ≤ q.toInt) → own_aft (a ++ b) q d = own_aft b q d
  | [], _ => rfl
  | x :: a, h => by
    have h1 := h x (by simp)
    simp only [List.cons_append, own_aft]
    rw [if_neg (by omega)]; exact own_aft_le a fun y hy => h y (by simp [hy])
theorem own_aft_gt {q d : Int64} {x : Int64 × Int64} {b : List (Int64 × Int64)} (hx : q.toInt < x.1.toInt) : ∀ a : List (Int64 × Int64), own_aft (a ++ x :: b) q d = own_aft a q x.1
  | [] => by simp [own_aft, hx]
  | y :: a => by
    simp only [List.cons_append, own_aft]
    rw [own_aft_gt hx a]
theorem own_aft_l {kf of : Nat → Int64} {l r : List Nat} {k : Nat} {q d : Int64} (h : q.toInt < (kf k).toInt) : own_aft (own_c kf of (l ++ k :: r)) q d = own_aft (own_c kf of l) q (kf k) := by
  rw [own_c_app]; exact own_aft_gt (x := (kf k, of k)) h _
theorem own_aft_r {kf of : Nat → Int64} {l r : List Nat} {k : Nat} {q d : Int64} (hS : own_S (own_c kf of (l ++ k :: r))) (h : ¬ q.toInt < (kf k).toInt) : own_aft (own_c kf of (l ++ k :: r)) q d = own_aft (own_c kf of r) q d := by
  rw [own_c_app, own_aft_le _ fun y hy => by have := (own_S_mid hS).2.2.1 y hy; omega]
  simp only [own_aft]; rw [if_neg h]
def own_cnt : List (Int64 × Int64) → Int64 → Int64
  | [], _ => 0
  | a :: t, k => (if a.1 = k then a.2 else 0) + own_cnt t k
theorem own_cnt_add {k w k' : Int64} : ∀ c : List (Int64 × Int64), own_cnt (own_add c k w) k' = own_cnt c k' + (if k = k' then w else 0)
  | [] => by simp only [own_add, own_cnt, Int64.add_zero, Int64.zero_add]
  | x :: a => by
    simp only [own_add]
    split
    · rename_i e
      subst e
      split
      · rename_i hz
        simp only [own_cnt]
        by_cases q : x.1 = k'
        · simp only [if_pos q]; rw [Int64.add_comm x.2, Int64.add_assoc, hz, Int64.add_zero]
        · simp only [if_neg q, Int64.zero_add, Int64.add_zero]
      · simp only [own_cnt]
        by_cases q : x.1 = k'
        · simp only [if_pos q]; rw [Int64.add_assoc, Int64.add_assoc, Int64.add_comm w]
        · simp only [if_neg q, Int64.zero_add, Int64.add_zero]
    · split
      · simp only [own_cnt]; rw [Int64.add_comm]
      · simp only [own_cnt]; rw [own_cnt_add a, Int64.add_assoc]
theorem own_cnt_none {k : Int64} : ∀ c : List (Int64 × Int64), (∀ y ∈ c, y.1 ≠ k) → own_cnt c k = 0
  | [], _ => rfl
  | x :: a, h => by
    simp only [own_cnt]; rw [if_neg (h x (by simp)), own_cnt_none a fun y hy => h y (by simp [hy])]; rfl
theorem own_cnt_some {k : Int64} : ∀ c : List (Int64 × Int64), own_S c → (∀ y ∈ c, y.2 ≠ 0) → ∀ y ∈ c, y.1 = k → own_cnt c k ≠ 0
  | [], _, _, y, h, _ => by cases h
  | x :: a, hS, hz, y, hy, e => by
    obtain ⟨h1, h2⟩ := List.pairwise_cons.mp hS
    simp only [own_cnt]
    by_cases q : x.1 = k
    · rw [if_pos q, own_cnt_none a fun z hz' e' => by have := h1 z hz'; rw [e', q] at this; omega, Int64.add_zero]
      exact hz x (by simp)
    · rw [if_neg q, Int64.zero_add]
      rcases List.mem_cons.mp hy with rfl | hy
      · exact absurd e q
      · exact own_cnt_some a h2 (fun z hz' => hz z (by simp [hz'])) y hy e
def own_opt (t : Int32) (c : List (Int64 × Int64)) (k w : Int64) : List (Int64 × Int64) := if t = 0 then c else own_add c k w
def own_n (n t : Int32) (a k : Int64) : Int32 := if t = 0 then n else if a ≠ k then n else n + 1
def own_m (n t : Int32) (a k : Int64) : Int32 := if t = 0 then n else if a ≠ k then n else n - 1
def own_net (k a b c d : Int64) (t1 t2 t3 t4 t5 : Int32) : Int32 := own_m (own_n (own_n (own_n (own_n 0 t1 a k) t2 b k) t3 c k) t4 d k) t5 a k
def own_c5 (a b c d : Int64) (t1 t2 t3 t4 t5 : Int32) : List (Int64 × Int64) := own_opt t5 (own_opt t4 (own_opt t3 (own_opt t2 (own_opt t1 [] a 1) b 1) c 1) d 1) a (-1)
theorem own_n_eq (n t : Int32) (a k : Int64) : own_n n t a k = n + if (t ≠ 0 ∧ a = k) then 1 else 0 := by
  unfold own_n; split
  · rename_i h; simp [h]
  · rename_i h; split
    · rename_i g; simp [g]
    · rename_i g; simp [h, Decidable.not_not.mp g]
theorem own_m_eq (n t : Int32) (a k : Int64) : own_m n t a k = n - if (t ≠ 0 ∧ a = k) then 1 else 0 := by
  unfold own_m; split
  · rename_i h; simp [h]
  · rename_i h; split
    · rename_i g; simp [g]
    · rename_i g; simp [h, Decidable.not_not.mp g]
theorem own_cnt_opt (t : Int32) (c : List (Int64 × Int64)) (k w k' : Int64) : own_cnt (own_opt t c k w) k' = own_cnt c k' + if (t ≠ 0 ∧ k = k') then w else 0 := by
  unfold own_opt; split
  · rename_i h; simp [h]
  · rename_i h; rw [own_cnt_add]; simp [h]
theorem own_tab : ∀ p1 p2 p3 p4 p5 : Bool, (p5 = true → p1 = true) → (0 < (0 + (if p1 then (1 : Int32) else 0) + (if p2 then 1 else 0) + (if p3 then 1 else 0) + (if p4 then 1 else 0) - (if p5 then 1 else 0)).toInt ↔ (0 : Int64) + (if p1 then 1 else 0) + (if p2 then 1 else 0) + (if p3 then 1 else 0) + (if p4 then 1 else 0) + (if p5 then -1 else 0) ≠ 0) := by decide
theorem own_net_iff {k a b c d : Int64} {t1 t2 t3 t4 t5 : Int32} (h : t5 ≠ 0 → t1 ≠ 0) : 0 < (own_net k a b c d t1 t2 t3 t4 t5).toInt ↔ own_cnt (own_c5 a b c d t1 t2 t3 t4 t5) k ≠ 0 := by
  have := own_tab (decide (t1 ≠ 0 ∧ a = k)) (decide (t2 ≠ 0 ∧ b = k)) (decide (t3 ≠ 0 ∧ c = k)) (decide (t4 ≠ 0 ∧ d = k)) (decide (t5 ≠ 0 ∧ a = k)) (by simp only [decide_eq_true_eq]; exact fun q => ⟨h q.1, q.2⟩)
  simp only [decide_eq_true_eq] at this
  simp only [own_net, own_c5, own_cnt_opt, own_n_eq, own_m_eq, own_cnt]
  exact this
theorem own_c5_mem {k a b c d : Int64} {t1 t2 t3 t4 t5 : Int32} (h : own_cnt (own_c5 a b c d t1 t2 t3 t4 t5) k ≠ 0) : k = a ∨ k = b ∨ k = c ∨ k = d := by
  simp only [own_c5, own_cnt_opt, own_cnt] at h
  by_cases h1 : a = k
  · exact Or.inl h1.symm
  by_cases h2 : b = k
  · exact Or.inr (Or.inl h2.symm)
  by_cases h3 : c = k
  · exact Or.inr (Or.inr (Or.inl h3.symm))
  by_cases h4 : d = k
  · exact Or.inr (Or.inr (Or.inr h4.symm))
  simp [h1, h2, h3, h4] at h
/-- counts -/
def own_B (m : Nat) (c : List (Int64 × Int64)) : Prop := ∀ y ∈ c, 0 < y.2.toInt ∧ y.2.toInt ≤ (m : Int)
theorem own_p1 {v : Int64} {m : Nat} (hm : m < 100) (h : 0 < v.toInt ∧ v.toInt ≤ (m : Int)) : (v + 1).toInt = v.toInt + 1 := by
  have : (1 : Int64).toInt = 1 := by decide
  rw [Int64.toInt_add, this, Int.bmod_eq_of_le (by omega) (by omega)]
theorem own_B_nz {m : Nat} {c : List (Int64 × Int64)} (h : own_B m c) : ∀ y ∈ c, y.2 ≠ 0 := fun y hy e => by
  have := (h y hy).1; rw [e, show (0 : Int64).toInt = 0 by decide] at this; omega
theorem own_B_ne {m : Nat} (hm : m < 100) {c : List (Int64 × Int64)} (h : own_B m c) : ∀ y ∈ c, y.2 + 1 ≠ 0 := fun y hy e => by
  have h1 := own_p1 hm (h y hy); rw [e, show (0 : Int64).toInt = 0 by decide] at h1; have := (h y hy).1; omega
theorem own_B_add {k : Int64} {m : Nat} (hm : m < 100) : ∀ c : List (Int64 × Int64), own_B m c → own_B (m+1) (own_add c k 1)
  | [], _, y, h => by
    simp only [own_add, List.mem_singleton] at h; subst h
    rw [show ((k, 1) : Int64 × Int64).2.toInt = 1 from (by decide : (1 : Int64).toInt = 1)]; omega
  | x :: a, H, y, h => by
    simp only [own_add] at h
    have Ha : own_B m a := fun z hz => H z (by simp [hz])
    have W : ∀ z, 0 < z.2.toInt ∧ z.2.toInt ≤ (m : Int) → 0 < (z : Int64 × Int64).2.toInt ∧ z.2.toInt ≤ ((m+1 : Nat) : Int) := fun z hz => by omega
    split at h
    · split at h
      · exact W y (Ha y h)
      · rcases List.mem_cons.mp h with rfl | h
        · have h1 := own_p1 hm (H x (by simp)); have h2 := H x (by simp); show 0 < (x.2 + 1).toInt ∧ (x.2 + 1).toInt ≤ _; omega
        · exact W y (Ha y h)
    · split at h
      · rcases List.mem_cons.mp h with rfl | h
        · rw [show ((k, 1) : Int64 × Int64).2.toInt = 1 from (by decide : (1 : Int64).toInt = 1)]; omega
        · exact W y (H y h)
      · rcases List.mem_cons.mp h with rfl | h
        · exact W y (H y (by simp))
        · exact own_B_add hm a Ha y h
/-- content after at most i additions -/
def own_I (i : Nat) (c : List (Int64 × Int64)) : Prop := own_S c ∧ own_B i c ∧ c.length ≤ i
theorem own_I0 : own_I 0 [] := ⟨by simp [own_S], (fun y hy => by cases hy), by simp⟩
theorem own_I.opt {i : Nat} {c : List (Int64 × Int64)} {t : Int32} {k : Int64} (hi : i < 100) (h : own_I i c) : own_I (i+1) (own_opt t c k 1) := by
  unfold own_opt; split
  · exact ⟨h.1, fun y hy => by have := h.2.1 y hy; omega, by have := h.2.2; omega⟩
  · exact ⟨own_add_S _ h.1, own_B_add hi _ h.2.1, by have := own_add_len (k := k) (w := 1) c; have := h.2.2; omega⟩
theorem own_c5_I {a b c d : Int64} {t1 t2 t3 t4 t5 : Int32} : own_S (own_c5 a b c d t1 t2 t3 t4 t5) ∧ ∀ y ∈ own_c5 a b c d t1 t2 t3 t4 t5, y.2 ≠ 0 := by
  have h := ((((own_I0.opt (t := t1) (k := a) (by decide)).opt (t := t2) (k := b) (by decide)).opt (t := t3) (k := c) (by decide)).opt (t := t4) (k := d) (by decide))
  unfold own_c5
  generalize own_opt t4 _ d 1 = c4 at h
  unfold own_opt; split
  · exact ⟨h.1, own_B_nz h.2.1⟩
  · exact ⟨own_add_S _ h.1, own_add_nz (by decide) _ (own_B_nz h.2.1)⟩
/-- r is the least of P, or -1 -/
def own_least (P : Int64 → Prop) (r : Int64) : Prop := (r = -1 ∧ ∀ k, ¬ P k) ∨ (P r ∧ ∀ k, P k → r.toInt ≤ k.toInt)
theorem own_least_eq {P : Int64 → Prop} {r r' : Int64} (h : own_least P r) (h' : own_least P r') : r = r' := by
  rcases h with ⟨e, h⟩ | ⟨e, h⟩ <;> rcases h' with ⟨e', h'⟩ | ⟨e', h'⟩
  · rw [e, e']
  · exact absurd e' (h _)
  · exact absurd e (h' _)
  · have h1 := h _ e'; have h2 := h' _ e; exact Int64.toInt_inj.mp (by omega)
theorem own_aft_least {q : Int64} : ∀ c : List (Int64 × Int64), own_S c → own_least (fun k => (∃ y ∈ c, y.1 = k) ∧ q.toInt < k.toInt) (own_aft c q (-1))
  | [], _ => Or.inl ⟨rfl, fun k h => by obtain ⟨⟨y, hy, -⟩, -⟩ := h; cases hy⟩
  | x :: a, hS => by
    obtain ⟨h1, h2⟩ := List.pairwise_cons.mp hS
    simp only [own_aft]
    split
    · rename_i hq
      refine Or.inr ⟨⟨⟨x, by simp, rfl⟩, hq⟩, fun k hk => ?_⟩
      obtain ⟨⟨y, hy, rfl⟩, -⟩ := hk
      rcases List.mem_cons.mp hy with rfl | hy
      · exact Int.le_refl _
      · have := h1 y hy; omega
    · rename_i hq
      rcases own_aft_least (q := q) a h2 with ⟨e, h⟩ | ⟨⟨⟨y, hy, e⟩, g⟩, h⟩
      · refine Or.inl ⟨e, fun k hk => ?_⟩
        obtain ⟨⟨y, hy, rfl⟩, g⟩ := hk
        rcases List.mem_cons.mp hy with rfl | hy
        · exact hq g
        · exact h _ ⟨⟨y, hy, rfl⟩, g⟩
      · refine Or.inr ⟨⟨⟨y, by simp [hy], e⟩, g⟩, fun k hk => ?_⟩
        obtain ⟨⟨z, hz, rfl⟩, g'⟩ := hk
        rcases List.mem_cons.mp hz with rfl | hz
        · exact absurd g' hq
        · exact h _ ⟨⟨z, hz, rfl⟩, g'⟩
def own_pick (b k : Int64) (t : Int32) (q : Int64) : Int64 := if t = 0 then b else if k.toInt ≤ q.toInt then b else if b.toInt < 0 then k else if b.toInt ≤ k.toInt then b else k
def own_L (P : Int64 → Prop) (ks : List Int64) (b : Int64) : Prop := (b = -1 ∧ ∀ k ∈ ks, ¬ P k) ∨ (P b ∧ ∀ k ∈ ks, P k → b.toInt ≤ k.toInt)
theorem own_L_step {P : Int64 → Prop} {H : Int64 → Prop} {q : Int64} (hP : ∀ k, P k ↔ H k ∧ q.toInt < k.toInt) (hn : ∀ k, P k → 0 ≤ k.toInt) {ks : List Int64} {b k : Int64} {t : Int32} (ht : t ≠ 0 ↔ H k) (h : own_L P ks b) : own_L P (k :: ks) (own_pick b k t q) := by
  have hm1 : (-1 : Int64).toInt = -1 := by decide
  have skip : ¬ P k → own_L P (k :: ks) b := fun hk => by
    rcases h with ⟨e, h⟩ | ⟨e, h⟩
    · refine Or.inl ⟨e, fun y hy => ?_⟩
      rcases List.mem_cons.mp hy with rfl | hy
      · exact hk
      · exact h y hy
    · refine Or.inr ⟨e, fun y hy hp => ?_⟩
      rcases List.mem_cons.mp hy with rfl | hy
      · exact absurd hp hk
      · exact h y hy hp
  unfold own_pick
  by_cases h0 : t = 0
  · rw [if_pos h0]; exact skip fun p => ht.mpr ((hP k).mp p).1 h0
  rw [if_neg h0]
  by_cases h1 : k.toInt ≤ q.toInt
  · rw [if_pos h1]; exact skip fun p => by have := ((hP k).mp p).2; omega
  rw [if_neg h1]
  have hk : P k := (hP k).mpr ⟨ht.mp h0, by omega⟩
  rcases h with ⟨e, h⟩ | ⟨e, h⟩
  · rw [if_pos (by rw [e, hm1]; omega)]
    refine Or.inr ⟨hk, fun y hy hp => ?_⟩
    rcases List.mem_cons.mp hy with rfl | hy
    · exact Int.le_refl _
    · exact absurd hp (h y hy)
  · have hb := hn b e
    rw [if_neg (by omega)]
    by_cases h2 : b.toInt ≤ k.toInt
    · rw [if_pos h2]
      refine Or.inr ⟨e, fun y hy hp => ?_⟩
      rcases List.mem_cons.mp hy with rfl | hy
      · exact h2
      · exact h y hy hp
    · rw [if_neg h2]
      refine Or.inr ⟨hk, fun y hy hp => ?_⟩
      rcases List.mem_cons.mp hy with rfl | hy
      · exact Int.le_refl _
      · have := h y hy hp; omega
theorem own_final {a b c d q : Int64} {t1 t2 t3 t4 t5 s1 s2 s3 s4 : Int32} (h5 : t5 ≠ 0 → t1 ≠ 0) (ha : 0 ≤ a.toInt) (hb : 0 ≤ b.toInt) (hc : 0 ≤ c.toInt) (hd : 0 ≤ d.toInt)
    (e1 : s1 ≠ 0 ↔ 0 < (own_net a a b c d t1 t2 t3 t4 t5).toInt) (e2 : s2 ≠ 0 ↔ 0 < (own_net b a b c d t1 t2 t3 t4 t5).toInt) (e3 : s3 ≠ 0 ↔ 0 < (own_net c a b c d t1 t2 t3 t4 t5).toInt) (e4 : s4 ≠ 0 ↔ 0 < (own_net d a b c d t1 t2 t3 t4 t5).toInt) :
    own_aft (own_c5 a b c d t1 t2 t3 t4 t5) q (-1) = own_pick (own_pick (own_pick (own_pick (-1) a s1 q) b s2 q) c s3 q) d s4 q := by
  have iff : ∀ k, own_cnt (own_c5 a b c d t1 t2 t3 t4 t5) k ≠ 0 ↔ ∃ y ∈ own_c5 a b c d t1 t2 t3 t4 t5, y.1 = k := fun k => ⟨fun h => by
    by_cases q : ∃ y ∈ own_c5 a b c d t1 t2 t3 t4 t5, y.1 = k
    · exact q
    · exact absurd (own_cnt_none _ fun y hy e => q ⟨y, hy, e⟩) h, fun ⟨y, hy, e⟩ => own_cnt_some _ own_c5_I.1 own_c5_I.2 y hy e⟩
  have A := own_aft_least (q := q) _ (own_c5_I (a := a) (b := b) (c := c) (d := d) (t1 := t1) (t2 := t2) (t3 := t3) (t4 := t4) (t5 := t5)).1
  refine own_least_eq A ?_
  have mem : ∀ k, (∃ y ∈ own_c5 a b c d t1 t2 t3 t4 t5, y.1 = k) → k = a ∨ k = b ∨ k = c ∨ k = d := fun k hk => own_c5_mem ((iff k).mpr hk)
  have hn : ∀ k, ((∃ y ∈ own_c5 a b c d t1 t2 t3 t4 t5, y.1 = k) ∧ q.toInt < k.toInt) → 0 ≤ k.toInt := fun k hk => by
    rcases mem k hk.1 with rfl | rfl | rfl | rfl <;> assumption
  have S : ∀ {ks : List Int64} {b0 k : Int64} {t : Int32}, (t ≠ 0 ↔ 0 < (own_net k a b c d t1 t2 t3 t4 t5).toInt) → own_L (fun k => (∃ y ∈ own_c5 a b c d t1 t2 t3 t4 t5, y.1 = k) ∧ q.toInt < k.toInt) ks b0 → own_L (fun k => (∃ y ∈ own_c5 a b c d t1 t2 t3 t4 t5, y.1 = k) ∧ q.toInt < k.toInt) (k :: ks) (own_pick b0 k t q) :=
    fun e hL => own_L_step (H := fun k => ∃ y ∈ own_c5 a b c d t1 t2 t3 t4 t5, y.1 = k) (fun k => Iff.rfl) hn (e.trans ((own_net_iff h5).trans (iff _))) hL
  have L0 : own_L (fun k => (∃ y ∈ own_c5 a b c d t1 t2 t3 t4 t5, y.1 = k) ∧ q.toInt < k.toInt) [] (-1) := Or.inl ⟨rfl, fun k hk => by cases hk⟩
  rcases S e4 (S e3 (S e2 (S e1 L0))) with ⟨e, h⟩ | ⟨e, h⟩
  · refine Or.inl ⟨e, fun k hk => ?_⟩
    rcases mem k hk.1 with rfl | rfl | rfl | rfl <;> exact h _ (by simp) hk
  · refine Or.inr ⟨e, fun k hk => ?_⟩
    rcases mem k hk.1 with rfl | rfl | rfl | rfl <;> exact h _ (by simp) hk
theorem own_Vn {y : Int32} (h : own_V y) (hy : y ≠ -1) : ∃ k : Nat, k < 16 ∧ y.toInt = (k : Int) := h.resolve_left hy
theorem own_Tch {lf rf : Nat → Int32} {y : Int32} {ps : List Nat} {k : Nat} (T : own_T lf rf y ps) (hk : y.toInt = (k : Int)) : own_V (lf k) ∧ own_V (rf k) := by
  obtain ⟨k', l, r, h1, h2, rfl, h4, h5⟩ := own_Tn1 T (own_nm1 hk)
  obtain rfl : k' = k := by omega
  exact ⟨own_TV h4, own_TV h5⟩
theorem own_nd_r {l1 r1 lb : List Nat} {k : Nat} (nd : ((l1 ++ k :: r1) ++ lb).Nodup) : (r1 ++ lb).Nodup := by
  rw [show (l1 ++ k :: r1) ++ lb = l1 ++ k :: (r1 ++ lb) by simp] at nd; exact (own_nd_mid nd).2.2.2.2.1
theorem own_nd_l {la l1 r1 : List Nat} {k : Nat} (nd : (la ++ (l1 ++ k :: r1)).Nodup) : (la ++ l1).Nodup := by
  rw [show la ++ (l1 ++ k :: r1) = (la ++ l1) ++ k :: r1 by simp] at nd; exact (own_nd_mid nd).2.2.2.1
theorem own_ltne {a b : Int64} (h : a.toInt ≤ b.toInt) (hne : b ≠ a) : a.toInt < b.toInt := by
  have : b.toInt ≠ a.toInt := fun e => hne (Int64.toInt_inj.mp e)
  omega
def own_W (Z : State) (h : Heap) (o aK aO aS aL aR : Addr) (i : Nat) (c : List (Int64 × Int64)) : Prop := ∃ kf of lf rf us un rt ps, ∃ U : Nat, own_K Z h o aK aO aS aL aR kf of lf rf us un rt ∧ own_T lf rf rt ps ∧ own_c kf of ps = c ∧ us.toInt = (U : Int) ∧ U ≤ i ∧ (∀ p ∈ ps, p < U) ∧ un = -1
def own_E (Z : State) (h : Heap) (o aK aO aS aL aR : Addr) (c : List (Int64 × Int64)) : Prop := ∃ kf of lf rf us un rt ps, own_K Z h o aK aO aS aL aR kf of lf rf us un rt ∧ own_T lf rf rt ps ∧ own_c kf of ps = c
theorem own_W.keep {Z : State} {h : Heap} {o aK aO aS aL aR : Addr} {i : Nat} {c : List (Int64 × Int64)} {t : Int32} {k w : Int64} (ht : t = 0) (W : own_W Z h o aK aO aS aL aR i c) : own_W Z h o aK aO aS aL aR (i+1) (own_opt t c k w) := by
  obtain ⟨kf, of, lf, rf, us, un, rt, ps, U, a1, a2, a3, a4, a5, a6, a7⟩ := W
  exact ⟨kf, of, lf, rf, us, un, rt, ps, U, a1, a2, by rw [own_opt, if_pos ht]; exact a3, a4, by omega, a6, a7⟩
theorem own_W.toE {Z : State} {h : Heap} {o aK aO aS aL aR : Addr} {i : Nat} {c : List (Int64 × Int64)} {t : Int32} {k w : Int64} (ht : t = 0) (W : own_W Z h o aK aO aS aL aR i c) : own_E Z h o aK aO aS aL aR (own_opt t c k w) := by
  obtain ⟨kf, of, lf, rf, us, un, rt, ps, U, a1, a2, a3, a4, a5, a6, a7⟩ := W
  exact ⟨kf, of, lf, rf, us, un, rt, ps, a1, a2, by rw [own_opt, if_pos ht]; exact a3⟩
theorem own_W_add {Z : State} {h : Heap} {o aK aO aS aL aR : Addr} {i : Nat} {c : List (Int64 × Int64)} {t : Int32} {k : Int64} {kf of kf' of' : Nat → Int64} {lf rf lf' rf' : Nat → Int32} {us un us' un' z : Int32} {U : Nat} {ps qs : List Nat} (hi : i < 100) (I : own_I i c) (ht : ¬ t = 0) (ec : own_c kf of ps = c) (hus : us.toInt = (U : Int)) (hUi : U ≤ i) (hlt : ∀ p ∈ ps, p < U) (hun : un = -1)
    (KK : own_K Z h o aK aO aS aL aR kf' of' lf' rf' us' un' z) (AA : own_A kf of lf rf us un U k 1 ps kf' of' lf' rf' us' un' z qs) : own_W Z h o aK aO aS aL aR (i+1) (own_opt t c k 1) := by
  obtain ⟨b1, b2, b3, b4, b5⟩ := AA
  have hu : un' = -1 := (b5 fun p hp => own_B_ne hi I.2.1 (kf p, of p) (by rw [← ec]; exact List.mem_map.mpr ⟨p, hp, rfl⟩)).trans hun
  have hc : own_c kf' of' qs = own_opt t c k 1 := by rw [own_opt, if_neg ht, b2, ec]
  rcases b3 with ⟨e, s⟩ | ⟨e, s⟩
  · exact ⟨kf', of', lf', rf', us', un', z, qs, U, KK, b1, hc, by rw [e]; exact hus, by omega, fun p hp => hlt p (s p hp), hu⟩
  · refine ⟨kf', of', lf', rf', us', un', z, qs, U + 1, KK, b1, hc, by rw [e]; rfl, by omega, fun p hp => ?_, hu⟩
    rcases s p hp with h | h
    · have := hlt p h; omega
    · omega
theorem own_E_add {Z : State} {h : Heap} {o aK aO aS aL aR : Addr} {c : List (Int64 × Int64)} {t : Int32} {k w : Int64} {kf of kf' of' : Nat → Int64} {lf rf lf' rf' : Nat → Int32} {us un us' un' z : Int32} {U : Nat} {ps qs : List Nat} (ht : ¬ t = 0) (ec : own_c kf of ps = c)
    (KK : own_K Z h o aK aO aS aL aR kf' of' lf' rf' us' un' z) (AA : own_A kf of lf rf us un U k w ps kf' of' lf' rf' us' un' z qs) : own_E Z h o aK aO aS aL aR (own_opt t c k w) :=
  ⟨kf', of', lf', rf', us', un', z, qs, KK, AA.1, by rw [own_opt, if_neg ht, AA.2.1, ec]⟩
theorem own_len {kf of : Nat → Int64} {ps : List Nat} {c : List (Int64 × Int64)} {i : Nat} (ec : own_c kf of ps = c) (I : own_I i c) (hi : i ≤ 4) : ps.length ≤ 4 := by
  have h := I.2.2; rw [← ec, own_c, List.length_map] at h; omega
theorem own_sel {s v n : Int32} (hs : s = if v.toInt ≤ 0 then (0 : Int32) else (1 : Int32)) (hv : v = n) : s ≠ 0 ↔ 0 < n.toInt := by
  subst hv; subst hs; split
  · exact ⟨fun h => absurd rfl h, fun h => absurd h (by omega)⟩
  · exact ⟨fun _ => by omega, fun _ => by decide⟩
theorem own_mask (y : Int64) : 0 ≤ (y &&& 9223372036854775807).toInt := by
  rw [Jvm.Kit.i64_mask y 9223372036854775807 (k := 63) (by decide) (by decide)]; omega

theorem d_prog_19_method_14_0 : decode prog_19_method_14_code 0 = .ok (.iload_n 1, 1) := by decide +kernel
theorem d_prog_19_method_14_1 : decode prog_19_method_14_code 1 = .ok (.iconst (-1), 1) := by decide +kernel
theorem d_prog_19_method_14_2 : decode prog_19_method_14_code 2 = .ok (.if_icmp .ne 7, 3) := by decide +kernel
theorem d_prog_19_method_14_9 : decode prog_19_method_14_code 9 = .ok (.aload_n 0, 1) := by decide +kernel
theorem d_prog_19_method_14_10 : decode prog_19_method_14_code 10 = .ok (.getfield 16, 3) := by decide +kernel
theorem d_prog_19_method_14_13 : decode prog_19_method_14_code 13 = .ok (.iload_n 1, 1) := by decide +kernel
theorem d_prog_19_method_14_14 : decode prog_19_method_14_code 14 = .ok (.laload, 1) := by decide +kernel
theorem d_prog_19_method_14_15 : decode prog_19_method_14_code 15 = .ok (.lreturn, 1) := by decide +kernel
theorem d_prog_19_method_14_5 : decode prog_19_method_14_code 5 = .ok (.lconst 0, 1) := by decide +kernel
theorem d_prog_19_method_14_6 : decode prog_19_method_14_code 6 = .ok (.goto 9, 3) := by decide +kernel
theorem d_prog_19_method_13_0 : decode prog_19_method_13_code 0 = .ok (.aload_n 0, 1) := by decide +kernel
theorem d_prog_19_method_13_1 : decode prog_19_method_13_code 1 = .ok (.getfield 16, 3) := by decide +kernel
theorem d_prog_19_method_13_4 : decode prog_19_method_13_code 4 = .ok (.iload_n 1, 1) := by decide +kernel
theorem d_prog_19_method_13_5 : decode prog_19_method_13_code 5 = .ok (.aload_n 0, 1) := by decide +kernel
theorem d_prog_19_method_13_6 : decode prog_19_method_13_code 6 = .ok (.getfield 13, 3) := by decide +kernel
theorem d_prog_19_method_13_9 : decode prog_19_method_13_code 9 = .ok (.iload_n 1, 1) := by decide +kernel
theorem d_prog_19_method_13_10 : decode prog_19_method_13_code 10 = .ok (.laload, 1) := by decide +kernel
theorem d_prog_19_method_13_11 : decode prog_19_method_13_code 11 = .ok (.aload_n 0, 1) := by decide +kernel
theorem d_prog_19_method_13_12 : decode prog_19_method_13_code 12 = .ok (.aload_n 0, 1) := by decide +kernel
theorem d_prog_19_method_13_13 : decode prog_19_method_13_code 13 = .ok (.getfield 19, 3) := by decide +kernel
theorem d_prog_19_method_13_16 : decode prog_19_method_13_code 16 = .ok (.iload_n 1, 1) := by decide +kernel
theorem d_prog_19_method_13_17 : decode prog_19_method_13_code 17 = .ok (.iaload, 1) := by decide +kernel
theorem d_prog_19_method_13_18 : decode prog_19_method_13_code 18 = .ok (.invokevirtual 46, 3) := by decide +kernel
theorem d_prog_19_method_13_21 : decode prog_19_method_13_code 21 = .ok (.ladd, 1) := by decide +kernel
theorem d_prog_19_method_13_22 : decode prog_19_method_13_code 22 = .ok (.aload_n 0, 1) := by decide +kernel
theorem d_prog_19_method_13_23 : decode prog_19_method_13_code 23 = .ok (.aload_n 0, 1) := by decide +kernel
theorem d_prog_19_method_13_24 : decode prog_19_method_13_code 24 = .ok (.getfield 23, 3) := by decide +kernel
theorem d_prog_19_method_13_27 : decode prog_19_method_13_code 27 = .ok (.iload_n 1, 1) := by decide +kernel
theorem d_prog_19_method_13_28 : decode prog_19_method_13_code 28 = .ok (.iaload, 1) := by decide +kernel
theorem d_prog_19_method_13_29 : decode prog_19_method_13_code 29 = .ok (.invokevirtual 46, 3) := by decide +kernel
theorem d_prog_19_method_13_32 : decode prog_19_method_13_code 32 = .ok (.ladd, 1) := by decide +kernel
theorem d_prog_19_method_13_33 : decode prog_19_method_13_code 33 = .ok (.lastore, 1) := by decide +kernel
theorem d_prog_19_method_13_34 : decode prog_19_method_13_code 34 = .ok (.return_, 1) := by decide +kernel
theorem d_prog_19_method_15_0 : decode prog_19_method_15_code 0 = .ok (.iload_n 0, 1) := by decide +kernel
theorem d_prog_19_method_15_1 : decode prog_19_method_15_code 1 = .ok (.ldc 93, 2) := by decide +kernel
theorem d_prog_19_method_15_3 : decode prog_19_method_15_code 3 = .ok (.imul, 1) := by decide +kernel
theorem d_prog_19_method_15_4 : decode prog_19_method_15_code 4 = .ok (.istore_n 1, 1) := by decide +kernel
theorem d_prog_19_method_15_5 : decode prog_19_method_15_code 5 = .ok (.iload_n 1, 1) := by decide +kernel
theorem d_prog_19_method_15_6 : decode prog_19_method_15_code 6 = .ok (.iload_n 1, 1) := by decide +kernel
theorem d_prog_19_method_15_7 : decode prog_19_method_15_code 7 = .ok (.bipush 16, 2) := by decide +kernel
theorem d_prog_19_method_15_9 : decode prog_19_method_15_code 9 = .ok (.iushr, 1) := by decide +kernel
theorem d_prog_19_method_15_10 : decode prog_19_method_15_code 10 = .ok (.ixor, 1) := by decide +kernel
theorem d_prog_19_method_15_11 : decode prog_19_method_15_code 11 = .ok (.istore_n 1, 1) := by decide +kernel
theorem d_prog_19_method_15_12 : decode prog_19_method_15_code 12 = .ok (.iload_n 1, 1) := by decide +kernel
theorem d_prog_19_method_15_13 : decode prog_19_method_15_code 13 = .ok (.ldc 94, 2) := by decide +kernel
theorem d_prog_19_method_15_15 : decode prog_19_method_15_code 15 = .ok (.imul, 1) := by decide +kernel
theorem d_prog_19_method_15_16 : decode prog_19_method_15_code 16 = .ok (.istore_n 1, 1) := by decide +kernel
theorem d_prog_19_method_15_17 : decode prog_19_method_15_code 17 = .ok (.iload_n 1, 1) := by decide +kernel
theorem d_prog_19_method_15_18 : decode prog_19_method_15_code 18 = .ok (.iload_n 1, 1) := by decide +kernel
theorem d_prog_19_method_15_19 : decode prog_19_method_15_code 19 = .ok (.bipush 13, 2) := by decide +kernel
theorem d_prog_19_method_15_21 : decode prog_19_method_15_code 21 = .ok (.iushr, 1) := by decide +kernel
theorem d_prog_19_method_15_22 : decode prog_19_method_15_code 22 = .ok (.ixor, 1) := by decide +kernel
theorem d_prog_19_method_15_23 : decode prog_19_method_15_code 23 = .ok (.istore_n 1, 1) := by decide +kernel
theorem d_prog_19_method_15_24 : decode prog_19_method_15_code 24 = .ok (.iload_n 1, 1) := by decide +kernel
theorem d_prog_19_method_15_25 : decode prog_19_method_15_code 25 = .ok (.ldc 95, 2) := by decide +kernel
theorem d_prog_19_method_15_27 : decode prog_19_method_15_code 27 = .ok (.imul, 1) := by decide +kernel
theorem d_prog_19_method_15_28 : decode prog_19_method_15_code 28 = .ok (.istore_n 1, 1) := by decide +kernel
theorem d_prog_19_method_15_29 : decode prog_19_method_15_code 29 = .ok (.iload_n 1, 1) := by decide +kernel
theorem d_prog_19_method_15_30 : decode prog_19_method_15_code 30 = .ok (.iload_n 1, 1) := by decide +kernel
theorem d_prog_19_method_15_31 : decode prog_19_method_15_code 31 = .ok (.bipush 16, 2) := by decide +kernel
theorem d_prog_19_method_15_33 : decode prog_19_method_15_code 33 = .ok (.iushr, 1) := by decide +kernel
theorem d_prog_19_method_15_34 : decode prog_19_method_15_code 34 = .ok (.ixor, 1) := by decide +kernel
theorem d_prog_19_method_15_35 : decode prog_19_method_15_code 35 = .ok (.ireturn, 1) := by decide +kernel
theorem d_prog_19_method_11_0 : decode prog_19_method_11_code 0 = .ok (.aload_n 0, 1) := by decide +kernel
theorem d_prog_19_method_11_1 : decode prog_19_method_11_code 1 = .ok (.getfield 19, 3) := by decide +kernel
theorem d_prog_19_method_11_4 : decode prog_19_method_11_code 4 = .ok (.iload_n 1, 1) := by decide +kernel
theorem d_prog_19_method_11_5 : decode prog_19_method_11_code 5 = .ok (.iaload, 1) := by decide +kernel
theorem d_prog_19_method_11_6 : decode prog_19_method_11_code 6 = .ok (.istore_n 2, 1) := by decide +kernel
theorem d_prog_19_method_11_7 : decode prog_19_method_11_code 7 = .ok (.aload_n 0, 1) := by decide +kernel
theorem d_prog_19_method_11_8 : decode prog_19_method_11_code 8 = .ok (.getfield 19, 3) := by decide +kernel
theorem d_prog_19_method_11_11 : decode prog_19_method_11_code 11 = .ok (.iload_n 1, 1) := by decide +kernel
theorem d_prog_19_method_11_12 : decode prog_19_method_11_code 12 = .ok (.aload_n 0, 1) := by decide +kernel
theorem d_prog_19_method_11_13 : decode prog_19_method_11_code 13 = .ok (.getfield 23, 3) := by decide +kernel
theorem d_prog_19_method_11_16 : decode prog_19_method_11_code 16 = .ok (.iload_n 2, 1) := by decide +kernel
theorem d_prog_19_method_11_17 : decode prog_19_method_11_code 17 = .ok (.iaload, 1) := by decide +kernel
theorem d_prog_19_method_11_18 : decode prog_19_method_11_code 18 = .ok (.iastore, 1) := by decide +kernel
theorem d_prog_19_method_11_19 : decode prog_19_method_11_code 19 = .ok (.aload_n 0, 1) := by decide +kernel
theorem d_prog_19_method_11_20 : decode prog_19_method_11_code 20 = .ok (.getfield 23, 3) := by decide +kernel
theorem d_prog_19_method_11_23 : decode prog_19_method_11_code 23 = .ok (.iload_n 2, 1) := by decide +kernel
theorem d_prog_19_method_11_24 : decode prog_19_method_11_code 24 = .ok (.iload_n 1, 1) := by decide +kernel
theorem d_prog_19_method_11_25 : decode prog_19_method_11_code 25 = .ok (.iastore, 1) := by decide +kernel
theorem d_prog_19_method_11_26 : decode prog_19_method_11_code 26 = .ok (.aload_n 0, 1) := by decide +kernel
theorem d_prog_19_method_11_27 : decode prog_19_method_11_code 27 = .ok (.iload_n 1, 1) := by decide +kernel
theorem d_prog_19_method_11_28 : decode prog_19_method_11_code 28 = .ok (.invokevirtual 90, 3) := by decide +kernel
theorem d_prog_19_method_11_31 : decode prog_19_method_11_code 31 = .ok (.aload_n 0, 1) := by decide +kernel
theorem d_prog_19_method_11_32 : decode prog_19_method_11_code 32 = .ok (.iload_n 2, 1) := by decide +kernel
theorem d_prog_19_method_11_33 : decode prog_19_method_11_code 33 = .ok (.invokevirtual 90, 3) := by decide +kernel
theorem d_prog_19_method_11_36 : decode prog_19_method_11_code 36 = .ok (.iload_n 2, 1) := by decide +kernel
theorem d_prog_19_method_11_37 : decode prog_19_method_11_code 37 = .ok (.ireturn, 1) := by decide +kernel
theorem d_prog_19_method_12_0 : decode prog_19_method_12_code 0 = .ok (.aload_n 0, 1) := by decide +kernel
theorem d_prog_19_method_12_1 : decode prog_19_method_12_code 1 = .ok (.getfield 23, 3) := by decide +kernel
theorem d_prog_19_method_12_4 : decode prog_19_method_12_code 4 = .ok (.iload_n 1, 1) := by decide +kernel
theorem d_prog_19_method_12_5 : decode prog_19_method_12_code 5 = .ok (.iaload, 1) := by decide +kernel
theorem d_prog_19_method_12_6 : decode prog_19_method_12_code 6 = .ok (.istore_n 2, 1) := by decide +kernel
theorem d_prog_19_method_12_7 : decode prog_19_method_12_code 7 = .ok (.aload_n 0, 1) := by decide +kernel
theorem d_prog_19_method_12_8 : decode prog_19_method_12_code 8 = .ok (.getfield 23, 3) := by decide +kernel
theorem d_prog_19_method_12_11 : decode prog_19_method_12_code 11 = .ok (.iload_n 1, 1) := by decide +kernel
theorem d_prog_19_method_12_12 : decode prog_19_method_12_code 12 = .ok (.aload_n 0, 1) := by decide +kernel
theorem d_prog_19_method_12_13 : decode prog_19_method_12_code 13 = .ok (.getfield 19, 3) := by decide +kernel
theorem d_prog_19_method_12_16 : decode prog_19_method_12_code 16 = .ok (.iload_n 2, 1) := by decide +kernel
theorem d_prog_19_method_12_17 : decode prog_19_method_12_code 17 = .ok (.iaload, 1) := by decide +kernel
theorem d_prog_19_method_12_18 : decode prog_19_method_12_code 18 = .ok (.iastore, 1) := by decide +kernel
theorem d_prog_19_method_12_19 : decode prog_19_method_12_code 19 = .ok (.aload_n 0, 1) := by decide +kernel
theorem d_prog_19_method_12_20 : decode prog_19_method_12_code 20 = .ok (.getfield 19, 3) := by decide +kernel
theorem d_prog_19_method_12_23 : decode prog_19_method_12_code 23 = .ok (.iload_n 2, 1) := by decide +kernel
theorem d_prog_19_method_12_24 : decode prog_19_method_12_code 24 = .ok (.iload_n 1, 1) := by decide +kernel
theorem d_prog_19_method_12_25 : decode prog_19_method_12_code 25 = .ok (.iastore, 1) := by decide +kernel
theorem d_prog_19_method_12_26 : decode prog_19_method_12_code 26 = .ok (.aload_n 0, 1) := by decide +kernel
theorem d_prog_19_method_12_27 : decode prog_19_method_12_code 27 = .ok (.iload_n 1, 1) := by decide +kernel
theorem d_prog_19_method_12_28 : decode prog_19_method_12_code 28 = .ok (.invokevirtual 90, 3) := by decide +kernel
theorem d_prog_19_method_12_31 : decode prog_19_method_12_code 31 = .ok (.aload_n 0, 1) := by decide +kernel
theorem d_prog_19_method_12_32 : decode prog_19_method_12_code 32 = .ok (.iload_n 2, 1) := by decide +kernel
theorem d_prog_19_method_12_33 : decode prog_19_method_12_code 33 = .ok (.invokevirtual 90, 3) := by decide +kernel
theorem d_prog_19_method_12_36 : decode prog_19_method_12_code 36 = .ok (.iload_n 2, 1) := by decide +kernel
theorem d_prog_19_method_12_37 : decode prog_19_method_12_code 37 = .ok (.ireturn, 1) := by decide +kernel
theorem d_prog_19_method_16_0 : decode prog_19_method_16_code 0 = .ok (.aload_n 0, 1) := by decide +kernel
theorem d_prog_19_method_16_1 : decode prog_19_method_16_code 1 = .ok (.getfield 26, 3) := by decide +kernel
theorem d_prog_19_method_16_4 : decode prog_19_method_16_code 4 = .ok (.istore 5, 2) := by decide +kernel
theorem d_prog_19_method_16_6 : decode prog_19_method_16_code 6 = .ok (.iload 5, 2) := by decide +kernel
theorem d_prog_19_method_16_8 : decode prog_19_method_16_code 8 = .ok (.iconst (-1), 1) := by decide +kernel
theorem d_prog_19_method_16_9 : decode prog_19_method_16_code 9 = .ok (.if_icmp .eq 17, 3) := by decide +kernel
theorem d_prog_19_method_16_26 : decode prog_19_method_16_code 26 = .ok (.aload_n 0, 1) := by decide +kernel
theorem d_prog_19_method_16_27 : decode prog_19_method_16_code 27 = .ok (.getfield 96, 3) := by decide +kernel
theorem d_prog_19_method_16_30 : decode prog_19_method_16_code 30 = .ok (.aload_n 0, 1) := by decide +kernel
theorem d_prog_19_method_16_31 : decode prog_19_method_16_code 31 = .ok (.getfield 7, 3) := by decide +kernel
theorem d_prog_19_method_16_34 : decode prog_19_method_16_code 34 = .ok (.arraylength, 1) := by decide +kernel
theorem d_prog_19_method_16_35 : decode prog_19_method_16_code 35 = .ok (.if_icmp .ne 76, 3) := by decide +kernel
theorem d_prog_19_method_16_111 : decode prog_19_method_16_code 111 = .ok (.aload_n 0, 1) := by decide +kernel
theorem d_prog_19_method_16_112 : decode prog_19_method_16_code 112 = .ok (.dup, 1) := by decide +kernel
theorem d_prog_19_method_16_113 : decode prog_19_method_16_code 113 = .ok (.getfield 96, 3) := by decide +kernel
theorem d_prog_19_method_16_116 : decode prog_19_method_16_code 116 = .ok (.dup_x1, 1) := by decide +kernel
theorem d_prog_19_method_16_117 : decode prog_19_method_16_code 117 = .ok (.iconst 1, 1) := by decide +kernel
theorem d_prog_19_method_16_118 : decode prog_19_method_16_code 118 = .ok (.iadd, 1) := by decide +kernel
theorem d_prog_19_method_16_119 : decode prog_19_method_16_code 119 = .ok (.putfield 96, 3) := by decide +kernel
theorem d_prog_19_method_16_122 : decode prog_19_method_16_code 122 = .ok (.istore 5, 2) := by decide +kernel
theorem d_prog_19_method_16_124 : decode prog_19_method_16_code 124 = .ok (.aload_n 0, 1) := by decide +kernel
theorem d_prog_19_method_16_125 : decode prog_19_method_16_code 125 = .ok (.getfield 7, 3) := by decide +kernel
theorem d_prog_19_method_16_128 : decode prog_19_method_16_code 128 = .ok (.iload 5, 2) := by decide +kernel
theorem d_prog_19_method_16_130 : decode prog_19_method_16_code 130 = .ok (.lload_n 1, 1) := by decide +kernel
theorem d_prog_19_method_16_131 : decode prog_19_method_16_code 131 = .ok (.lastore, 1) := by decide +kernel
theorem d_prog_19_method_16_132 : decode prog_19_method_16_code 132 = .ok (.aload_n 0, 1) := by decide +kernel
theorem d_prog_19_method_16_133 : decode prog_19_method_16_code 133 = .ok (.getfield 13, 3) := by decide +kernel
theorem d_prog_19_method_16_136 : decode prog_19_method_16_code 136 = .ok (.iload 5, 2) := by decide +kernel
theorem d_prog_19_method_16_138 : decode prog_19_method_16_code 138 = .ok (.lload_n 3, 1) := by decide +kernel
theorem d_prog_19_method_16_139 : decode prog_19_method_16_code 139 = .ok (.lastore, 1) := by decide +kernel
theorem d_prog_19_method_16_140 : decode prog_19_method_16_code 140 = .ok (.aload_n 0, 1) := by decide +kernel
theorem d_prog_19_method_16_141 : decode prog_19_method_16_code 141 = .ok (.getfield 16, 3) := by decide +kernel
theorem d_prog_19_method_16_144 : decode prog_19_method_16_code 144 = .ok (.iload 5, 2) := by decide +kernel
theorem d_prog_19_method_16_146 : decode prog_19_method_16_code 146 = .ok (.lload_n 3, 1) := by decide +kernel
theorem d_prog_19_method_16_147 : decode prog_19_method_16_code 147 = .ok (.lastore, 1) := by decide +kernel
theorem d_prog_19_method_16_148 : decode prog_19_method_16_code 148 = .ok (.aload_n 0, 1) := by decide +kernel
theorem d_prog_19_method_16_149 : decode prog_19_method_16_code 149 = .ok (.getfield 19, 3) := by decide +kernel
theorem d_prog_19_method_16_152 : decode prog_19_method_16_code 152 = .ok (.iload 5, 2) := by decide +kernel
theorem d_prog_19_method_16_154 : decode prog_19_method_16_code 154 = .ok (.iconst (-1), 1) := by decide +kernel
theorem d_prog_19_method_16_155 : decode prog_19_method_16_code 155 = .ok (.iastore, 1) := by decide +kernel
theorem d_prog_19_method_16_156 : decode prog_19_method_16_code 156 = .ok (.aload_n 0, 1) := by decide +kernel
theorem d_prog_19_method_16_157 : decode prog_19_method_16_code 157 = .ok (.getfield 23, 3) := by decide +kernel
theorem d_prog_19_method_16_160 : decode prog_19_method_16_code 160 = .ok (.iload 5, 2) := by decide +kernel
theorem d_prog_19_method_16_162 : decode prog_19_method_16_code 162 = .ok (.iconst (-1), 1) := by decide +kernel
theorem d_prog_19_method_16_163 : decode prog_19_method_16_code 163 = .ok (.iastore, 1) := by decide +kernel
theorem d_prog_19_method_16_164 : decode prog_19_method_16_code 164 = .ok (.iload 5, 2) := by decide +kernel
theorem d_prog_19_method_16_166 : decode prog_19_method_16_code 166 = .ok (.ireturn, 1) := by decide +kernel
theorem d_prog_19_method_17_0 : decode prog_19_method_17_code 0 = .ok (.aload_n 0, 1) := by decide +kernel
theorem d_prog_19_method_17_1 : decode prog_19_method_17_code 1 = .ok (.getfield 19, 3) := by decide +kernel
theorem d_prog_19_method_17_4 : decode prog_19_method_17_code 4 = .ok (.iload_n 1, 1) := by decide +kernel
theorem d_prog_19_method_17_5 : decode prog_19_method_17_code 5 = .ok (.aload_n 0, 1) := by decide +kernel
theorem d_prog_19_method_17_6 : decode prog_19_method_17_code 6 = .ok (.getfield 26, 3) := by decide +kernel
theorem d_prog_19_method_17_9 : decode prog_19_method_17_code 9 = .ok (.iastore, 1) := by decide +kernel
theorem d_prog_19_method_17_10 : decode prog_19_method_17_code 10 = .ok (.aload_n 0, 1) := by decide +kernel
theorem d_prog_19_method_17_11 : decode prog_19_method_17_code 11 = .ok (.iload_n 1, 1) := by decide +kernel
theorem d_prog_19_method_17_12 : decode prog_19_method_17_code 12 = .ok (.putfield 26, 3) := by decide +kernel
theorem d_prog_19_method_17_15 : decode prog_19_method_17_code 15 = .ok (.return_, 1) := by decide +kernel
theorem d_prog_19_method_10_0 : decode prog_19_method_10_code 0 = .ok (.iload_n 1, 1) := by decide +kernel
theorem d_prog_19_method_10_1 : decode prog_19_method_10_code 1 = .ok (.iconst (-1), 1) := by decide +kernel
theorem d_prog_19_method_10_2 : decode prog_19_method_10_code 2 = .ok (.if_icmp .eq 8, 3) := by decide +kernel
theorem d_prog_19_method_10_10 : decode prog_19_method_10_code 10 = .ok (.iload_n 1, 1) := by decide +kernel
theorem d_prog_19_method_10_11 : decode prog_19_method_10_code 11 = .ok (.iconst (-1), 1) := by decide +kernel
theorem d_prog_19_method_10_12 : decode prog_19_method_10_code 12 = .ok (.if_icmp .ne 7, 3) := by decide +kernel
theorem d_prog_19_method_10_15 : decode prog_19_method_10_code 15 = .ok (.iload_n 2, 1) := by decide +kernel
theorem d_prog_19_method_10_16 : decode prog_19_method_10_code 16 = .ok (.goto 4, 3) := by decide +kernel
theorem d_prog_19_method_10_20 : decode prog_19_method_10_code 20 = .ok (.ireturn, 1) := by decide +kernel
theorem d_prog_19_method_10_5 : decode prog_19_method_10_code 5 = .ok (.iload_n 2, 1) := by decide +kernel
theorem d_prog_19_method_10_6 : decode prog_19_method_10_code 6 = .ok (.iconst (-1), 1) := by decide +kernel
theorem d_prog_19_method_10_7 : decode prog_19_method_10_code 7 = .ok (.if_icmp .ne 14, 3) := by decide +kernel
theorem d_prog_19_method_10_19 : decode prog_19_method_10_code 19 = .ok (.iload_n 1, 1) := by decide +kernel
theorem d_prog_19_method_10_21 : decode prog_19_method_10_code 21 = .ok (.iload_n 1, 1) := by decide +kernel
theorem d_prog_19_method_10_22 : decode prog_19_method_10_code 22 = .ok (.invokestatic 80, 3) := by decide +kernel
theorem d_prog_19_method_10_25 : decode prog_19_method_10_code 25 = .ok (.iload_n 2, 1) := by decide +kernel
theorem d_prog_19_method_10_26 : decode prog_19_method_10_code 26 = .ok (.invokestatic 80, 3) := by decide +kernel
theorem d_prog_19_method_10_29 : decode prog_19_method_10_code 29 = .ok (.if_icmp .le 27, 3) := by decide +kernel
theorem d_prog_19_method_10_56 : decode prog_19_method_10_code 56 = .ok (.aload_n 0, 1) := by decide +kernel
theorem d_prog_19_method_10_57 : decode prog_19_method_10_code 57 = .ok (.getfield 19, 3) := by decide +kernel
theorem d_prog_19_method_10_60 : decode prog_19_method_10_code 60 = .ok (.iload_n 2, 1) := by decide +kernel
theorem d_prog_19_method_10_61 : decode prog_19_method_10_code 61 = .ok (.aload_n 0, 1) := by decide +kernel
theorem d_prog_19_method_10_62 : decode prog_19_method_10_code 62 = .ok (.iload_n 1, 1) := by decide +kernel
theorem d_prog_19_method_10_63 : decode prog_19_method_10_code 63 = .ok (.aload_n 0, 1) := by decide +kernel
theorem d_prog_19_method_10_64 : decode prog_19_method_10_code 64 = .ok (.getfield 19, 3) := by decide +kernel
theorem d_prog_19_method_10_67 : decode prog_19_method_10_code 67 = .ok (.iload_n 2, 1) := by decide +kernel
theorem d_prog_19_method_10_68 : decode prog_19_method_10_code 68 = .ok (.iaload, 1) := by decide +kernel
theorem d_prog_19_method_10_69 : decode prog_19_method_10_code 69 = .ok (.invokevirtual 72, 3) := by decide +kernel
theorem d_prog_19_method_10_72 : decode prog_19_method_10_code 72 = .ok (.iastore, 1) := by decide +kernel
theorem d_prog_19_method_10_73 : decode prog_19_method_10_code 73 = .ok (.aload_n 0, 1) := by decide +kernel
theorem d_prog_19_method_10_74 : decode prog_19_method_10_code 74 = .ok (.iload_n 2, 1) := by decide +kernel
theorem d_prog_19_method_10_75 : decode prog_19_method_10_code 75 = .ok (.invokevirtual 90, 3) := by decide +kernel
theorem d_prog_19_method_10_78 : decode prog_19_method_10_code 78 = .ok (.iload_n 2, 1) := by decide +kernel
theorem d_prog_19_method_10_79 : decode prog_19_method_10_code 79 = .ok (.ireturn, 1) := by decide +kernel
theorem d_prog_19_method_10_32 : decode prog_19_method_10_code 32 = .ok (.aload_n 0, 1) := by decide +kernel
theorem d_prog_19_method_10_33 : decode prog_19_method_10_code 33 = .ok (.getfield 23, 3) := by decide +kernel
theorem d_prog_19_method_10_36 : decode prog_19_method_10_code 36 = .ok (.iload_n 1, 1) := by decide +kernel
theorem d_prog_19_method_10_37 : decode prog_19_method_10_code 37 = .ok (.aload_n 0, 1) := by decide +kernel
theorem d_prog_19_method_10_38 : decode prog_19_method_10_code 38 = .ok (.aload_n 0, 1) := by decide +kernel
theorem d_prog_19_method_10_39 : decode prog_19_method_10_code 39 = .ok (.getfield 23, 3) := by decide +kernel
theorem d_prog_19_method_10_42 : decode prog_19_method_10_code 42 = .ok (.iload_n 1, 1) := by decide +kernel
theorem d_prog_19_method_10_43 : decode prog_19_method_10_code 43 = .ok (.iaload, 1) := by decide +kernel
theorem d_prog_19_method_10_44 : decode prog_19_method_10_code 44 = .ok (.iload_n 2, 1) := by decide +kernel
theorem d_prog_19_method_10_45 : decode prog_19_method_10_code 45 = .ok (.invokevirtual 72, 3) := by decide +kernel
theorem d_prog_19_method_10_48 : decode prog_19_method_10_code 48 = .ok (.iastore, 1) := by decide +kernel
theorem d_prog_19_method_10_49 : decode prog_19_method_10_code 49 = .ok (.aload_n 0, 1) := by decide +kernel
theorem d_prog_19_method_10_50 : decode prog_19_method_10_code 50 = .ok (.iload_n 1, 1) := by decide +kernel
theorem d_prog_19_method_10_51 : decode prog_19_method_10_code 51 = .ok (.invokevirtual 90, 3) := by decide +kernel
theorem d_prog_19_method_10_54 : decode prog_19_method_10_code 54 = .ok (.iload_n 1, 1) := by decide +kernel
theorem d_prog_19_method_10_55 : decode prog_19_method_10_code 55 = .ok (.ireturn, 1) := by decide +kernel
theorem d_prog_19_method_9_0 : decode prog_19_method_9_code 0 = .ok (.iload_n 1, 1) := by decide +kernel
theorem d_prog_19_method_9_1 : decode prog_19_method_9_code 1 = .ok (.iconst (-1), 1) := by decide +kernel
theorem d_prog_19_method_9_2 : decode prog_19_method_9_code 2 = .ok (.if_icmp .ne 11, 3) := by decide +kernel
theorem d_prog_19_method_9_5 : decode prog_19_method_9_code 5 = .ok (.aload_n 0, 1) := by decide +kernel
theorem d_prog_19_method_9_6 : decode prog_19_method_9_code 6 = .ok (.lload_n 2, 1) := by decide +kernel
theorem d_prog_19_method_9_7 : decode prog_19_method_9_code 7 = .ok (.lload 4, 2) := by decide +kernel
theorem d_prog_19_method_9_9 : decode prog_19_method_9_code 9 = .ok (.invokevirtual 68, 3) := by decide +kernel
theorem d_prog_19_method_9_12 : decode prog_19_method_9_code 12 = .ok (.ireturn, 1) := by decide +kernel
theorem d_prog_19_method_9_13 : decode prog_19_method_9_code 13 = .ok (.aload_n 0, 1) := by decide +kernel
theorem d_prog_19_method_9_14 : decode prog_19_method_9_code 14 = .ok (.getfield 16, 3) := by decide +kernel
theorem d_prog_19_method_9_17 : decode prog_19_method_9_code 17 = .ok (.iload_n 1, 1) := by decide +kernel
theorem d_prog_19_method_9_18 : decode prog_19_method_9_code 18 = .ok (.dup2, 1) := by decide +kernel
theorem d_prog_19_method_9_19 : decode prog_19_method_9_code 19 = .ok (.laload, 1) := by decide +kernel
theorem d_prog_19_method_9_20 : decode prog_19_method_9_code 20 = .ok (.lload 4, 2) := by decide +kernel
theorem d_prog_19_method_9_22 : decode prog_19_method_9_code 22 = .ok (.ladd, 1) := by decide +kernel
theorem d_prog_19_method_9_23 : decode prog_19_method_9_code 23 = .ok (.lastore, 1) := by decide +kernel
theorem d_prog_19_method_9_24 : decode prog_19_method_9_code 24 = .ok (.lload_n 2, 1) := by decide +kernel
theorem d_prog_19_method_9_25 : decode prog_19_method_9_code 25 = .ok (.aload_n 0, 1) := by decide +kernel
theorem d_prog_19_method_9_26 : decode prog_19_method_9_code 26 = .ok (.getfield 7, 3) := by decide +kernel
theorem d_prog_19_method_9_29 : decode prog_19_method_9_code 29 = .ok (.iload_n 1, 1) := by decide +kernel
theorem d_prog_19_method_9_30 : decode prog_19_method_9_code 30 = .ok (.laload, 1) := by decide +kernel
theorem d_prog_19_method_9_31 : decode prog_19_method_9_code 31 = .ok (.lcmp, 1) := by decide +kernel
theorem d_prog_19_method_9_32 : decode prog_19_method_9_code 32 = .ok (.ifCond .ne 53, 3) := by decide +kernel
theorem d_prog_19_method_9_85 : decode prog_19_method_9_code 85 = .ok (.lload_n 2, 1) := by decide +kernel
theorem d_prog_19_method_9_86 : decode prog_19_method_9_code 86 = .ok (.aload_n 0, 1) := by decide +kernel
theorem d_prog_19_method_9_87 : decode prog_19_method_9_code 87 = .ok (.getfield 7, 3) := by decide +kernel
theorem d_prog_19_method_9_90 : decode prog_19_method_9_code 90 = .ok (.iload_n 1, 1) := by decide +kernel
theorem d_prog_19_method_9_91 : decode prog_19_method_9_code 91 = .ok (.laload, 1) := by decide +kernel
theorem d_prog_19_method_9_92 : decode prog_19_method_9_code 92 = .ok (.lcmp, 1) := by decide +kernel
theorem d_prog_19_method_9_93 : decode prog_19_method_9_code 93 = .ok (.ifCond .ge 54, 3) := by decide +kernel
theorem d_prog_19_method_9_147 : decode prog_19_method_9_code 147 = .ok (.aload_n 0, 1) := by decide +kernel
theorem d_prog_19_method_9_148 : decode prog_19_method_9_code 148 = .ok (.aload_n 0, 1) := by decide +kernel
theorem d_prog_19_method_9_149 : decode prog_19_method_9_code 149 = .ok (.getfield 23, 3) := by decide +kernel
theorem d_prog_19_method_9_152 : decode prog_19_method_9_code 152 = .ok (.iload_n 1, 1) := by decide +kernel
theorem d_prog_19_method_9_153 : decode prog_19_method_9_code 153 = .ok (.iaload, 1) := by decide +kernel
theorem d_prog_19_method_9_154 : decode prog_19_method_9_code 154 = .ok (.lload_n 2, 1) := by decide +kernel
theorem d_prog_19_method_9_155 : decode prog_19_method_9_code 155 = .ok (.lload 4, 2) := by decide +kernel
theorem d_prog_19_method_9_157 : decode prog_19_method_9_code 157 = .ok (.invokevirtual 42, 3) := by decide +kernel
theorem d_prog_19_method_9_160 : decode prog_19_method_9_code 160 = .ok (.istore 6, 2) := by decide +kernel
theorem d_prog_19_method_9_162 : decode prog_19_method_9_code 162 = .ok (.aload_n 0, 1) := by decide +kernel
theorem d_prog_19_method_9_163 : decode prog_19_method_9_code 163 = .ok (.getfield 23, 3) := by decide +kernel
theorem d_prog_19_method_9_166 : decode prog_19_method_9_code 166 = .ok (.iload_n 1, 1) := by decide +kernel
theorem d_prog_19_method_9_167 : decode prog_19_method_9_code 167 = .ok (.iload 6, 2) := by decide +kernel
theorem d_prog_19_method_9_169 : decode prog_19_method_9_code 169 = .ok (.iastore, 1) := by decide +kernel
theorem d_prog_19_method_9_170 : decode prog_19_method_9_code 170 = .ok (.iload 6, 2) := by decide +kernel
theorem d_prog_19_method_9_172 : decode prog_19_method_9_code 172 = .ok (.iconst (-1), 1) := by decide +kernel
theorem d_prog_19_method_9_173 : decode prog_19_method_9_code 173 = .ok (.if_icmp .eq 23, 3) := by decide +kernel
theorem d_prog_19_method_9_196 : decode prog_19_method_9_code 196 = .ok (.iload_n 1, 1) := by decide +kernel
theorem d_prog_19_method_9_197 : decode prog_19_method_9_code 197 = .ok (.ireturn, 1) := by decide +kernel
theorem d_prog_19_method_9_176 : decode prog_19_method_9_code 176 = .ok (.iload 6, 2) := by decide +kernel
theorem d_prog_19_method_9_178 : decode prog_19_method_9_code 178 = .ok (.invokestatic 80, 3) := by decide +kernel
theorem d_prog_19_method_9_181 : decode prog_19_method_9_code 181 = .ok (.iload_n 1, 1) := by decide +kernel
theorem d_prog_19_method_9_182 : decode prog_19_method_9_code 182 = .ok (.invokestatic 80, 3) := by decide +kernel
theorem d_prog_19_method_9_185 : decode prog_19_method_9_code 185 = .ok (.if_icmp .le 11, 3) := by decide +kernel
theorem d_prog_19_method_9_188 : decode prog_19_method_9_code 188 = .ok (.aload_n 0, 1) := by decide +kernel
theorem d_prog_19_method_9_189 : decode prog_19_method_9_code 189 = .ok (.iload_n 1, 1) := by decide +kernel
theorem d_prog_19_method_9_190 : decode prog_19_method_9_code 190 = .ok (.invokevirtual 87, 3) := by decide +kernel
theorem d_prog_19_method_9_193 : decode prog_19_method_9_code 193 = .ok (.goto 4, 3) := by decide +kernel
theorem d_prog_19_method_9_96 : decode prog_19_method_9_code 96 = .ok (.aload_n 0, 1) := by decide +kernel
theorem d_prog_19_method_9_97 : decode prog_19_method_9_code 97 = .ok (.aload_n 0, 1) := by decide +kernel
theorem d_prog_19_method_9_98 : decode prog_19_method_9_code 98 = .ok (.getfield 19, 3) := by decide +kernel
theorem d_prog_19_method_9_101 : decode prog_19_method_9_code 101 = .ok (.iload_n 1, 1) := by decide +kernel
theorem d_prog_19_method_9_102 : decode prog_19_method_9_code 102 = .ok (.iaload, 1) := by decide +kernel
theorem d_prog_19_method_9_103 : decode prog_19_method_9_code 103 = .ok (.lload_n 2, 1) := by decide +kernel
theorem d_prog_19_method_9_104 : decode prog_19_method_9_code 104 = .ok (.lload 4, 2) := by decide +kernel
theorem d_prog_19_method_9_106 : decode prog_19_method_9_code 106 = .ok (.invokevirtual 42, 3) := by decide +kernel
theorem d_prog_19_method_9_109 : decode prog_19_method_9_code 109 = .ok (.istore 6, 2) := by decide +kernel
theorem d_prog_19_method_9_111 : decode prog_19_method_9_code 111 = .ok (.aload_n 0, 1) := by decide +kernel
theorem d_prog_19_method_9_112 : decode prog_19_method_9_code 112 = .ok (.getfield 19, 3) := by decide +kernel
theorem d_prog_19_method_9_115 : decode prog_19_method_9_code 115 = .ok (.iload_n 1, 1) := by decide +kernel
theorem d_prog_19_method_9_116 : decode prog_19_method_9_code 116 = .ok (.iload 6, 2) := by decide +kernel
theorem d_prog_19_method_9_118 : decode prog_19_method_9_code 118 = .ok (.iastore, 1) := by decide +kernel
theorem d_prog_19_method_9_119 : decode prog_19_method_9_code 119 = .ok (.iload 6, 2) := by decide +kernel
theorem d_prog_19_method_9_121 : decode prog_19_method_9_code 121 = .ok (.iconst (-1), 1) := by decide +kernel
theorem d_prog_19_method_9_122 : decode prog_19_method_9_code 122 = .ok (.if_icmp .eq 23, 3) := by decide +kernel
theorem d_prog_19_method_9_145 : decode prog_19_method_9_code 145 = .ok (.iload_n 1, 1) := by decide +kernel
theorem d_prog_19_method_9_146 : decode prog_19_method_9_code 146 = .ok (.ireturn, 1) := by decide +kernel
theorem d_prog_19_method_9_125 : decode prog_19_method_9_code 125 = .ok (.iload 6, 2) := by decide +kernel
theorem d_prog_19_method_9_127 : decode prog_19_method_9_code 127 = .ok (.invokestatic 80, 3) := by decide +kernel
theorem d_prog_19_method_9_130 : decode prog_19_method_9_code 130 = .ok (.iload_n 1, 1) := by decide +kernel
theorem d_prog_19_method_9_131 : decode prog_19_method_9_code 131 = .ok (.invokestatic 80, 3) := by decide +kernel
theorem d_prog_19_method_9_134 : decode prog_19_method_9_code 134 = .ok (.if_icmp .le 11, 3) := by decide +kernel
theorem d_prog_19_method_9_137 : decode prog_19_method_9_code 137 = .ok (.aload_n 0, 1) := by decide +kernel
theorem d_prog_19_method_9_138 : decode prog_19_method_9_code 138 = .ok (.iload_n 1, 1) := by decide +kernel
theorem d_prog_19_method_9_139 : decode prog_19_method_9_code 139 = .ok (.invokevirtual 84, 3) := by decide +kernel
theorem d_prog_19_method_9_142 : decode prog_19_method_9_code 142 = .ok (.goto 4, 3) := by decide +kernel
theorem d_prog_19_method_9_35 : decode prog_19_method_9_code 35 = .ok (.aload_n 0, 1) := by decide +kernel
theorem d_prog_19_method_9_36 : decode prog_19_method_9_code 36 = .ok (.getfield 13, 3) := by decide +kernel
theorem d_prog_19_method_9_39 : decode prog_19_method_9_code 39 = .ok (.iload_n 1, 1) := by decide +kernel
theorem d_prog_19_method_9_40 : decode prog_19_method_9_code 40 = .ok (.dup2, 1) := by decide +kernel
theorem d_prog_19_method_9_41 : decode prog_19_method_9_code 41 = .ok (.laload, 1) := by decide +kernel
theorem d_prog_19_method_9_42 : decode prog_19_method_9_code 42 = .ok (.lload 4, 2) := by decide +kernel
theorem d_prog_19_method_9_44 : decode prog_19_method_9_code 44 = .ok (.ladd, 1) := by decide +kernel
theorem d_prog_19_method_9_45 : decode prog_19_method_9_code 45 = .ok (.lastore, 1) := by decide +kernel
theorem d_prog_19_method_9_46 : decode prog_19_method_9_code 46 = .ok (.aload_n 0, 1) := by decide +kernel
theorem d_prog_19_method_9_47 : decode prog_19_method_9_code 47 = .ok (.getfield 13, 3) := by decide +kernel
theorem d_prog_19_method_9_50 : decode prog_19_method_9_code 50 = .ok (.iload_n 1, 1) := by decide +kernel
theorem d_prog_19_method_9_51 : decode prog_19_method_9_code 51 = .ok (.laload, 1) := by decide +kernel
theorem d_prog_19_method_9_52 : decode prog_19_method_9_code 52 = .ok (.lconst 0, 1) := by decide +kernel
theorem d_prog_19_method_9_53 : decode prog_19_method_9_code 53 = .ok (.lcmp, 1) := by decide +kernel
theorem d_prog_19_method_9_54 : decode prog_19_method_9_code 54 = .ok (.ifCond .eq 5, 3) := by decide +kernel
theorem d_prog_19_method_9_59 : decode prog_19_method_9_code 59 = .ok (.aload_n 0, 1) := by decide +kernel
theorem d_prog_19_method_9_60 : decode prog_19_method_9_code 60 = .ok (.aload_n 0, 1) := by decide +kernel
theorem d_prog_19_method_9_61 : decode prog_19_method_9_code 61 = .ok (.getfield 19, 3) := by decide +kernel
theorem d_prog_19_method_9_64 : decode prog_19_method_9_code 64 = .ok (.iload_n 1, 1) := by decide +kernel
theorem d_prog_19_method_9_65 : decode prog_19_method_9_code 65 = .ok (.iaload, 1) := by decide +kernel
theorem d_prog_19_method_9_66 : decode prog_19_method_9_code 66 = .ok (.aload_n 0, 1) := by decide +kernel
theorem d_prog_19_method_9_67 : decode prog_19_method_9_code 67 = .ok (.getfield 23, 3) := by decide +kernel
theorem d_prog_19_method_9_70 : decode prog_19_method_9_code 70 = .ok (.iload_n 1, 1) := by decide +kernel
theorem d_prog_19_method_9_71 : decode prog_19_method_9_code 71 = .ok (.iaload, 1) := by decide +kernel
theorem d_prog_19_method_9_72 : decode prog_19_method_9_code 72 = .ok (.invokevirtual 72, 3) := by decide +kernel
theorem d_prog_19_method_9_75 : decode prog_19_method_9_code 75 = .ok (.istore 6, 2) := by decide +kernel
theorem d_prog_19_method_9_77 : decode prog_19_method_9_code 77 = .ok (.aload_n 0, 1) := by decide +kernel
theorem d_prog_19_method_9_78 : decode prog_19_method_9_code 78 = .ok (.iload_n 1, 1) := by decide +kernel
theorem d_prog_19_method_9_79 : decode prog_19_method_9_code 79 = .ok (.invokevirtual 76, 3) := by decide +kernel
theorem d_prog_19_method_9_82 : decode prog_19_method_9_code 82 = .ok (.iload 6, 2) := by decide +kernel
theorem d_prog_19_method_9_84 : decode prog_19_method_9_code 84 = .ok (.ireturn, 1) := by decide +kernel
theorem d_prog_19_method_9_57 : decode prog_19_method_9_code 57 = .ok (.iload_n 1, 1) := by decide +kernel
theorem d_prog_19_method_9_58 : decode prog_19_method_9_code 58 = .ok (.ireturn, 1) := by decide +kernel
theorem d_prog_19_method_2_0 : decode prog_19_method_2_code 0 = .ok (.lload_n 1, 1) := by decide +kernel
theorem d_prog_19_method_2_1 : decode prog_19_method_2_code 1 = .ok (.lconst 0, 1) := by decide +kernel
theorem d_prog_19_method_2_2 : decode prog_19_method_2_code 2 = .ok (.lcmp, 1) := by decide +kernel
theorem d_prog_19_method_2_3 : decode prog_19_method_2_code 3 = .ok (.ifCond .ge 17, 3) := by decide +kernel
theorem d_prog_19_method_2_20 : decode prog_19_method_2_code 20 = .ok (.lload_n 3, 1) := by decide +kernel
theorem d_prog_19_method_2_21 : decode prog_19_method_2_code 21 = .ok (.lconst 0, 1) := by decide +kernel
theorem d_prog_19_method_2_22 : decode prog_19_method_2_code 22 = .ok (.lcmp, 1) := by decide +kernel
theorem d_prog_19_method_2_23 : decode prog_19_method_2_code 23 = .ok (.ifCond .eq 17, 3) := by decide +kernel
theorem d_prog_19_method_2_26 : decode prog_19_method_2_code 26 = .ok (.aload_n 0, 1) := by decide +kernel
theorem d_prog_19_method_2_27 : decode prog_19_method_2_code 27 = .ok (.aload_n 0, 1) := by decide +kernel
theorem d_prog_19_method_2_28 : decode prog_19_method_2_code 28 = .ok (.aload_n 0, 1) := by decide +kernel
theorem d_prog_19_method_2_29 : decode prog_19_method_2_code 29 = .ok (.getfield 30, 3) := by decide +kernel
theorem d_prog_19_method_2_32 : decode prog_19_method_2_code 32 = .ok (.lload_n 1, 1) := by decide +kernel
theorem d_prog_19_method_2_33 : decode prog_19_method_2_code 33 = .ok (.lload_n 3, 1) := by decide +kernel
theorem d_prog_19_method_2_34 : decode prog_19_method_2_code 34 = .ok (.invokevirtual 42, 3) := by decide +kernel
theorem d_prog_19_method_2_37 : decode prog_19_method_2_code 37 = .ok (.putfield 30, 3) := by decide +kernel
theorem d_prog_19_method_2_40 : decode prog_19_method_2_code 40 = .ok (.return_, 1) := by decide +kernel
theorem d_prog_19_method_6_10 : decode prog_19_method_6_code 10 = .ok (.iload 5, 2) := by decide +kernel
theorem d_prog_19_method_6_12 : decode prog_19_method_6_code 12 = .ok (.iconst (-1), 1) := by decide +kernel
theorem d_prog_19_method_6_13 : decode prog_19_method_6_code 13 = .ok (.if_icmp .eq 47, 3) := by decide +kernel
theorem d_prog_19_method_6_60 : decode prog_19_method_6_code 60 = .ok (.lload_n 3, 1) := by decide +kernel
theorem d_prog_19_method_6_61 : decode prog_19_method_6_code 61 = .ok (.lreturn, 1) := by decide +kernel
theorem d_prog_19_method_6_16 : decode prog_19_method_6_code 16 = .ok (.aload_n 0, 1) := by decide +kernel
theorem d_prog_19_method_6_17 : decode prog_19_method_6_code 17 = .ok (.getfield 7, 3) := by decide +kernel
theorem d_prog_19_method_6_20 : decode prog_19_method_6_code 20 = .ok (.iload 5, 2) := by decide +kernel
theorem d_prog_19_method_6_22 : decode prog_19_method_6_code 22 = .ok (.laload, 1) := by decide +kernel
theorem d_prog_19_method_6_23 : decode prog_19_method_6_code 23 = .ok (.lload_n 1, 1) := by decide +kernel
theorem d_prog_19_method_6_24 : decode prog_19_method_6_code 24 = .ok (.lcmp, 1) := by decide +kernel
theorem d_prog_19_method_6_25 : decode prog_19_method_6_code 25 = .ok (.ifCond .le 23, 3) := by decide +kernel
theorem d_prog_19_method_6_48 : decode prog_19_method_6_code 48 = .ok (.aload_n 0, 1) := by decide +kernel
theorem d_prog_19_method_6_49 : decode prog_19_method_6_code 49 = .ok (.getfield 23, 3) := by decide +kernel
theorem d_prog_19_method_6_52 : decode prog_19_method_6_code 52 = .ok (.iload 5, 2) := by decide +kernel
theorem d_prog_19_method_6_54 : decode prog_19_method_6_code 54 = .ok (.iaload, 1) := by decide +kernel
theorem d_prog_19_method_6_55 : decode prog_19_method_6_code 55 = .ok (.istore 5, 2) := by decide +kernel
theorem d_prog_19_method_6_57 : decode prog_19_method_6_code 57 = .ok (.goto (-47), 3) := by decide +kernel
theorem d_prog_19_method_6_28 : decode prog_19_method_6_code 28 = .ok (.aload_n 0, 1) := by decide +kernel
theorem d_prog_19_method_6_29 : decode prog_19_method_6_code 29 = .ok (.getfield 7, 3) := by decide +kernel
theorem d_prog_19_method_6_32 : decode prog_19_method_6_code 32 = .ok (.iload 5, 2) := by decide +kernel
theorem d_prog_19_method_6_34 : decode prog_19_method_6_code 34 = .ok (.laload, 1) := by decide +kernel
theorem d_prog_19_method_6_35 : decode prog_19_method_6_code 35 = .ok (.lstore_n 3, 1) := by decide +kernel
theorem d_prog_19_method_6_36 : decode prog_19_method_6_code 36 = .ok (.aload_n 0, 1) := by decide +kernel
theorem d_prog_19_method_6_37 : decode prog_19_method_6_code 37 = .ok (.getfield 19, 3) := by decide +kernel
theorem d_prog_19_method_6_40 : decode prog_19_method_6_code 40 = .ok (.iload 5, 2) := by decide +kernel
theorem d_prog_19_method_6_42 : decode prog_19_method_6_code 42 = .ok (.iaload, 1) := by decide +kernel
theorem d_prog_19_method_6_43 : decode prog_19_method_6_code 43 = .ok (.istore 5, 2) := by decide +kernel
theorem d_prog_19_method_6_45 : decode prog_19_method_6_code 45 = .ok (.goto (-35), 3) := by decide +kernel
theorem d_prog_19_method_6_0 : decode prog_19_method_6_code 0 = .ok (.ldc2_w 50, 3) := by decide +kernel
theorem d_prog_19_method_6_3 : decode prog_19_method_6_code 3 = .ok (.lstore_n 3, 1) := by decide +kernel
theorem d_prog_19_method_6_4 : decode prog_19_method_6_code 4 = .ok (.aload_n 0, 1) := by decide +kernel
theorem d_prog_19_method_6_5 : decode prog_19_method_6_code 5 = .ok (.getfield 30, 3) := by decide +kernel
theorem d_prog_19_method_6_8 : decode prog_19_method_6_code 8 = .ok (.istore 5, 2) := by decide +kernel
theorem d_method_3_0 : decode method_3_code 0 = .ok (.iconst 0, 1) := by decide +kernel
theorem d_method_3_1 : decode method_3_code 1 = .ok (.istore 15, 2) := by decide +kernel
theorem d_method_3_3 : decode method_3_code 3 = .ok (.iload 10, 2) := by decide +kernel
theorem d_method_3_5 : decode method_3_code 5 = .ok (.ifCond .eq 15, 3) := by decide +kernel
theorem d_method_3_8 : decode method_3_code 8 = .ok (.lload_n 2, 1) := by decide +kernel
theorem d_method_3_9 : decode method_3_code 9 = .ok (.lload_n 0, 1) := by decide +kernel
theorem d_method_3_10 : decode method_3_code 10 = .ok (.lcmp, 1) := by decide +kernel
theorem d_method_3_11 : decode method_3_code 11 = .ok (.ifCond .ne 9, 3) := by decide +kernel
theorem d_method_3_14 : decode method_3_code 14 = .ok (.iload 15, 2) := by decide +kernel
theorem d_method_3_16 : decode method_3_code 16 = .ok (.iconst 1, 1) := by decide +kernel
theorem d_method_3_17 : decode method_3_code 17 = .ok (.iadd, 1) := by decide +kernel
theorem d_method_3_18 : decode method_3_code 18 = .ok (.istore 15, 2) := by decide +kernel
theorem d_method_3_20 : decode method_3_code 20 = .ok (.iload 11, 2) := by decide +kernel
theorem d_method_3_22 : decode method_3_code 22 = .ok (.ifCond .eq 16, 3) := by decide +kernel
theorem d_method_3_25 : decode method_3_code 25 = .ok (.lload 4, 2) := by decide +kernel
theorem d_method_3_27 : decode method_3_code 27 = .ok (.lload_n 0, 1) := by decide +kernel
theorem d_method_3_28 : decode method_3_code 28 = .ok (.lcmp, 1) := by decide +kernel
theorem d_method_3_29 : decode method_3_code 29 = .ok (.ifCond .ne 9, 3) := by decide +kernel
theorem d_method_3_32 : decode method_3_code 32 = .ok (.iload 15, 2) := by decide +kernel
theorem d_method_3_34 : decode method_3_code 34 = .ok (.iconst 1, 1) := by decide +kernel
theorem d_method_3_35 : decode method_3_code 35 = .ok (.iadd, 1) := by decide +kernel
theorem d_method_3_36 : decode method_3_code 36 = .ok (.istore 15, 2) := by decide +kernel
theorem d_method_3_38 : decode method_3_code 38 = .ok (.iload 12, 2) := by decide +kernel
theorem d_method_3_40 : decode method_3_code 40 = .ok (.ifCond .eq 16, 3) := by decide +kernel
theorem d_method_3_43 : decode method_3_code 43 = .ok (.lload 6, 2) := by decide +kernel
theorem d_method_3_45 : decode method_3_code 45 = .ok (.lload_n 0, 1) := by decide +kernel
theorem d_method_3_46 : decode method_3_code 46 = .ok (.lcmp, 1) := by decide +kernel
theorem d_method_3_47 : decode method_3_code 47 = .ok (.ifCond .ne 9, 3) := by decide +kernel
theorem d_method_3_50 : decode method_3_code 50 = .ok (.iload 15, 2) := by decide +kernel
theorem d_method_3_52 : decode method_3_code 52 = .ok (.iconst 1, 1) := by decide +kernel
theorem d_method_3_53 : decode method_3_code 53 = .ok (.iadd, 1) := by decide +kernel
theorem d_method_3_54 : decode method_3_code 54 = .ok (.istore 15, 2) := by decide +kernel
theorem d_method_3_56 : decode method_3_code 56 = .ok (.iload 13, 2) := by decide +kernel
theorem d_method_3_58 : decode method_3_code 58 = .ok (.ifCond .eq 16, 3) := by decide +kernel
theorem d_method_3_61 : decode method_3_code 61 = .ok (.lload 8, 2) := by decide +kernel
theorem d_method_3_63 : decode method_3_code 63 = .ok (.lload_n 0, 1) := by decide +kernel
theorem d_method_3_64 : decode method_3_code 64 = .ok (.lcmp, 1) := by decide +kernel
theorem d_method_3_65 : decode method_3_code 65 = .ok (.ifCond .ne 9, 3) := by decide +kernel
theorem d_method_3_68 : decode method_3_code 68 = .ok (.iload 15, 2) := by decide +kernel
theorem d_method_3_70 : decode method_3_code 70 = .ok (.iconst 1, 1) := by decide +kernel
theorem d_method_3_71 : decode method_3_code 71 = .ok (.iadd, 1) := by decide +kernel
theorem d_method_3_72 : decode method_3_code 72 = .ok (.istore 15, 2) := by decide +kernel
theorem d_method_3_74 : decode method_3_code 74 = .ok (.iload 14, 2) := by decide +kernel
theorem d_method_3_76 : decode method_3_code 76 = .ok (.ifCond .eq 15, 3) := by decide +kernel
theorem d_method_3_79 : decode method_3_code 79 = .ok (.lload_n 2, 1) := by decide +kernel
theorem d_method_3_80 : decode method_3_code 80 = .ok (.lload_n 0, 1) := by decide +kernel
theorem d_method_3_81 : decode method_3_code 81 = .ok (.lcmp, 1) := by decide +kernel
theorem d_method_3_82 : decode method_3_code 82 = .ok (.ifCond .ne 9, 3) := by decide +kernel
theorem d_method_3_85 : decode method_3_code 85 = .ok (.iload 15, 2) := by decide +kernel
theorem d_method_3_87 : decode method_3_code 87 = .ok (.iconst 1, 1) := by decide +kernel
theorem d_method_3_88 : decode method_3_code 88 = .ok (.isub, 1) := by decide +kernel
theorem d_method_3_89 : decode method_3_code 89 = .ok (.istore 15, 2) := by decide +kernel
theorem d_method_3_91 : decode method_3_code 91 = .ok (.iload 15, 2) := by decide +kernel
theorem d_method_3_93 : decode method_3_code 93 = .ok (.ireturn, 1) := by decide +kernel
theorem d_method_4_0 : decode method_4_code 0 = .ok (.iload 4, 2) := by decide +kernel
theorem d_method_4_2 : decode method_4_code 2 = .ok (.ifCond .eq 24, 3) := by decide +kernel
theorem d_method_4_26 : decode method_4_code 26 = .ok (.lload_n 0, 1) := by decide +kernel
theorem d_method_4_27 : decode method_4_code 27 = .ok (.lreturn, 1) := by decide +kernel
theorem d_method_4_5 : decode method_4_code 5 = .ok (.lload_n 2, 1) := by decide +kernel
theorem d_method_4_6 : decode method_4_code 6 = .ok (.lload 5, 2) := by decide +kernel
theorem d_method_4_8 : decode method_4_code 8 = .ok (.lcmp, 1) := by decide +kernel
theorem d_method_4_9 : decode method_4_code 9 = .ok (.ifCond .le 17, 3) := by decide +kernel
theorem d_method_4_12 : decode method_4_code 12 = .ok (.lload_n 0, 1) := by decide +kernel
theorem d_method_4_13 : decode method_4_code 13 = .ok (.lconst 0, 1) := by decide +kernel
theorem d_method_4_14 : decode method_4_code 14 = .ok (.lcmp, 1) := by decide +kernel
theorem d_method_4_15 : decode method_4_code 15 = .ok (.ifCond .lt 9, 3) := by decide +kernel
theorem d_method_4_24 : decode method_4_code 24 = .ok (.lload_n 2, 1) := by decide +kernel
theorem d_method_4_25 : decode method_4_code 25 = .ok (.lreturn, 1) := by decide +kernel
theorem d_method_4_18 : decode method_4_code 18 = .ok (.lload_n 2, 1) := by decide +kernel
theorem d_method_4_19 : decode method_4_code 19 = .ok (.lload_n 0, 1) := by decide +kernel
theorem d_method_4_20 : decode method_4_code 20 = .ok (.lcmp, 1) := by decide +kernel
theorem d_method_4_21 : decode method_4_code 21 = .ok (.ifCond .ge 5, 3) := by decide +kernel
theorem d_prog_19_method_1_0 : decode prog_19_method_1_code 0 = .ok (.aload_n 0, 1) := by decide +kernel
theorem d_prog_19_method_1_1 : decode prog_19_method_1_code 1 = .ok (.invokespecial 1, 3) := by decide +kernel
theorem d_prog_19_method_1_4 : decode prog_19_method_1_code 4 = .ok (.aload_n 0, 1) := by decide +kernel
theorem d_prog_19_method_1_5 : decode prog_19_method_1_code 5 = .ok (.bipush 16, 2) := by decide +kernel
theorem d_prog_19_method_1_7 : decode prog_19_method_1_code 7 = .ok (.newarray .long, 2) := by decide +kernel
theorem d_prog_19_method_1_9 : decode prog_19_method_1_code 9 = .ok (.putfield 7, 3) := by decide +kernel
theorem d_prog_19_method_1_12 : decode prog_19_method_1_code 12 = .ok (.aload_n 0, 1) := by decide +kernel
theorem d_prog_19_method_1_13 : decode prog_19_method_1_code 13 = .ok (.bipush 16, 2) := by decide +kernel
theorem d_prog_19_method_1_15 : decode prog_19_method_1_code 15 = .ok (.newarray .long, 2) := by decide +kernel
theorem d_prog_19_method_1_17 : decode prog_19_method_1_code 17 = .ok (.putfield 13, 3) := by decide +kernel
theorem d_prog_19_method_1_20 : decode prog_19_method_1_code 20 = .ok (.aload_n 0, 1) := by decide +kernel
theorem d_prog_19_method_1_21 : decode prog_19_method_1_code 21 = .ok (.bipush 16, 2) := by decide +kernel
theorem d_prog_19_method_1_23 : decode prog_19_method_1_code 23 = .ok (.newarray .long, 2) := by decide +kernel
theorem d_prog_19_method_1_25 : decode prog_19_method_1_code 25 = .ok (.putfield 16, 3) := by decide +kernel
theorem d_prog_19_method_1_28 : decode prog_19_method_1_code 28 = .ok (.aload_n 0, 1) := by decide +kernel
theorem d_prog_19_method_1_29 : decode prog_19_method_1_code 29 = .ok (.bipush 16, 2) := by decide +kernel
theorem d_prog_19_method_1_31 : decode prog_19_method_1_code 31 = .ok (.newarray .int, 2) := by decide +kernel
theorem d_prog_19_method_1_33 : decode prog_19_method_1_code 33 = .ok (.putfield 19, 3) := by decide +kernel
theorem d_prog_19_method_1_36 : decode prog_19_method_1_code 36 = .ok (.aload_n 0, 1) := by decide +kernel
theorem d_prog_19_method_1_37 : decode prog_19_method_1_code 37 = .ok (.bipush 16, 2) := by decide +kernel
theorem d_prog_19_method_1_39 : decode prog_19_method_1_code 39 = .ok (.newarray .int, 2) := by decide +kernel
theorem d_prog_19_method_1_41 : decode prog_19_method_1_code 41 = .ok (.putfield 23, 3) := by decide +kernel
theorem d_prog_19_method_1_44 : decode prog_19_method_1_code 44 = .ok (.aload_n 0, 1) := by decide +kernel
theorem d_prog_19_method_1_45 : decode prog_19_method_1_code 45 = .ok (.iconst (-1), 1) := by decide +kernel
theorem d_prog_19_method_1_46 : decode prog_19_method_1_code 46 = .ok (.putfield 26, 3) := by decide +kernel
theorem d_prog_19_method_1_49 : decode prog_19_method_1_code 49 = .ok (.aload_n 0, 1) := by decide +kernel
theorem d_prog_19_method_1_50 : decode prog_19_method_1_code 50 = .ok (.iconst (-1), 1) := by decide +kernel
theorem d_prog_19_method_1_51 : decode prog_19_method_1_code 51 = .ok (.putfield 30, 3) := by decide +kernel
theorem d_prog_19_method_1_54 : decode prog_19_method_1_code 54 = .ok (.return_, 1) := by decide +kernel
theorem pn_0 : plainName "com/example/lowtide/lowtide/compact/KeyedSums" = true := by first | (simp [plainName, overriddenIn]; done) | decide +kernel
theorem pn_1 : plainName "com/example/lowtide/lowtide/compact/KeyedSumsAfterPinLaw" = true := by first | (simp [plainName, overriddenIn]; done) | decide +kernel
theorem pd_0 : parseMethodDescriptor "(I)J" = some ⟨[.int], some .long⟩ := by decide +kernel
theorem pd_1 : parseMethodDescriptor "(I)V" = some ⟨[.int], none⟩ := by decide +kernel
theorem pd_2 : parseMethodDescriptor "(I)I" = some ⟨[.int], some .int⟩ := by decide +kernel
theorem pd_3 : parseMethodDescriptor "(II)I" = some ⟨[.int, .int], some .int⟩ := by decide +kernel
theorem pd_4 : parseMethodDescriptor "(JJ)I" = some ⟨[.long, .long], some .int⟩ := by decide +kernel
theorem pd_5 : parseMethodDescriptor "(IJJ)I" = some ⟨[.int, .long, .long], some .int⟩ := by decide +kernel
theorem pd_6 : parseMethodDescriptor "(J)J" = some ⟨[.long], some .long⟩ := by decide +kernel
theorem pd_7 : parseMethodDescriptor "(JJJJJZZZZZ)I" = some ⟨[.long, .long, .long, .long, .long, .boolean, .boolean, .boolean, .boolean, .boolean], some .int⟩ := by decide +kernel
theorem pd_8 : parseMethodDescriptor "(JJZJ)J" = some ⟨[.long, .long, .boolean, .long], some .long⟩ := by decide +kernel
theorem pd_9 : parseMethodDescriptor "(JJ)V" = some ⟨[.long, .long], none⟩ := by decide +kernel
theorem pd_10 : parseMethodDescriptor "()V" = some ⟨[], none⟩ := by decide +kernel
set_option maxRecDepth 65536 in
set_option maxHeartbeats 40000000 in
theorem c_sum (Z : State) (a0 : Array Value) (hw : ∀ d ∈ tables_1, d.before a0 Z = true) (n0 : Nat) (h : Heap) (hZ0 : n0 ≤ h.size) (o : Addr) (nx : Int32) (aK aO aS aL aR : Addr) (kf of : Nat → Int64) (lf rf : Nat → Int32) (us un rt : Int32) (D : own_D n0 o aK aO aS aL aR) (KK : own_K Z h o aK aO aS aL aR kf of lf rf us un rt) (hV : own_V nx) :
    Con Z n0 (⟨"com/example/lowtide/lowtide/compact/KeyedSums", "sum", "(I)J"⟩ : MethodName) prog_19_method_14_code 2 (some .long) ({ frames := 0, cells := 0, slots := 0, locals := 0 } : Room) [(.ref o), (.int nx)] h (fun v h' => ∃ z, v = some (.long z) ∧ h = h') := by
  refine Own.enter (plainFor_of_name pn_0) (L0 := #[.val (.ref o), .val (.int nx)]) (fun m => by first | (simp [entryFrame, mkF, argsToLocals, Value.category]; done) | rfl) fun K => ?_
  show Go K _ _ _ _ _ _ "com/example/lowtide/lowtide/compact/KeyedSums" "sum" _ 0 0 h 0 #[.val (.ref o), .val (.int nx)] []
  obtain ⟨g_o, g_aK, g_aO, g_aS, g_aL, g_aR, ne_o_aK, ne_o_aO, ne_o_aS, ne_o_aL, ne_o_aR, ne_aK_aO, ne_aK_aS, ne_aK_aL, ne_aK_aR, ne_aO_aS, ne_aO_aL, ne_aO_aR, ne_aS_aL, ne_aS_aR, ne_aL_aR⟩ := D
  obtain ⟨sf, E_o, F_keys, F_own, F_sums, F_left, F_right, F_used, F_unused, F_root, A_aK, A_aO, A_aS, A_aL, A_aR⟩ := KK
  refine Own.iloadN (pc' := 1) d_prog_19_method_14_0 rfl rfl ?_
  refine Own.iconst (pc' := 2) (v := (-1 : Int32)) d_prog_19_method_14_1 (by decide) rfl ?_
  refine Own.icmp_ne (pc' := 9) (pc2 := 5) d_prog_19_method_14_2 (by decide) (by decide) rfl (fun c2_0 => ?_) (fun c2_0 => ?_)
  · obtain ⟨kx, hk1, hk2⟩ := own_Vn hV c2_0
    refine Own.aloadN (pc' := 10) d_prog_19_method_14_9 rfl rfl rfl ?_
    refine Own.getfield (pc' := 13) d_prog_19_method_14_10 rfl (host := "") (Or.inl (hw _ (List.mem_of_getElem? (i := 15) rfl))) Via.refl F_sums ?_
    refine Own.iloadN (pc' := 14) d_prog_19_method_14_13 rfl rfl ?_
    refine Own.laload (pc' := 15) (i := kx) d_prog_19_method_14_14 rfl A_aS hk2 hk1 ?_
    obtain ⟨v2, hv2⟩ : ∃ z, z = sf kx := ⟨_, rfl⟩
    rw [← hv2]
    exact Own.lreturn d_prog_19_method_14_15 rfl (⟨_, rfl, rfl⟩) (by decide) (by decide)
  · refine Own.lconst0 (pc' := 6) d_prog_19_method_14_5 rfl ?_
    refine Own.goto (pc' := 15) d_prog_19_method_14_6 (by decide) (by decide) ?_
    exact Own.lreturn d_prog_19_method_14_15 rfl (⟨_, rfl, rfl⟩) (by decide) (by decide)
set_option maxRecDepth 65536 in
set_option maxHeartbeats 40000000 in
theorem c_resum (Z : State) (a0 : Array Value) (hw : ∀ d ∈ tables_1, d.before a0 Z = true) (n0 : Nat) (h : Heap) (hZ0 : n0 ≤ h.size) (o : Addr) (nx : Int32) (aK aO aS aL aR : Addr) (kf of : Nat → Int64) (lf rf : Nat → Int32) (us un rt : Int32) (D : own_D n0 o aK aO aS aL aR) (KK : own_K Z h o aK aO aS aL aR kf of lf rf us un rt) (k : Nat) (hk : k < 16) (hx : nx.toInt = (k : Int)) (hVl : own_V (lf k)) (hVr : own_V (rf k)) :
    Con Z n0 (⟨"com/example/lowtide/lowtide/compact/KeyedSums", "resum", "(I)V"⟩ : MethodName) prog_19_method_13_code 2 none ({ frames := 1, cells := 0, slots := 0, locals := 17 } : Room) [(.ref o), (.int nx)] h (fun v h' => v = none ∧ n0 ≤ h'.size ∧ own_K Z h' o aK aO aS aL aR kf of lf rf us un rt) := by
  refine Own.enter (plainFor_of_name pn_0) (L0 := #[.val (.ref o), .val (.int nx)]) (fun m => by first | (simp [entryFrame, mkF, argsToLocals, Value.category]; done) | rfl) fun K => ?_
  show Go K _ _ _ _ _ _ "com/example/lowtide/lowtide/compact/KeyedSums" "resum" _ 0 0 h 0 #[.val (.ref o), .val (.int nx)] []
  obtain ⟨g_o, g_aK, g_aO, g_aS, g_aL, g_aR, ne_o_aK, ne_o_aO, ne_o_aS, ne_o_aL, ne_o_aR, ne_aK_aO, ne_aK_aS, ne_aK_aL, ne_aK_aR, ne_aO_aS, ne_aO_aL, ne_aO_aR, ne_aS_aL, ne_aS_aR, ne_aL_aR⟩ := D
  obtain ⟨sf, E_o, F_keys, F_own, F_sums, F_left, F_right, F_used, F_unused, F_root, A_aK, A_aO, A_aS, A_aL, A_aR⟩ := KK
  refine Own.aloadN (pc' := 1) d_prog_19_method_13_0 rfl rfl rfl ?_
  refine Own.getfield (pc' := 4) d_prog_19_method_13_1 rfl (host := "") (Or.inl (hw _ (List.mem_of_getElem? (i := 15) rfl))) Via.refl F_sums ?_
  refine Own.iloadN (pc' := 5) d_prog_19_method_13_4 rfl rfl ?_
  refine Own.aloadN (pc' := 6) d_prog_19_method_13_5 rfl rfl rfl ?_
  refine Own.getfield (pc' := 9) d_prog_19_method_13_6 rfl (host := "") (Or.inl (hw _ (List.mem_of_getElem? (i := 13) rfl))) Via.refl F_own ?_
  refine Own.iloadN (pc' := 10) d_prog_19_method_13_9 rfl rfl ?_
  refine Own.laload (pc' := 11) (i := k) d_prog_19_method_13_10 rfl A_aO hx hk ?_
  obtain ⟨v3, hv3⟩ : ∃ z, z = of k := ⟨_, rfl⟩
  rw [← hv3]
  refine Own.aloadN (pc' := 12) d_prog_19_method_13_11 rfl rfl rfl ?_
  refine Own.aloadN (pc' := 13) d_prog_19_method_13_12 rfl rfl rfl ?_
  refine Own.getfield (pc' := 16) d_prog_19_method_13_13 rfl (host := "") (Or.inl (hw _ (List.mem_of_getElem? (i := 18) rfl))) Via.refl F_left ?_
  refine Own.iloadN (pc' := 17) d_prog_19_method_13_16 rfl rfl ?_
  refine Own.iaload (pc' := 18) (i := k) d_prog_19_method_13_17 rfl A_aL hx hk ?_
  obtain ⟨v4, hv4⟩ : ∃ z, z = lf k := ⟨_, rfl⟩
  rw [← hv4]
  refine Own.privat (pc' := 21) (y := (⟨"com/example/lowtide/lowtide/compact/KeyedSums", "sum", "(I)J"⟩ : MethodName)) (rm' := ({ frames := 0, cells := 0, slots := 0, locals := 0 } : Room)) (W := 4) (as := [(.int v4)]) (rest := [(.long v3), (.int nx), (.ref aS)]) (a := o) d_prog_19_method_13_18 rfl (hw _ (List.mem_of_getElem? (i := 69) rfl)) (hw _ (List.mem_of_getElem? (i := 70) rfl)) (hw _ (List.mem_of_getElem? (i := 2) rfl)) (hw _ (List.mem_of_getElem? (i := 71) rfl)) (hw _ (List.mem_of_getElem? (i := 3) rfl)) (hw _ (List.mem_of_getElem? (i := 72) rfl)) (by decide) E_o (c_sum Z a0 hw n0 h hZ0 o v4 aK aO aS aL aR kf of lf rf us un rt ⟨g_o, g_aK, g_aO, g_aS, g_aL, g_aR, ne_o_aK, ne_o_aO, ne_o_aS, ne_o_aL, ne_o_aR, ne_aK_aO, ne_aK_aS, ne_aK_aL, ne_aK_aR, ne_aO_aS, ne_aO_aL, ne_aO_aR, ne_aS_aL, ne_aS_aR, ne_aL_aR⟩ ⟨_, E_o, F_keys, F_own, F_sums, F_left, F_right, F_used, F_unused, F_root, A_aK, A_aO, A_aS, A_aL, A_aR⟩ (hv4 ▸ hVl)) rfl rfl (lenOf pd_0 rfl) (by decide) rfl (by decide) (by decide) (by decide) fun r6 h5 qh5 => ?_
  obtain ⟨u7, e2, e1⟩ := qh5
  subst e1 e2
  show Go K _ _ _ _ _ _ _ _ _ 0 0 h 21 #[.val (.ref o), .val (.int nx)] [(.long u7), (.long v3), (.int nx), (.ref aS)]
  refine Own.ladd (pc' := 22) d_prog_19_method_13_21 rfl fun v8 hv8 => ?_
  refine Own.aloadN (pc' := 23) d_prog_19_method_13_22 rfl rfl rfl ?_
  refine Own.aloadN (pc' := 24) d_prog_19_method_13_23 rfl rfl rfl ?_
  refine Own.getfield (pc' := 27) d_prog_19_method_13_24 rfl (host := "") (Or.inl (hw _ (List.mem_of_getElem? (i := 20) rfl))) Via.refl F_right ?_
  refine Own.iloadN (pc' := 28) d_prog_19_method_13_27 rfl rfl ?_
  refine Own.iaload (pc' := 29) (i := k) d_prog_19_method_13_28 rfl A_aR hx hk ?_
  obtain ⟨v9, hv9⟩ : ∃ z, z = rf k := ⟨_, rfl⟩
  rw [← hv9]
  refine Own.privat (pc' := 32) (y := (⟨"com/example/lowtide/lowtide/compact/KeyedSums", "sum", "(I)J"⟩ : MethodName)) (rm' := ({ frames := 0, cells := 0, slots := 0, locals := 0 } : Room)) (W := 4) (as := [(.int v9)]) (rest := [(.long v8), (.int nx), (.ref aS)]) (a := o) d_prog_19_method_13_29 rfl (hw _ (List.mem_of_getElem? (i := 69) rfl)) (hw _ (List.mem_of_getElem? (i := 70) rfl)) (hw _ (List.mem_of_getElem? (i := 2) rfl)) (hw _ (List.mem_of_getElem? (i := 71) rfl)) (hw _ (List.mem_of_getElem? (i := 3) rfl)) (hw _ (List.mem_of_getElem? (i := 72) rfl)) (by decide) E_o (c_sum Z a0 hw n0 h hZ0 o v9 aK aO aS aL aR kf of lf rf us un rt ⟨g_o, g_aK, g_aO, g_aS, g_aL, g_aR, ne_o_aK, ne_o_aO, ne_o_aS, ne_o_aL, ne_o_aR, ne_aK_aO, ne_aK_aS, ne_aK_aL, ne_aK_aR, ne_aO_aS, ne_aO_aL, ne_aO_aR, ne_aS_aL, ne_aS_aR, ne_aL_aR⟩ ⟨_, E_o, F_keys, F_own, F_sums, F_left, F_right, F_used, F_unused, F_root, A_aK, A_aO, A_aS, A_aL, A_aR⟩ (hv9 ▸ hVr)) rfl rfl (lenOf pd_0 rfl) (by decide) rfl (by decide) (by decide) (by decide) fun r11 h10 qh10 => ?_
  obtain ⟨u12, e2, e1⟩ := qh10
  subst e1 e2
  show Go K _ _ _ _ _ _ _ _ _ 0 0 h 32 #[.val (.ref o), .val (.int nx)] [(.long u12), (.long v8), (.int nx), (.ref aS)]
  refine Own.ladd (pc' := 33) d_prog_19_method_13_32 rfl fun v13 hv13 => ?_
  refine Own.lastore (pc' := 34) (i := k) d_prog_19_method_13_33 rfl A_aS g_aS hx hk fun h14 Wh14 Ah14 => ?_
  have f15 := F_keys.other Wh14 (Or.inl ne_o_aS)
  have f16 := F_own.other Wh14 (Or.inl ne_o_aS)
  have f17 := F_sums.other Wh14 (Or.inl ne_o_aS)
  have f18 := F_left.other Wh14 (Or.inl ne_o_aS)
  have f19 := F_right.other Wh14 (Or.inl ne_o_aS)
  have f20 := F_used.other Wh14 (Or.inl ne_o_aS)
  have f21 := F_unused.other Wh14 (Or.inl ne_o_aS)
  have f22 := F_root.other Wh14 (Or.inl ne_o_aS)
  have f23 := E_o.wr Wh14
  have f24 := A_aK.other Wh14 ne_aK_aS
  have f25 := A_aO.other Wh14 ne_aO_aS
  have f26 := A_aL.other Wh14 (Ne.symm ne_aS_aL)
  have f27 := A_aR.other Wh14 (Ne.symm ne_aS_aR)
  have Zh14 : n0 ≤ h14.size := by rw [Wh14.size]; exact hZ0
  exact Own.vreturn d_prog_19_method_13_34 rfl (⟨rfl, Zh14, ⟨_, f23, f15, f16, f17, f18, f19, f20, f21, f22, f24, f25, Ah14, f26, f27⟩⟩) (by decide) (by decide)
set_option maxRecDepth 65536 in
set_option maxHeartbeats 40000000 in
theorem c_rank (Z : State) (a0 : Array Value) (hw : ∀ d ∈ tables_1, d.before a0 Z = true) (n0 : Nat) (h : Heap) (hZ0 : n0 ≤ h.size) (nx : Int32)  :
    Con Z n0 (⟨"com/example/lowtide/lowtide/compact/KeyedSums", "rank", "(I)I"⟩ : MethodName) prog_19_method_15_code 2 (some .int) ({ frames := 0, cells := 0, slots := 0, locals := 0 } : Room) [(.int nx)] h (fun v h' => ∃ z, v = some (.int z) ∧ h = h') := by
  refine Own.enter (plainFor_of_name pn_0) (L0 := #[.val (.int nx), .unset]) (fun m => by first | (simp [entryFrame, mkF, argsToLocals, Value.category]; done) | rfl) fun K => ?_
  show Go K _ _ _ _ _ _ "com/example/lowtide/lowtide/compact/KeyedSums" "rank" _ 0 0 h 0 #[.val (.int nx), .unset] []
  refine Own.iloadN (pc' := 1) d_prog_19_method_15_0 rfl rfl ?_
  refine Own.ldcInt (pc' := 3) (v := (-1640531527 : Int32)) d_prog_19_method_15_1 (hw _ (List.mem_of_getElem? (i := 58) rfl)) rfl ?_
  refine Own.imul (pc' := 4) d_prog_19_method_15_3 rfl fun v28 hv28 => ?_
  refine Own.istoreN (pc' := 5) (L1 := #[.val (.int nx), .val (.int v28)]) d_prog_19_method_15_4 rfl rfl ?_
  refine Own.iloadN (pc' := 6) d_prog_19_method_15_5 rfl rfl ?_
  refine Own.iloadN (pc' := 7) d_prog_19_method_15_6 rfl rfl ?_
  refine Own.bipush (pc' := 9) (v := (16 : Int32)) d_prog_19_method_15_7 (by decide) rfl ?_
  refine Own.iushr (pc' := 10) d_prog_19_method_15_9 rfl fun v29 hv29 => ?_
  refine Own.ixor (pc' := 11) d_prog_19_method_15_10 rfl fun v30 hv30 => ?_
  refine Own.istoreN (pc' := 12) (L1 := #[.val (.int nx), .val (.int v30)]) d_prog_19_method_15_11 rfl rfl ?_
  refine Own.iloadN (pc' := 13) d_prog_19_method_15_12 rfl rfl ?_
  refine Own.ldcInt (pc' := 15) (v := (-2048144789 : Int32)) d_prog_19_method_15_13 (hw _ (List.mem_of_getElem? (i := 59) rfl)) rfl ?_
  refine Own.imul (pc' := 16) d_prog_19_method_15_15 rfl fun v31 hv31 => ?_
  refine Own.istoreN (pc' := 17) (L1 := #[.val (.int nx), .val (.int v31)]) d_prog_19_method_15_16 rfl rfl ?_
  refine Own.iloadN (pc' := 18) d_prog_19_method_15_17 rfl rfl ?_
  refine Own.iloadN (pc' := 19) d_prog_19_method_15_18 rfl rfl ?_
  refine Own.bipush (pc' := 21) (v := (13 : Int32)) d_prog_19_method_15_19 (by decide) rfl ?_
  refine Own.iushr (pc' := 22) d_prog_19_method_15_21 rfl fun v32 hv32 => ?_
  refine Own.ixor (pc' := 23) d_prog_19_method_15_22 rfl fun v33 hv33 => ?_
  refine Own.istoreN (pc' := 24) (L1 := #[.val (.int nx), .val (.int v33)]) d_prog_19_method_15_23 rfl rfl ?_
  refine Own.iloadN (pc' := 25) d_prog_19_method_15_24 rfl rfl ?_
  refine Own.ldcInt (pc' := 27) (v := (-1028477387 : Int32)) d_prog_19_method_15_25 (hw _ (List.mem_of_getElem? (i := 60) rfl)) rfl ?_
  refine Own.imul (pc' := 28) d_prog_19_method_15_27 rfl fun v34 hv34 => ?_
  refine Own.istoreN (pc' := 29) (L1 := #[.val (.int nx), .val (.int v34)]) d_prog_19_method_15_28 rfl rfl ?_
  refine Own.iloadN (pc' := 30) d_prog_19_method_15_29 rfl rfl ?_
  refine Own.iloadN (pc' := 31) d_prog_19_method_15_30 rfl rfl ?_
  refine Own.bipush (pc' := 33) (v := (16 : Int32)) d_prog_19_method_15_31 (by decide) rfl ?_
  refine Own.iushr (pc' := 34) d_prog_19_method_15_33 rfl fun v35 hv35 => ?_
  refine Own.ixor (pc' := 35) d_prog_19_method_15_34 rfl fun v36 hv36 => ?_
  exact Own.ireturnI d_prog_19_method_15_35 rfl (⟨_, rfl, rfl⟩) (by decide) (by decide)
set_option maxRecDepth 65536 in
set_option maxHeartbeats 40000000 in
theorem c_turnRight (Z : State) (a0 : Array Value) (hw : ∀ d ∈ tables_1, d.before a0 Z = true) (n0 : Nat) (h : Heap) (hZ0 : n0 ≤ h.size) (o : Addr) (nx : Int32) (aK aO aS aL aR : Addr) (kf of : Nat → Int64) (lf rf : Nat → Int32) (us un rt : Int32) (D : own_D n0 o aK aO aS aL aR) (KK : own_K Z h o aK aO aS aL aR kf of lf rf us un rt) (k j : Nat) (hk : k < 16) (hx : nx.toInt = (k : Int)) (hj : j < 16) (hlj : (lf k).toInt = (j : Int)) (hne : j ≠ k) (V1 : own_V (rf k)) (V2 : own_V (lf j)) (V3 : own_V (rf j)) :
    Con Z n0 (⟨"com/example/lowtide/lowtide/compact/KeyedSums", "turnRight", "(I)I"⟩ : MethodName) prog_19_method_11_code 3 (some .int) ({ frames := 2, cells := 0, slots := 0, locals := 30 } : Room) [(.ref o), (.int nx)] h (fun v h' => ∃ z, v = some (.int z) ∧ z = lf k ∧ n0 ≤ h'.size ∧ own_K Z h' o aK aO aS aL aR kf of (ownSet lf k (rf j)) (ownSet rf j nx) us un rt) := by
  refine Own.enter (plainFor_of_name pn_0) (L0 := #[.val (.ref o), .val (.int nx), .unset]) (fun m => by first | (simp [entryFrame, mkF, argsToLocals, Value.category]; done) | rfl) fun K => ?_
  show Go K _ _ _ _ _ _ "com/example/lowtide/lowtide/compact/KeyedSums" "turnRight" _ 0 0 h 0 #[.val (.ref o), .val (.int nx), .unset] []
  obtain ⟨g_o, g_aK, g_aO, g_aS, g_aL, g_aR, ne_o_aK, ne_o_aO, ne_o_aS, ne_o_aL, ne_o_aR, ne_aK_aO, ne_aK_aS, ne_aK_aL, ne_aK_aR, ne_aO_aS, ne_aO_aL, ne_aO_aR, ne_aS_aL, ne_aS_aR, ne_aL_aR⟩ := D
  obtain ⟨sf, E_o, F_keys, F_own, F_sums, F_left, F_right, F_used, F_unused, F_root, A_aK, A_aO, A_aS, A_aL, A_aR⟩ := KK
  refine Own.aloadN (pc' := 1) d_prog_19_method_11_0 rfl rfl rfl ?_
  refine Own.getfield (pc' := 4) d_prog_19_method_11_1 rfl (host := "") (Or.inl (hw _ (List.mem_of_getElem? (i := 18) rfl))) Via.refl F_left ?_
  refine Own.iloadN (pc' := 5) d_prog_19_method_11_4 rfl rfl ?_
  refine Own.iaload (pc' := 6) (i := k) d_prog_19_method_11_5 rfl A_aL hx hk ?_
  obtain ⟨v37, hv37⟩ : ∃ z, z = lf k := ⟨_, rfl⟩
  rw [← hv37]
  refine Own.istoreN (pc' := 7) (L1 := #[.val (.ref o), .val (.int nx), .val (.int v37)]) d_prog_19_method_11_6 rfl rfl ?_
  refine Own.aloadN (pc' := 8) d_prog_19_method_11_7 rfl rfl rfl ?_
  refine Own.getfield (pc' := 11) d_prog_19_method_11_8 rfl (host := "") (Or.inl (hw _ (List.mem_of_getElem? (i := 18) rfl))) Via.refl F_left ?_
  refine Own.iloadN (pc' := 12) d_prog_19_method_11_11 rfl rfl ?_
  refine Own.aloadN (pc' := 13) d_prog_19_method_11_12 rfl rfl rfl ?_
  refine Own.getfield (pc' := 16) d_prog_19_method_11_13 rfl (host := "") (Or.inl (hw _ (List.mem_of_getElem? (i := 20) rfl))) Via.refl F_right ?_
  refine Own.iloadN (pc' := 17) d_prog_19_method_11_16 rfl rfl ?_
  refine Own.iaload (pc' := 18) (i := j) d_prog_19_method_11_17 rfl A_aR (hv37 ▸ hlj) hj ?_
  obtain ⟨v38, hv38⟩ : ∃ z, z = rf j := ⟨_, rfl⟩
  rw [← hv38]
  refine Own.iastore (pc' := 19) (i := k) d_prog_19_method_11_18 rfl A_aL g_aL hx hk fun h39 Wh39 Ah39 => ?_
  have f40 := F_keys.other Wh39 (Or.inl ne_o_aL)
  have f41 := F_own.other Wh39 (Or.inl ne_o_aL)
  have f42 := F_sums.other Wh39 (Or.inl ne_o_aL)
  have f43 := F_left.other Wh39 (Or.inl ne_o_aL)
  have f44 := F_right.other Wh39 (Or.inl ne_o_aL)
  have f45 := F_used.other Wh39 (Or.inl ne_o_aL)
  have f46 := F_unused.other Wh39 (Or.inl ne_o_aL)
  have f47 := F_root.other Wh39 (Or.inl ne_o_aL)
  have f48 := E_o.wr Wh39
  have f49 := A_aK.other Wh39 ne_aK_aL
  have f50 := A_aO.other Wh39 ne_aO_aL
  have f51 := A_aS.other Wh39 ne_aS_aL
  have f52 := A_aR.other Wh39 (Ne.symm ne_aL_aR)
  have Zh39 : n0 ≤ h39.size := by rw [Wh39.size]; exact hZ0
  refine Own.aloadN (pc' := 20) d_prog_19_method_11_19 rfl rfl rfl ?_
  refine Own.getfield (pc' := 23) d_prog_19_method_11_20 rfl (host := "") (Or.inl (hw _ (List.mem_of_getElem? (i := 20) rfl))) Via.refl f44 ?_
  refine Own.iloadN (pc' := 24) d_prog_19_method_11_23 rfl rfl ?_
  refine Own.iloadN (pc' := 25) d_prog_19_method_11_24 rfl rfl ?_
  refine Own.iastore (pc' := 26) (i := j) d_prog_19_method_11_25 rfl f52 g_aR (hv37 ▸ hlj) hj fun h53 Wh53 Ah53 => ?_
  have f54 := f40.other Wh53 (Or.inl ne_o_aR)
  have f55 := f41.other Wh53 (Or.inl ne_o_aR)
  have f56 := f42.other Wh53 (Or.inl ne_o_aR)
  have f57 := f43.other Wh53 (Or.inl ne_o_aR)
  have f58 := f44.other Wh53 (Or.inl ne_o_aR)
  have f59 := f45.other Wh53 (Or.inl ne_o_aR)
  have f60 := f46.other Wh53 (Or.inl ne_o_aR)
  have f61 := f47.other Wh53 (Or.inl ne_o_aR)
  have f62 := f48.wr Wh53
  have f63 := f49.other Wh53 ne_aK_aR
  have f64 := f50.other Wh53 ne_aO_aR
  have f65 := f51.other Wh53 ne_aS_aR
  have f66 := Ah39.other Wh53 ne_aL_aR
  have Zh53 : n0 ≤ h53.size := by rw [Wh53.size]; exact Zh39
  refine Own.aloadN (pc' := 27) d_prog_19_method_11_26 rfl rfl rfl ?_
  refine Own.iloadN (pc' := 28) d_prog_19_method_11_27 rfl rfl ?_
  refine Own.privat (pc' := 31) (y := (⟨"com/example/lowtide/lowtide/compact/KeyedSums", "resum", "(I)V"⟩ : MethodName)) (rm' := ({ frames := 1, cells := 0, slots := 0, locals := 17 } : Room)) (W := 0) (as := [(.int nx)]) (rest := []) (a := o) d_prog_19_method_11_28 rfl (hw _ (List.mem_of_getElem? (i := 65) rfl)) (hw _ (List.mem_of_getElem? (i := 66) rfl)) (hw _ (List.mem_of_getElem? (i := 2) rfl)) (hw _ (List.mem_of_getElem? (i := 67) rfl)) (hw _ (List.mem_of_getElem? (i := 3) rfl)) (hw _ (List.mem_of_getElem? (i := 68) rfl)) (by decide) f62 (c_resum Z a0 hw n0 h53 Zh53 o nx aK aO aS aL aR kf of (ownSet lf k v38) (ownSet rf j nx) us un rt ⟨g_o, g_aK, g_aO, g_aS, g_aL, g_aR, ne_o_aK, ne_o_aO, ne_o_aS, ne_o_aL, ne_o_aR, ne_aK_aO, ne_aK_aS, ne_aK_aL, ne_aK_aR, ne_aO_aS, ne_aO_aL, ne_aO_aR, ne_aS_aL, ne_aS_aR, ne_aL_aR⟩ ⟨_, f62, f54, f55, f56, f57, f58, f59, f60, f61, f63, f64, f65, f66, Ah53⟩ k hk hx (by rw [own_set_eq]; exact hv38 ▸ V3) (by rw [own_set_ne (Ne.symm hne)]; exact V1)) rfl rfl (lenOf pd_1 rfl) (by decide) rfl (by decide) (by decide) (by decide) fun r68 h67 qh67 => ?_
  obtain ⟨e2, Zh67, Kh67⟩ := qh67
  subst e2
  obtain ⟨sf69, E_o_h67, F_keys_h67, F_own_h67, F_sums_h67, F_left_h67, F_right_h67, F_used_h67, F_unused_h67, F_root_h67, A_aK_h67, A_aO_h67, A_aS_h67, A_aL_h67, A_aR_h67⟩ := Kh67
  show Go K _ _ _ _ _ _ _ _ _ 0 0 h67 31 #[.val (.ref o), .val (.int nx), .val (.int v37)] []
  refine Own.aloadN (pc' := 32) d_prog_19_method_11_31 rfl rfl rfl ?_
  refine Own.iloadN (pc' := 33) d_prog_19_method_11_32 rfl rfl ?_
  refine Own.privat (pc' := 36) (y := (⟨"com/example/lowtide/lowtide/compact/KeyedSums", "resum", "(I)V"⟩ : MethodName)) (rm' := ({ frames := 1, cells := 0, slots := 0, locals := 17 } : Room)) (W := 0) (as := [(.int v37)]) (rest := []) (a := o) d_prog_19_method_11_33 rfl (hw _ (List.mem_of_getElem? (i := 65) rfl)) (hw _ (List.mem_of_getElem? (i := 66) rfl)) (hw _ (List.mem_of_getElem? (i := 2) rfl)) (hw _ (List.mem_of_getElem? (i := 67) rfl)) (hw _ (List.mem_of_getElem? (i := 3) rfl)) (hw _ (List.mem_of_getElem? (i := 68) rfl)) (by decide) E_o_h67 (c_resum Z a0 hw n0 h67 Zh67 o v37 aK aO aS aL aR kf of (ownSet lf k v38) (ownSet rf j nx) us un rt ⟨g_o, g_aK, g_aO, g_aS, g_aL, g_aR, ne_o_aK, ne_o_aO, ne_o_aS, ne_o_aL, ne_o_aR, ne_aK_aO, ne_aK_aS, ne_aK_aL, ne_aK_aR, ne_aO_aS, ne_aO_aL, ne_aO_aR, ne_aS_aL, ne_aS_aR, ne_aL_aR⟩ ⟨_, E_o_h67, F_keys_h67, F_own_h67, F_sums_h67, F_left_h67, F_right_h67, F_used_h67, F_unused_h67, F_root_h67, A_aK_h67, A_aO_h67, A_aS_h67, A_aL_h67, A_aR_h67⟩ j hj (hv37 ▸ hlj) (by rw [own_set_ne hne]; exact V2) (by rw [own_set_eq]; exact Or.inr ⟨k, hk, hx⟩)) rfl rfl (lenOf pd_1 rfl) (by decide) rfl (by decide) (by decide) (by decide) fun r71 h70 qh70 => ?_
  obtain ⟨e2, Zh70, Kh70⟩ := qh70
  subst e2
  obtain ⟨sf72, E_o_h70, F_keys_h70, F_own_h70, F_sums_h70, F_left_h70, F_right_h70, F_used_h70, F_unused_h70, F_root_h70, A_aK_h70, A_aO_h70, A_aS_h70, A_aL_h70, A_aR_h70⟩ := Kh70
  show Go K _ _ _ _ _ _ _ _ _ 0 0 h70 36 #[.val (.ref o), .val (.int nx), .val (.int v37)] []
  refine Own.iloadN (pc' := 37) d_prog_19_method_11_36 rfl rfl ?_
  subst hv37 hv38
  exact Own.ireturnI d_prog_19_method_11_37 rfl (⟨_, rfl, rfl, Zh70, ⟨_, E_o_h70, F_keys_h70, F_own_h70, F_sums_h70, F_left_h70, F_right_h70, F_used_h70, F_unused_h70, F_root_h70, A_aK_h70, A_aO_h70, A_aS_h70, A_aL_h70, A_aR_h70⟩⟩) (by decide) (by decide)
set_option maxRecDepth 65536 in
set_option maxHeartbeats 40000000 in
theorem c_turnLeft (Z : State) (a0 : Array Value) (hw : ∀ d ∈ tables_1, d.before a0 Z = true) (n0 : Nat) (h : Heap) (hZ0 : n0 ≤ h.size) (o : Addr) (nx : Int32) (aK aO aS aL aR : Addr) (kf of : Nat → Int64) (lf rf : Nat → Int32) (us un rt : Int32) (D : own_D n0 o aK aO aS aL aR) (KK : own_K Z h o aK aO aS aL aR kf of lf rf us un rt) (k j : Nat) (hk : k < 16) (hx : nx.toInt = (k : Int)) (hj : j < 16) (hlj : (rf k).toInt = (j : Int)) (hne : j ≠ k) (V1 : own_V (lf k)) (V2 : own_V (rf j)) (V3 : own_V (lf j)) :
    Con Z n0 (⟨"com/example/lowtide/lowtide/compact/KeyedSums", "turnLeft", "(I)I"⟩ : MethodName) prog_19_method_12_code 3 (some .int) ({ frames := 2, cells := 0, slots := 0, locals := 30 } : Room) [(.ref o), (.int nx)] h (fun v h' => ∃ z, v = some (.int z) ∧ z = rf k ∧ n0 ≤ h'.size ∧ own_K Z h' o aK aO aS aL aR kf of (ownSet lf j nx) (ownSet rf k (lf j)) us un rt) := by
  refine Own.enter (plainFor_of_name pn_0) (L0 := #[.val (.ref o), .val (.int nx), .unset]) (fun m => by first | (simp [entryFrame, mkF, argsToLocals, Value.category]; done) | rfl) fun K => ?_
  show Go K _ _ _ _ _ _ "com/example/lowtide/lowtide/compact/KeyedSums" "turnLeft" _ 0 0 h 0 #[.val (.ref o), .val (.int nx), .unset] []
  obtain ⟨g_o, g_aK, g_aO, g_aS, g_aL, g_aR, ne_o_aK, ne_o_aO, ne_o_aS, ne_o_aL, ne_o_aR, ne_aK_aO, ne_aK_aS, ne_aK_aL, ne_aK_aR, ne_aO_aS, ne_aO_aL, ne_aO_aR, ne_aS_aL, ne_aS_aR, ne_aL_aR⟩ := D
  obtain ⟨sf, E_o, F_keys, F_own, F_sums, F_left, F_right, F_used, F_unused, F_root, A_aK, A_aO, A_aS, A_aL, A_aR⟩ := KK
  refine Own.aloadN (pc' := 1) d_prog_19_method_12_0 rfl rfl rfl ?_
  refine Own.getfield (pc' := 4) d_prog_19_method_12_1 rfl (host := "") (Or.inl (hw _ (List.mem_of_getElem? (i := 20) rfl))) Via.refl F_right ?_
  refine Own.iloadN (pc' := 5) d_prog_19_method_12_4 rfl rfl ?_
  refine Own.iaload (pc' := 6) (i := k) d_prog_19_method_12_5 rfl A_aR hx hk ?_
  obtain ⟨v73, hv73⟩ : ∃ z, z = rf k := ⟨_, rfl⟩
  rw [← hv73]
  refine Own.istoreN (pc' := 7) (L1 := #[.val (.ref o), .val (.int nx), .val (.int v73)]) d_prog_19_method_12_6 rfl rfl ?_
  refine Own.aloadN (pc' := 8) d_prog_19_method_12_7 rfl rfl rfl ?_
  refine Own.getfield (pc' := 11) d_prog_19_method_12_8 rfl (host := "") (Or.inl (hw _ (List.mem_of_getElem? (i := 20) rfl))) Via.refl F_right ?_
  refine Own.iloadN (pc' := 12) d_prog_19_method_12_11 rfl rfl ?_
  refine Own.aloadN (pc' := 13) d_prog_19_method_12_12 rfl rfl rfl ?_
  refine Own.getfield (pc' := 16) d_prog_19_method_12_13 rfl (host := "") (Or.inl (hw _ (List.mem_of_getElem? (i := 18) rfl))) Via.refl F_left ?_
  refine Own.iloadN (pc' := 17) d_prog_19_method_12_16 rfl rfl ?_
  refine Own.iaload (pc' := 18) (i := j) d_prog_19_method_12_17 rfl A_aL (hv73 ▸ hlj) hj ?_
  obtain ⟨v74, hv74⟩ : ∃ z, z = lf j := ⟨_, rfl⟩
  rw [← hv74]
  refine Own.iastore (pc' := 19) (i := k) d_prog_19_method_12_18 rfl A_aR g_aR hx hk fun h75 Wh75 Ah75 => ?_
  have f76 := F_keys.other Wh75 (Or.inl ne_o_aR)
  have f77 := F_own.other Wh75 (Or.inl ne_o_aR)
  have f78 := F_sums.other Wh75 (Or.inl ne_o_aR)
  have f79 := F_left.other Wh75 (Or.inl ne_o_aR)
  have f80 := F_right.other Wh75 (Or.inl ne_o_aR)
  have f81 := F_used.other Wh75 (Or.inl ne_o_aR)
  have f82 := F_unused.other Wh75 (Or.inl ne_o_aR)
  have f83 := F_root.other Wh75 (Or.inl ne_o_aR)
  have f84 := E_o.wr Wh75
  have f85 := A_aK.other Wh75 ne_aK_aR
  have f86 := A_aO.other Wh75 ne_aO_aR
  have f87 := A_aS.other Wh75 ne_aS_aR
  have f88 := A_aL.other Wh75 ne_aL_aR
  have Zh75 : n0 ≤ h75.size := by rw [Wh75.size]; exact hZ0
  refine Own.aloadN (pc' := 20) d_prog_19_method_12_19 rfl rfl rfl ?_
  refine Own.getfield (pc' := 23) d_prog_19_method_12_20 rfl (host := "") (Or.inl (hw _ (List.mem_of_getElem? (i := 18) rfl))) Via.refl f79 ?_
  refine Own.iloadN (pc' := 24) d_prog_19_method_12_23 rfl rfl ?_
  refine Own.iloadN (pc' := 25) d_prog_19_method_12_24 rfl rfl ?_
  refine Own.iastore (pc' := 26) (i := j) d_prog_19_method_12_25 rfl f88 g_aL (hv73 ▸ hlj) hj fun h89 Wh89 Ah89 => ?_
  have f90 := f76.other Wh89 (Or.inl ne_o_aL)
  have f91 := f77.other Wh89 (Or.inl ne_o_aL)
  have f92 := f78.other Wh89 (Or.inl ne_o_aL)
  have f93 := f79.other Wh89 (Or.inl ne_o_aL)
  have f94 := f80.other Wh89 (Or.inl ne_o_aL)
  have f95 := f81.other Wh89 (Or.inl ne_o_aL)
  have f96 := f82.other Wh89 (Or.inl ne_o_aL)
  have f97 := f83.other Wh89 (Or.inl ne_o_aL)
  have f98 := f84.wr Wh89
  have f99 := f85.other Wh89 ne_aK_aL
  have f100 := f86.other Wh89 ne_aO_aL
  have f101 := f87.other Wh89 ne_aS_aL
  have f102 := Ah75.other Wh89 (Ne.symm ne_aL_aR)
  have Zh89 : n0 ≤ h89.size := by rw [Wh89.size]; exact Zh75
  refine Own.aloadN (pc' := 27) d_prog_19_method_12_26 rfl rfl rfl ?_
  refine Own.iloadN (pc' := 28) d_prog_19_method_12_27 rfl rfl ?_
  refine Own.privat (pc' := 31) (y := (⟨"com/example/lowtide/lowtide/compact/KeyedSums", "resum", "(I)V"⟩ : MethodName)) (rm' := ({ frames := 1, cells := 0, slots := 0, locals := 17 } : Room)) (W := 0) (as := [(.int nx)]) (rest := []) (a := o) d_prog_19_method_12_28 rfl (hw _ (List.mem_of_getElem? (i := 65) rfl)) (hw _ (List.mem_of_getElem? (i := 66) rfl)) (hw _ (List.mem_of_getElem? (i := 2) rfl)) (hw _ (List.mem_of_getElem? (i := 67) rfl)) (hw _ (List.mem_of_getElem? (i := 3) rfl)) (hw _ (List.mem_of_getElem? (i := 68) rfl)) (by decide) f98 (c_resum Z a0 hw n0 h89 Zh89 o nx aK aO aS aL aR kf of (ownSet lf j nx) (ownSet rf k v74) us un rt ⟨g_o, g_aK, g_aO, g_aS, g_aL, g_aR, ne_o_aK, ne_o_aO, ne_o_aS, ne_o_aL, ne_o_aR, ne_aK_aO, ne_aK_aS, ne_aK_aL, ne_aK_aR, ne_aO_aS, ne_aO_aL, ne_aO_aR, ne_aS_aL, ne_aS_aR, ne_aL_aR⟩ ⟨_, f98, f90, f91, f92, f93, f94, f95, f96, f97, f99, f100, f101, Ah89, f102⟩ k hk hx (by rw [own_set_ne (Ne.symm hne)]; exact V1) (by rw [own_set_eq]; exact hv74 ▸ V3)) rfl rfl (lenOf pd_1 rfl) (by decide) rfl (by decide) (by decide) (by decide) fun r104 h103 qh103 => ?_
  obtain ⟨e2, Zh103, Kh103⟩ := qh103
  subst e2
  obtain ⟨sf105, E_o_h103, F_keys_h103, F_own_h103, F_sums_h103, F_left_h103, F_right_h103, F_used_h103, F_unused_h103, F_root_h103, A_aK_h103, A_aO_h103, A_aS_h103, A_aL_h103, A_aR_h103⟩ := Kh103
  show Go K _ _ _ _ _ _ _ _ _ 0 0 h103 31 #[.val (.ref o), .val (.int nx), .val (.int v73)] []
  refine Own.aloadN (pc' := 32) d_prog_19_method_12_31 rfl rfl rfl ?_
  refine Own.iloadN (pc' := 33) d_prog_19_method_12_32 rfl rfl ?_
  refine Own.privat (pc' := 36) (y := (⟨"com/example/lowtide/lowtide/compact/KeyedSums", "resum", "(I)V"⟩ : MethodName)) (rm' := ({ frames := 1, cells := 0, slots := 0, locals := 17 } : Room)) (W := 0) (as := [(.int v73)]) (rest := []) (a := o) d_prog_19_method_12_33 rfl (hw _ (List.mem_of_getElem? (i := 65) rfl)) (hw _ (List.mem_of_getElem? (i := 66) rfl)) (hw _ (List.mem_of_getElem? (i := 2) rfl)) (hw _ (List.mem_of_getElem? (i := 67) rfl)) (hw _ (List.mem_of_getElem? (i := 3) rfl)) (hw _ (List.mem_of_getElem? (i := 68) rfl)) (by decide) E_o_h103 (c_resum Z a0 hw n0 h103 Zh103 o v73 aK aO aS aL aR kf of (ownSet lf j nx) (ownSet rf k v74) us un rt ⟨g_o, g_aK, g_aO, g_aS, g_aL, g_aR, ne_o_aK, ne_o_aO, ne_o_aS, ne_o_aL, ne_o_aR, ne_aK_aO, ne_aK_aS, ne_aK_aL, ne_aK_aR, ne_aO_aS, ne_aO_aL, ne_aO_aR, ne_aS_aL, ne_aS_aR, ne_aL_aR⟩ ⟨_, E_o_h103, F_keys_h103, F_own_h103, F_sums_h103, F_left_h103, F_right_h103, F_used_h103, F_unused_h103, F_root_h103, A_aK_h103, A_aO_h103, A_aS_h103, A_aL_h103, A_aR_h103⟩ j hj (hv73 ▸ hlj) (by rw [own_set_eq]; exact Or.inr ⟨k, hk, hx⟩) (by rw [own_set_ne hne]; exact V2)) rfl rfl (lenOf pd_1 rfl) (by decide) rfl (by decide) (by decide) (by decide) fun r107 h106 qh106 => ?_
  obtain ⟨e2, Zh106, Kh106⟩ := qh106
  subst e2
  obtain ⟨sf108, E_o_h106, F_keys_h106, F_own_h106, F_sums_h106, F_left_h106, F_right_h106, F_used_h106, F_unused_h106, F_root_h106, A_aK_h106, A_aO_h106, A_aS_h106, A_aL_h106, A_aR_h106⟩ := Kh106
  show Go K _ _ _ _ _ _ _ _ _ 0 0 h106 36 #[.val (.ref o), .val (.int nx), .val (.int v73)] []
  refine Own.iloadN (pc' := 37) d_prog_19_method_12_36 rfl rfl ?_
  subst hv73 hv74
  exact Own.ireturnI d_prog_19_method_12_37 rfl (⟨_, rfl, rfl, Zh106, ⟨_, E_o_h106, F_keys_h106, F_own_h106, F_sums_h106, F_left_h106, F_right_h106, F_used_h106, F_unused_h106, F_root_h106, A_aK_h106, A_aO_h106, A_aS_h106, A_aL_h106, A_aR_h106⟩⟩) (by decide) (by decide)
set_option maxRecDepth 65536 in
set_option maxHeartbeats 40000000 in
theorem c_place (Z : State) (a0 : Array Value) (hw : ∀ d ∈ tables_1, d.before a0 Z = true) (n0 : Nat) (h : Heap) (hZ0 : n0 ≤ h.size) (o : Addr) (ky : Int64) (wt : Int64) (aK aO aS aL aR : Addr) (kf of : Nat → Int64) (lf rf : Nat → Int32) (us un rt : Int32) (D : own_D n0 o aK aO aS aL aR) (KK : own_K Z h o aK aO aS aL aR kf of lf rf us un rt) (U : Nat) (hU16 : U < 16) (hus : us.toInt = (U : Int)) (hun : un = -1) :
    Con Z n0 (⟨"com/example/lowtide/lowtide/compact/KeyedSums", "place", "(JJ)I"⟩ : MethodName) prog_19_method_16_code 7 (some .int) ({ frames := 0, cells := 0, slots := 0, locals := 0 } : Room) [(.ref o), (.long ky), (.long wt)] h (fun v h' => ∃ z, v = some (.int z) ∧ z.toInt = (U : Int) ∧ n0 ≤ h'.size ∧ own_K Z h' o aK aO aS aL aR (ownSet kf U ky) (ownSet of U wt) (ownSet lf U (-1)) (ownSet rf U (-1)) (us + 1) un rt) := by
  refine Own.enter (plainFor_of_name pn_0) (L0 := #[.val (.ref o), .val (.long ky), .second, .val (.long wt), .second, .unset, .unset]) (fun m => by first | (simp [entryFrame, mkF, argsToLocals, Value.category]; done) | rfl) fun K => ?_
  show Go K _ _ _ _ _ _ "com/example/lowtide/lowtide/compact/KeyedSums" "place" _ 0 0 h 0 #[.val (.ref o), .val (.long ky), .second, .val (.long wt), .second, .unset, .unset] []
  obtain ⟨g_o, g_aK, g_aO, g_aS, g_aL, g_aR, ne_o_aK, ne_o_aO, ne_o_aS, ne_o_aL, ne_o_aR, ne_aK_aO, ne_aK_aS, ne_aK_aL, ne_aK_aR, ne_aO_aS, ne_aO_aL, ne_aO_aR, ne_aS_aL, ne_aS_aR, ne_aL_aR⟩ := D
  obtain ⟨sf, E_o, F_keys, F_own, F_sums, F_left, F_right, F_used, F_unused, F_root, A_aK, A_aO, A_aS, A_aL, A_aR⟩ := KK
  refine Own.aloadN (pc' := 1) d_prog_19_method_16_0 rfl rfl rfl ?_
  refine Own.getfield (pc' := 4) d_prog_19_method_16_1 rfl (host := "") (Or.inl (hw _ (List.mem_of_getElem? (i := 22) rfl))) Via.refl F_unused ?_
  refine Own.istore (pc' := 6) (L1 := #[.val (.ref o), .val (.long ky), .second, .val (.long wt), .second, .val (.int un), .unset]) d_prog_19_method_16_4 rfl rfl ?_
  refine Own.iload (pc' := 8) d_prog_19_method_16_6 rfl rfl ?_
  refine Own.iconst (pc' := 9) (v := (-1 : Int32)) d_prog_19_method_16_8 (by decide) rfl ?_
  refine Own.icmp_eq (pc' := 26) (pc2 := 12) d_prog_19_method_16_9 (by decide) (by decide) rfl (fun c9_108 => ?_) (fun c9_108 => False.elim (by exact c9_108 hun))
  refine Own.aloadN (pc' := 27) d_prog_19_method_16_26 rfl rfl rfl ?_
  refine Own.getfield (pc' := 30) d_prog_19_method_16_27 rfl (host := "") (Or.inl (hw _ (List.mem_of_getElem? (i := 39) rfl))) Via.refl F_used ?_
  refine Own.aloadN (pc' := 31) d_prog_19_method_16_30 rfl rfl rfl ?_
  refine Own.getfield (pc' := 34) d_prog_19_method_16_31 rfl (host := "") (Or.inl (hw _ (List.mem_of_getElem? (i := 11) rfl))) Via.refl F_keys ?_
  refine Own.lenJ (pc' := 35) d_prog_19_method_16_34 rfl A_aK fun v110 hv110 => ?_
  refine Own.icmp_ne (pc' := 111) (pc2 := 38) d_prog_19_method_16_35 (by decide) (by decide) rfl (fun c35_110 => ?_) (fun c35_110 => False.elim (by exact c35_110 (fun e => by rw [e] at hus; omega)))
  refine Own.aloadN (pc' := 112) d_prog_19_method_16_111 rfl rfl rfl ?_
  refine Own.dup (pc' := 113) d_prog_19_method_16_112 rfl rfl ?_
  refine Own.getfield (pc' := 116) d_prog_19_method_16_113 rfl (host := "") (Or.inl (hw _ (List.mem_of_getElem? (i := 39) rfl))) Via.refl F_used ?_
  refine Own.dupX1 (pc' := 117) d_prog_19_method_16_116 rfl rfl rfl ?_
  refine Own.iconst (pc' := 118) (v := (1 : Int32)) d_prog_19_method_16_117 (by decide) rfl ?_
  refine Own.iadd (pc' := 119) d_prog_19_method_16_118 rfl fun v112 hv112 => ?_
  refine Own.putfield (pc' := 122) d_prog_19_method_16_119 rfl (host := "") (Or.inl (hw _ (List.mem_of_getElem? (i := 39) rfl))) Via.refl F_used E_o (Or.inl (hw _ (List.mem_of_getElem? (i := 40) rfl))) (hw _ (List.mem_of_getElem? (i := 2) rfl)) (ty := .int) (by decide) rfl rfl g_o fun h113 Wh113 => ?_
  have f114 := F_keys.other Wh113 (Or.inr (slot_ne (Or.inl (hw _ (List.mem_of_getElem? (i := 12) rfl))) (Or.inl (hw _ (List.mem_of_getElem? (i := 40) rfl))) (by decide) (t := (.array .long)) (t' := .int) (by decide) (by decide)))
  have f115 := F_own.other Wh113 (Or.inr (slot_ne (Or.inl (hw _ (List.mem_of_getElem? (i := 14) rfl))) (Or.inl (hw _ (List.mem_of_getElem? (i := 40) rfl))) (by decide) (t := (.array .long)) (t' := .int) (by decide) (by decide)))
  have f116 := F_sums.other Wh113 (Or.inr (slot_ne (Or.inl (hw _ (List.mem_of_getElem? (i := 16) rfl))) (Or.inl (hw _ (List.mem_of_getElem? (i := 40) rfl))) (by decide) (t := (.array .long)) (t' := .int) (by decide) (by decide)))
  have f117 := F_left.other Wh113 (Or.inr (slot_ne (Or.inl (hw _ (List.mem_of_getElem? (i := 19) rfl))) (Or.inl (hw _ (List.mem_of_getElem? (i := 40) rfl))) (by decide) (t := (.array .int)) (t' := .int) (by decide) (by decide)))
  have f118 := F_right.other Wh113 (Or.inr (slot_ne (Or.inl (hw _ (List.mem_of_getElem? (i := 21) rfl))) (Or.inl (hw _ (List.mem_of_getElem? (i := 40) rfl))) (by decide) (t := (.array .int)) (t' := .int) (by decide) (by decide)))
  have f119 := F_used.same Wh113
  have f120 := F_unused.other Wh113 (Or.inr (slot_ne (Or.inl (hw _ (List.mem_of_getElem? (i := 23) rfl))) (Or.inl (hw _ (List.mem_of_getElem? (i := 40) rfl))) (by decide) (t := .int) (t' := .int) (by decide) (by decide)))
  have f121 := F_root.other Wh113 (Or.inr (slot_ne (Or.inl (hw _ (List.mem_of_getElem? (i := 25) rfl))) (Or.inl (hw _ (List.mem_of_getElem? (i := 40) rfl))) (by decide) (t := .int) (t' := .int) (by decide) (by decide)))
  have f122 := E_o.wr Wh113
  have f123 := A_aK.other Wh113 (Ne.symm ne_o_aK)
  have f124 := A_aO.other Wh113 (Ne.symm ne_o_aO)
  have f125 := A_aS.other Wh113 (Ne.symm ne_o_aS)
  have f126 := A_aL.other Wh113 (Ne.symm ne_o_aL)
  have f127 := A_aR.other Wh113 (Ne.symm ne_o_aR)
  have Zh113 : n0 ≤ h113.size := by rw [Wh113.size]; exact hZ0
  refine Own.istore (pc' := 124) (L1 := #[.val (.ref o), .val (.long ky), .second, .val (.long wt), .second, .val (.int us), .unset]) d_prog_19_method_16_122 rfl rfl ?_
  refine Own.aloadN (pc' := 125) d_prog_19_method_16_124 rfl rfl rfl ?_
  refine Own.getfield (pc' := 128) d_prog_19_method_16_125 rfl (host := "") (Or.inl (hw _ (List.mem_of_getElem? (i := 11) rfl))) Via.refl f114 ?_
  refine Own.iload (pc' := 130) d_prog_19_method_16_128 rfl rfl ?_
  refine Own.lloadN (pc' := 131) d_prog_19_method_16_130 rfl rfl ?_
  refine Own.lastore (pc' := 132) (i := U) d_prog_19_method_16_131 rfl f123 g_aK hus hU16 fun h128 Wh128 Ah128 => ?_
  have f129 := f114.other Wh128 (Or.inl ne_o_aK)
  have f130 := f115.other Wh128 (Or.inl ne_o_aK)
  have f131 := f116.other Wh128 (Or.inl ne_o_aK)
  have f132 := f117.other Wh128 (Or.inl ne_o_aK)
  have f133 := f118.other Wh128 (Or.inl ne_o_aK)
  have f134 := f119.other Wh128 (Or.inl ne_o_aK)
  have f135 := f120.other Wh128 (Or.inl ne_o_aK)
  have f136 := f121.other Wh128 (Or.inl ne_o_aK)
  have f137 := f122.wr Wh128
  have f138 := f124.other Wh128 (Ne.symm ne_aK_aO)
  have f139 := f125.other Wh128 (Ne.symm ne_aK_aS)
  have f140 := f126.other Wh128 (Ne.symm ne_aK_aL)
  have f141 := f127.other Wh128 (Ne.symm ne_aK_aR)
  have Zh128 : n0 ≤ h128.size := by rw [Wh128.size]; exact Zh113
  refine Own.aloadN (pc' := 133) d_prog_19_method_16_132 rfl rfl rfl ?_
  refine Own.getfield (pc' := 136) d_prog_19_method_16_133 rfl (host := "") (Or.inl (hw _ (List.mem_of_getElem? (i := 13) rfl))) Via.refl f130 ?_
  refine Own.iload (pc' := 138) d_prog_19_method_16_136 rfl rfl ?_
  refine Own.lloadN (pc' := 139) d_prog_19_method_16_138 rfl rfl ?_
  refine Own.lastore (pc' := 140) (i := U) d_prog_19_method_16_139 rfl f138 g_aO hus hU16 fun h142 Wh142 Ah142 => ?_
  have f143 := f129.other Wh142 (Or.inl ne_o_aO)
  have f144 := f130.other Wh142 (Or.inl ne_o_aO)
  have f145 := f131.other Wh142 (Or.inl ne_o_aO)
  have f146 := f132.other Wh142 (Or.inl ne_o_aO)
  have f147 := f133.other Wh142 (Or.inl ne_o_aO)
  have f148 := f134.other Wh142 (Or.inl ne_o_aO)
  have f149 := f135.other Wh142 (Or.inl ne_o_aO)
  have f150 := f136.other Wh142 (Or.inl ne_o_aO)
  have f151 := f137.wr Wh142
  have f152 := Ah128.other Wh142 ne_aK_aO
  have f153 := f139.other Wh142 (Ne.symm ne_aO_aS)
  have f154 := f140.other Wh142 (Ne.symm ne_aO_aL)
  have f155 := f141.other Wh142 (Ne.symm ne_aO_aR)
  have Zh142 : n0 ≤ h142.size := by rw [Wh142.size]; exact Zh128
  refine Own.aloadN (pc' := 141) d_prog_19_method_16_140 rfl rfl rfl ?_
  refine Own.getfield (pc' := 144) d_prog_19_method_16_141 rfl (host := "") (Or.inl (hw _ (List.mem_of_getElem? (i := 15) rfl))) Via.refl f145 ?_
  refine Own.iload (pc' := 146) d_prog_19_method_16_144 rfl rfl ?_
  refine Own.lloadN (pc' := 147) d_prog_19_method_16_146 rfl rfl ?_
  refine Own.lastore (pc' := 148) (i := U) d_prog_19_method_16_147 rfl f153 g_aS hus hU16 fun h156 Wh156 Ah156 => ?_
  have f157 := f143.other Wh156 (Or.inl ne_o_aS)
  have f158 := f144.other Wh156 (Or.inl ne_o_aS)
  have f159 := f145.other Wh156 (Or.inl ne_o_aS)
  have f160 := f146.other Wh156 (Or.inl ne_o_aS)
  have f161 := f147.other Wh156 (Or.inl ne_o_aS)
  have f162 := f148.other Wh156 (Or.inl ne_o_aS)
  have f163 := f149.other Wh156 (Or.inl ne_o_aS)
  have f164 := f150.other Wh156 (Or.inl ne_o_aS)
  have f165 := f151.wr Wh156
  have f166 := f152.other Wh156 ne_aK_aS
  have f167 := Ah142.other Wh156 ne_aO_aS
  have f168 := f154.other Wh156 (Ne.symm ne_aS_aL)
  have f169 := f155.other Wh156 (Ne.symm ne_aS_aR)
  have Zh156 : n0 ≤ h156.size := by rw [Wh156.size]; exact Zh142
  refine Own.aloadN (pc' := 149) d_prog_19_method_16_148 rfl rfl rfl ?_
  refine Own.getfield (pc' := 152) d_prog_19_method_16_149 rfl (host := "") (Or.inl (hw _ (List.mem_of_getElem? (i := 18) rfl))) Via.refl f160 ?_
  refine Own.iload (pc' := 154) d_prog_19_method_16_152 rfl rfl ?_
  refine Own.iconst (pc' := 155) (v := (-1 : Int32)) d_prog_19_method_16_154 (by decide) rfl ?_
  refine Own.iastore (pc' := 156) (i := U) d_prog_19_method_16_155 rfl f168 g_aL hus hU16 fun h170 Wh170 Ah170 => ?_
  have f171 := f157.other Wh170 (Or.inl ne_o_aL)
  have f172 := f158.other Wh170 (Or.inl ne_o_aL)
  have f173 := f159.other Wh170 (Or.inl ne_o_aL)
  have f174 := f160.other Wh170 (Or.inl ne_o_aL)
  have f175 := f161.other Wh170 (Or.inl ne_o_aL)
  have f176 := f162.other Wh170 (Or.inl ne_o_aL)
  have f177 := f163.other Wh170 (Or.inl ne_o_aL)
  have f178 := f164.other Wh170 (Or.inl ne_o_aL)
  have f179 := f165.wr Wh170
  have f180 := f166.other Wh170 ne_aK_aL
  have f181 := f167.other Wh170 ne_aO_aL
  have f182 := Ah156.other Wh170 ne_aS_aL
  have f183 := f169.other Wh170 (Ne.symm ne_aL_aR)
  have Zh170 : n0 ≤ h170.size := by rw [Wh170.size]; exact Zh156
  refine Own.aloadN (pc' := 157) d_prog_19_method_16_156 rfl rfl rfl ?_
  refine Own.getfield (pc' := 160) d_prog_19_method_16_157 rfl (host := "") (Or.inl (hw _ (List.mem_of_getElem? (i := 20) rfl))) Via.refl f175 ?_
  refine Own.iload (pc' := 162) d_prog_19_method_16_160 rfl rfl ?_
  refine Own.iconst (pc' := 163) (v := (-1 : Int32)) d_prog_19_method_16_162 (by decide) rfl ?_
  refine Own.iastore (pc' := 164) (i := U) d_prog_19_method_16_163 rfl f183 g_aR hus hU16 fun h184 Wh184 Ah184 => ?_
  have f185 := f171.other Wh184 (Or.inl ne_o_aR)
  have f186 := f172.other Wh184 (Or.inl ne_o_aR)
  have f187 := f173.other Wh184 (Or.inl ne_o_aR)
  have f188 := f174.other Wh184 (Or.inl ne_o_aR)
  have f189 := f175.other Wh184 (Or.inl ne_o_aR)
  have f190 := f176.other Wh184 (Or.inl ne_o_aR)
  have f191 := f177.other Wh184 (Or.inl ne_o_aR)
  have f192 := f178.other Wh184 (Or.inl ne_o_aR)
  have f193 := f179.wr Wh184
  have f194 := f180.other Wh184 ne_aK_aR
  have f195 := f181.other Wh184 ne_aO_aR
  have f196 := f182.other Wh184 ne_aS_aR
  have f197 := Ah170.other Wh184 ne_aL_aR
  have Zh184 : n0 ≤ h184.size := by rw [Wh184.size]; exact Zh170
  refine Own.iload (pc' := 166) d_prog_19_method_16_164 rfl rfl ?_
  subst hv112
  exact Own.ireturnI d_prog_19_method_16_166 rfl (⟨_, rfl, hus, Zh184, ⟨_, f193, f185, f186, f187, f188, f189, f190, f191, f192, f194, f195, f196, f197, Ah184⟩⟩) (by decide) (by decide)
set_option maxRecDepth 65536 in
set_option maxHeartbeats 40000000 in
theorem c_release (Z : State) (a0 : Array Value) (hw : ∀ d ∈ tables_1, d.before a0 Z = true) (n0 : Nat) (h : Heap) (hZ0 : n0 ≤ h.size) (o : Addr) (nx : Int32) (aK aO aS aL aR : Addr) (kf of : Nat → Int64) (lf rf : Nat → Int32) (us un rt : Int32) (D : own_D n0 o aK aO aS aL aR) (KK : own_K Z h o aK aO aS aL aR kf of lf rf us un rt) (k : Nat) (hk : k < 16) (hx : nx.toInt = (k : Int)) :
    Con Z n0 (⟨"com/example/lowtide/lowtide/compact/KeyedSums", "release", "(I)V"⟩ : MethodName) prog_19_method_17_code 2 none ({ frames := 0, cells := 0, slots := 0, locals := 0 } : Room) [(.ref o), (.int nx)] h (fun v h' => v = none ∧ n0 ≤ h'.size ∧ own_K Z h' o aK aO aS aL aR kf of (ownSet lf k un) rf us nx rt) := by
  refine Own.enter (plainFor_of_name pn_0) (L0 := #[.val (.ref o), .val (.int nx)]) (fun m => by first | (simp [entryFrame, mkF, argsToLocals, Value.category]; done) | rfl) fun K => ?_
  show Go K _ _ _ _ _ _ "com/example/lowtide/lowtide/compact/KeyedSums" "release" _ 0 0 h 0 #[.val (.ref o), .val (.int nx)] []
  obtain ⟨g_o, g_aK, g_aO, g_aS, g_aL, g_aR, ne_o_aK, ne_o_aO, ne_o_aS, ne_o_aL, ne_o_aR, ne_aK_aO, ne_aK_aS, ne_aK_aL, ne_aK_aR, ne_aO_aS, ne_aO_aL, ne_aO_aR, ne_aS_aL, ne_aS_aR, ne_aL_aR⟩ := D
  obtain ⟨sf, E_o, F_keys, F_own, F_sums, F_left, F_right, F_used, F_unused, F_root, A_aK, A_aO, A_aS, A_aL, A_aR⟩ := KK
  refine Own.aloadN (pc' := 1) d_prog_19_method_17_0 rfl rfl rfl ?_
  refine Own.getfield (pc' := 4) d_prog_19_method_17_1 rfl (host := "") (Or.inl (hw _ (List.mem_of_getElem? (i := 18) rfl))) Via.refl F_left ?_
  refine Own.iloadN (pc' := 5) d_prog_19_method_17_4 rfl rfl ?_
  refine Own.aloadN (pc' := 6) d_prog_19_method_17_5 rfl rfl rfl ?_
  refine Own.getfield (pc' := 9) d_prog_19_method_17_6 rfl (host := "") (Or.inl (hw _ (List.mem_of_getElem? (i := 22) rfl))) Via.refl F_unused ?_
  refine Own.iastore (pc' := 10) (i := k) d_prog_19_method_17_9 rfl A_aL g_aL hx hk fun h198 Wh198 Ah198 => ?_
  have f199 := F_keys.other Wh198 (Or.inl ne_o_aL)
  have f200 := F_own.other Wh198 (Or.inl ne_o_aL)
  have f201 := F_sums.other Wh198 (Or.inl ne_o_aL)
  have f202 := F_left.other Wh198 (Or.inl ne_o_aL)
  have f203 := F_right.other Wh198 (Or.inl ne_o_aL)
  have f204 := F_used.other Wh198 (Or.inl ne_o_aL)
  have f205 := F_unused.other Wh198 (Or.inl ne_o_aL)
  have f206 := F_root.other Wh198 (Or.inl ne_o_aL)
  have f207 := E_o.wr Wh198
  have f208 := A_aK.other Wh198 ne_aK_aL
  have f209 := A_aO.other Wh198 ne_aO_aL
  have f210 := A_aS.other Wh198 ne_aS_aL
  have f211 := A_aR.other Wh198 (Ne.symm ne_aL_aR)
  have Zh198 : n0 ≤ h198.size := by rw [Wh198.size]; exact hZ0
  refine Own.aloadN (pc' := 11) d_prog_19_method_17_10 rfl rfl rfl ?_
  refine Own.iloadN (pc' := 12) d_prog_19_method_17_11 rfl rfl ?_
  refine Own.putfield (pc' := 15) d_prog_19_method_17_12 rfl (host := "") (Or.inl (hw _ (List.mem_of_getElem? (i := 22) rfl))) Via.refl f205 f207 (Or.inl (hw _ (List.mem_of_getElem? (i := 23) rfl))) (hw _ (List.mem_of_getElem? (i := 2) rfl)) (ty := .int) (by decide) rfl rfl g_o fun h212 Wh212 => ?_
  have f213 := f199.other Wh212 (Or.inr (slot_ne (Or.inl (hw _ (List.mem_of_getElem? (i := 12) rfl))) (Or.inl (hw _ (List.mem_of_getElem? (i := 23) rfl))) (by decide) (t := (.array .long)) (t' := .int) (by decide) (by decide)))
  have f214 := f200.other Wh212 (Or.inr (slot_ne (Or.inl (hw _ (List.mem_of_getElem? (i := 14) rfl))) (Or.inl (hw _ (List.mem_of_getElem? (i := 23) rfl))) (by decide) (t := (.array .long)) (t' := .int) (by decide) (by decide)))
  have f215 := f201.other Wh212 (Or.inr (slot_ne (Or.inl (hw _ (List.mem_of_getElem? (i := 16) rfl))) (Or.inl (hw _ (List.mem_of_getElem? (i := 23) rfl))) (by decide) (t := (.array .long)) (t' := .int) (by decide) (by decide)))
  have f216 := f202.other Wh212 (Or.inr (slot_ne (Or.inl (hw _ (List.mem_of_getElem? (i := 19) rfl))) (Or.inl (hw _ (List.mem_of_getElem? (i := 23) rfl))) (by decide) (t := (.array .int)) (t' := .int) (by decide) (by decide)))
  have f217 := f203.other Wh212 (Or.inr (slot_ne (Or.inl (hw _ (List.mem_of_getElem? (i := 21) rfl))) (Or.inl (hw _ (List.mem_of_getElem? (i := 23) rfl))) (by decide) (t := (.array .int)) (t' := .int) (by decide) (by decide)))
  have f218 := f204.other Wh212 (Or.inr (slot_ne (Or.inl (hw _ (List.mem_of_getElem? (i := 40) rfl))) (Or.inl (hw _ (List.mem_of_getElem? (i := 23) rfl))) (by decide) (t := .int) (t' := .int) (by decide) (by decide)))
  have f219 := f205.same Wh212
  have f220 := f206.other Wh212 (Or.inr (slot_ne (Or.inl (hw _ (List.mem_of_getElem? (i := 25) rfl))) (Or.inl (hw _ (List.mem_of_getElem? (i := 23) rfl))) (by decide) (t := .int) (t' := .int) (by decide) (by decide)))
  have f221 := f207.wr Wh212
  have f222 := f208.other Wh212 (Ne.symm ne_o_aK)
  have f223 := f209.other Wh212 (Ne.symm ne_o_aO)
  have f224 := f210.other Wh212 (Ne.symm ne_o_aS)
  have f225 := Ah198.other Wh212 (Ne.symm ne_o_aL)
  have f226 := f211.other Wh212 (Ne.symm ne_o_aR)
  have Zh212 : n0 ≤ h212.size := by rw [Wh212.size]; exact Zh198
  exact Own.vreturn d_prog_19_method_17_15 rfl (⟨rfl, Zh212, ⟨_, f221, f213, f214, f215, f216, f217, f218, f219, f220, f222, f223, f224, f225, f226⟩⟩) (by decide) (by decide)
set_option maxRecDepth 65536 in
set_option maxHeartbeats 40000000 in
theorem c_join0 (Z : State) (a0 : Array Value) (hw : ∀ d ∈ tables_1, d.before a0 Z = true) (n0 : Nat) (h : Heap) (hZ0 : n0 ≤ h.size) (o : Addr) (ja : Int32) (jb : Int32) (aK aO aS aL aR : Addr) (kf of : Nat → Int64) (lf rf : Nat → Int32) (us un rt : Int32) (D : own_D n0 o aK aO aS aL aR) (KK : own_K Z h o aK aO aS aL aR kf of lf rf us un rt) (la lb : List Nat) (Ta : own_T lf rf ja la) (Tb : own_T lf rf jb lb) (nd : (la ++ lb).Nodup) (hlen : la.length + lb.length ≤ 0) :
    Con Z n0 (⟨"com/example/lowtide/lowtide/compact/KeyedSums", "join", "(II)I"⟩ : MethodName) prog_19_method_10_code 3 (some .int) ({ frames := 0, cells := 0, slots := 0, locals := 0 } : Room) [(.ref o), (.int ja), (.int jb)] h (fun v h' => ∃ z lf' rf', v = some (.int z) ∧ n0 ≤ h'.size ∧ own_K Z h' o aK aO aS aL aR kf of lf' rf' us un rt ∧ own_T lf' rf' z (la ++ lb) ∧ ∀ t, t ∉ la ++ lb → lf' t = lf t ∧ rf' t = rf t) := by
  refine Own.enter (plainFor_of_name pn_0) (L0 := #[.val (.ref o), .val (.int ja), .val (.int jb)]) (fun m => by first | (simp [entryFrame, mkF, argsToLocals, Value.category]; done) | rfl) fun K => ?_
  show Go K _ _ _ _ _ _ "com/example/lowtide/lowtide/compact/KeyedSums" "join" _ 0 0 h 0 #[.val (.ref o), .val (.int ja), .val (.int jb)] []
  obtain ⟨g_o, g_aK, g_aO, g_aS, g_aL, g_aR, ne_o_aK, ne_o_aO, ne_o_aS, ne_o_aL, ne_o_aR, ne_aK_aO, ne_aK_aS, ne_aK_aL, ne_aK_aR, ne_aO_aS, ne_aO_aL, ne_aO_aR, ne_aS_aL, ne_aS_aR, ne_aL_aR⟩ := D
  obtain ⟨sf, E_o, F_keys, F_own, F_sums, F_left, F_right, F_used, F_unused, F_root, A_aK, A_aO, A_aS, A_aL, A_aR⟩ := KK
  refine Own.iloadN (pc' := 1) d_prog_19_method_10_0 rfl rfl ?_
  refine Own.iconst (pc' := 2) (v := (-1 : Int32)) d_prog_19_method_10_1 (by decide) rfl ?_
  refine Own.icmp_eq (pc' := 10) (pc2 := 5) d_prog_19_method_10_2 (by decide) (by decide) rfl (fun c2_226 => ?_) (fun c2_226 => ?_)
  · refine Own.iloadN (pc' := 11) d_prog_19_method_10_10 rfl rfl ?_
    refine Own.iconst (pc' := 12) (v := (-1 : Int32)) d_prog_19_method_10_11 (by decide) rfl ?_
    refine Own.icmp_ne (pc' := 19) (pc2 := 15) d_prog_19_method_10_12 (by decide) (by decide) rfl (fun c12_227 => False.elim (by exact c12_227 c2_226)) (fun c12_227 => ?_)
    refine Own.iloadN (pc' := 16) d_prog_19_method_10_15 rfl rfl ?_
    refine Own.goto (pc' := 20) d_prog_19_method_10_16 (by decide) (by decide) ?_
    obtain rfl := own_Tz Ta c2_226
    exact Own.ireturnI d_prog_19_method_10_20 rfl (⟨_, _, _, rfl, hZ0, ⟨_, E_o, F_keys, F_own, F_sums, F_left, F_right, F_used, F_unused, F_root, A_aK, A_aO, A_aS, A_aL, A_aR⟩, by rw [List.nil_append]; exact Tb, fun _ _ => ⟨rfl, rfl⟩⟩) (by decide) (by decide)
  · refine Own.iloadN (pc' := 6) d_prog_19_method_10_5 rfl rfl ?_
    refine Own.iconst (pc' := 7) (v := (-1 : Int32)) d_prog_19_method_10_6 (by decide) rfl ?_
    refine Own.icmp_ne (pc' := 21) (pc2 := 10) d_prog_19_method_10_7 (by decide) (by decide) rfl (fun c7_228 => ?_) (fun c7_228 => ?_)
    · obtain ⟨ka, l1, r1, hka, hxa, rfl, A4, A5⟩ := own_Tn1 Ta c2_226
      obtain ⟨kb, l2, r2, hkb, hxb, rfl, B4, B5⟩ := own_Tn1 Tb c7_228
      exfalso
      simp only [List.length_append, List.length_cons] at hlen
      omega
    · refine Own.iloadN (pc' := 11) d_prog_19_method_10_10 rfl rfl ?_
      refine Own.iconst (pc' := 12) (v := (-1 : Int32)) d_prog_19_method_10_11 (by decide) rfl ?_
      refine Own.icmp_ne (pc' := 19) (pc2 := 15) d_prog_19_method_10_12 (by decide) (by decide) rfl (fun c12_229 => ?_) (fun c12_229 => False.elim (by exact c12_229 c2_226))
      refine Own.iloadN (pc' := 20) d_prog_19_method_10_19 rfl rfl ?_
      obtain rfl := own_Tz Tb (Decidable.not_not.mp c7_228)
      exact Own.ireturnI d_prog_19_method_10_20 rfl (⟨_, _, _, rfl, hZ0, ⟨_, E_o, F_keys, F_own, F_sums, F_left, F_right, F_used, F_unused, F_root, A_aK, A_aO, A_aS, A_aL, A_aR⟩, by rw [List.append_nil]; exact Ta, fun _ _ => ⟨rfl, rfl⟩⟩) (by decide) (by decide)
set_option maxRecDepth 65536 in
set_option maxHeartbeats 40000000 in
theorem c_join1 (Z : State) (a0 : Array Value) (hw : ∀ d ∈ tables_1, d.before a0 Z = true) (n0 : Nat) (h : Heap) (hZ0 : n0 ≤ h.size) (o : Addr) (ja : Int32) (jb : Int32) (aK aO aS aL aR : Addr) (kf of : Nat → Int64) (lf rf : Nat → Int32) (us un rt : Int32) (D : own_D n0 o aK aO aS aL aR) (KK : own_K Z h o aK aO aS aL aR kf of lf rf us un rt) (la lb : List Nat) (Ta : own_T lf rf ja la) (Tb : own_T lf rf jb lb) (nd : (la ++ lb).Nodup) (hlen : la.length + lb.length ≤ 1) :
    Con Z n0 (⟨"com/example/lowtide/lowtide/compact/KeyedSums", "join", "(II)I"⟩ : MethodName) prog_19_method_10_code 3 (some .int) ({ frames := 0, cells := 0, slots := 0, locals := 0 } : Room) [(.ref o), (.int ja), (.int jb)] h (fun v h' => ∃ z lf' rf', v = some (.int z) ∧ n0 ≤ h'.size ∧ own_K Z h' o aK aO aS aL aR kf of lf' rf' us un rt ∧ own_T lf' rf' z (la ++ lb) ∧ ∀ t, t ∉ la ++ lb → lf' t = lf t ∧ rf' t = rf t) := by
  refine Own.enter (plainFor_of_name pn_0) (L0 := #[.val (.ref o), .val (.int ja), .val (.int jb)]) (fun m => by first | (simp [entryFrame, mkF, argsToLocals, Value.category]; done) | rfl) fun K => ?_
  show Go K _ _ _ _ _ _ "com/example/lowtide/lowtide/compact/KeyedSums" "join" _ 0 0 h 0 #[.val (.ref o), .val (.int ja), .val (.int jb)] []
  obtain ⟨g_o, g_aK, g_aO, g_aS, g_aL, g_aR, ne_o_aK, ne_o_aO, ne_o_aS, ne_o_aL, ne_o_aR, ne_aK_aO, ne_aK_aS, ne_aK_aL, ne_aK_aR, ne_aO_aS, ne_aO_aL, ne_aO_aR, ne_aS_aL, ne_aS_aR, ne_aL_aR⟩ := D
  obtain ⟨sf, E_o, F_keys, F_own, F_sums, F_left, F_right, F_used, F_unused, F_root, A_aK, A_aO, A_aS, A_aL, A_aR⟩ := KK
  refine Own.iloadN (pc' := 1) d_prog_19_method_10_0 rfl rfl ?_
  refine Own.iconst (pc' := 2) (v := (-1 : Int32)) d_prog_19_method_10_1 (by decide) rfl ?_
  refine Own.icmp_eq (pc' := 10) (pc2 := 5) d_prog_19_method_10_2 (by decide) (by decide) rfl (fun c2_230 => ?_) (fun c2_230 => ?_)
  · refine Own.iloadN (pc' := 11) d_prog_19_method_10_10 rfl rfl ?_
    refine Own.iconst (pc' := 12) (v := (-1 : Int32)) d_prog_19_method_10_11 (by decide) rfl ?_
    refine Own.icmp_ne (pc' := 19) (pc2 := 15) d_prog_19_method_10_12 (by decide) (by decide) rfl (fun c12_231 => False.elim (by exact c12_231 c2_230)) (fun c12_231 => ?_)
    refine Own.iloadN (pc' := 16) d_prog_19_method_10_15 rfl rfl ?_
    refine Own.goto (pc' := 20) d_prog_19_method_10_16 (by decide) (by decide) ?_
    obtain rfl := own_Tz Ta c2_230
    exact Own.ireturnI d_prog_19_method_10_20 rfl (⟨_, _, _, rfl, hZ0, ⟨_, E_o, F_keys, F_own, F_sums, F_left, F_right, F_used, F_unused, F_root, A_aK, A_aO, A_aS, A_aL, A_aR⟩, by rw [List.nil_append]; exact Tb, fun _ _ => ⟨rfl, rfl⟩⟩) (by decide) (by decide)
  · refine Own.iloadN (pc' := 6) d_prog_19_method_10_5 rfl rfl ?_
    refine Own.iconst (pc' := 7) (v := (-1 : Int32)) d_prog_19_method_10_6 (by decide) rfl ?_
    refine Own.icmp_ne (pc' := 21) (pc2 := 10) d_prog_19_method_10_7 (by decide) (by decide) rfl (fun c7_232 => ?_) (fun c7_232 => ?_)
    · obtain ⟨ka, l1, r1, hka, hxa, rfl, A4, A5⟩ := own_Tn1 Ta c2_230
      obtain ⟨kb, l2, r2, hkb, hxb, rfl, B4, B5⟩ := own_Tn1 Tb c7_232
      exfalso
      simp only [List.length_append, List.length_cons] at hlen
      omega
    · refine Own.iloadN (pc' := 11) d_prog_19_method_10_10 rfl rfl ?_
      refine Own.iconst (pc' := 12) (v := (-1 : Int32)) d_prog_19_method_10_11 (by decide) rfl ?_
      refine Own.icmp_ne (pc' := 19) (pc2 := 15) d_prog_19_method_10_12 (by decide) (by decide) rfl (fun c12_233 => ?_) (fun c12_233 => False.elim (by exact c12_233 c2_230))
      refine Own.iloadN (pc' := 20) d_prog_19_method_10_19 rfl rfl ?_
      obtain rfl := own_Tz Tb (Decidable.not_not.mp c7_232)
      exact Own.ireturnI d_prog_19_method_10_20 rfl (⟨_, _, _, rfl, hZ0, ⟨_, E_o, F_keys, F_own, F_sums, F_left, F_right, F_used, F_unused, F_root, A_aK, A_aO, A_aS, A_aL, A_aR⟩, by rw [List.append_nil]; exact Ta, fun _ _ => ⟨rfl, rfl⟩⟩) (by decide) (by decide)
set_option maxRecDepth 65536 in
set_option maxHeartbeats 40000000 in
theorem c_join2 (Z : State) (a0 : Array Value) (hw : ∀ d ∈ tables_1, d.before a0 Z = true) (n0 : Nat) (h : Heap) (hZ0 : n0 ≤ h.size) (o : Addr) (ja : Int32) (jb : Int32) (aK aO aS aL aR : Addr) (kf of : Nat → Int64) (lf rf : Nat → Int32) (us un rt : Int32) (D : own_D n0 o aK aO aS aL aR) (KK : own_K Z h o aK aO aS aL aR kf of lf rf us un rt) (la lb : List Nat) (Ta : own_T lf rf ja la) (Tb : own_T lf rf jb lb) (nd : (la ++ lb).Nodup) (hlen : la.length + lb.length ≤ 2) :
    Con Z n0 (⟨"com/example/lowtide/lowtide/compact/KeyedSums", "join", "(II)I"⟩ : MethodName) prog_19_method_10_code 3 (some .int) ({ frames := 2, cells := 0, slots := 0, locals := 30 } : Room) [(.ref o), (.int ja), (.int jb)] h (fun v h' => ∃ z lf' rf', v = some (.int z) ∧ n0 ≤ h'.size ∧ own_K Z h' o aK aO aS aL aR kf of lf' rf' us un rt ∧ own_T lf' rf' z (la ++ lb) ∧ ∀ t, t ∉ la ++ lb → lf' t = lf t ∧ rf' t = rf t) := by
  refine Own.enter (plainFor_of_name pn_0) (L0 := #[.val (.ref o), .val (.int ja), .val (.int jb)]) (fun m => by first | (simp [entryFrame, mkF, argsToLocals, Value.category]; done) | rfl) fun K => ?_
  show Go K _ _ _ _ _ _ "com/example/lowtide/lowtide/compact/KeyedSums" "join" _ 0 0 h 0 #[.val (.ref o), .val (.int ja), .val (.int jb)] []
  obtain ⟨g_o, g_aK, g_aO, g_aS, g_aL, g_aR, ne_o_aK, ne_o_aO, ne_o_aS, ne_o_aL, ne_o_aR, ne_aK_aO, ne_aK_aS, ne_aK_aL, ne_aK_aR, ne_aO_aS, ne_aO_aL, ne_aO_aR, ne_aS_aL, ne_aS_aR, ne_aL_aR⟩ := D
  obtain ⟨sf, E_o, F_keys, F_own, F_sums, F_left, F_right, F_used, F_unused, F_root, A_aK, A_aO, A_aS, A_aL, A_aR⟩ := KK
  refine Own.iloadN (pc' := 1) d_prog_19_method_10_0 rfl rfl ?_
  refine Own.iconst (pc' := 2) (v := (-1 : Int32)) d_prog_19_method_10_1 (by decide) rfl ?_
  refine Own.icmp_eq (pc' := 10) (pc2 := 5) d_prog_19_method_10_2 (by decide) (by decide) rfl (fun c2_234 => ?_) (fun c2_234 => ?_)
  · refine Own.iloadN (pc' := 11) d_prog_19_method_10_10 rfl rfl ?_
    refine Own.iconst (pc' := 12) (v := (-1 : Int32)) d_prog_19_method_10_11 (by decide) rfl ?_
    refine Own.icmp_ne (pc' := 19) (pc2 := 15) d_prog_19_method_10_12 (by decide) (by decide) rfl (fun c12_235 => False.elim (by exact c12_235 c2_234)) (fun c12_235 => ?_)
    refine Own.iloadN (pc' := 16) d_prog_19_method_10_15 rfl rfl ?_
    refine Own.goto (pc' := 20) d_prog_19_method_10_16 (by decide) (by decide) ?_
    obtain rfl := own_Tz Ta c2_234
    exact Own.ireturnI d_prog_19_method_10_20 rfl (⟨_, _, _, rfl, hZ0, ⟨_, E_o, F_keys, F_own, F_sums, F_left, F_right, F_used, F_unused, F_root, A_aK, A_aO, A_aS, A_aL, A_aR⟩, by rw [List.nil_append]; exact Tb, fun _ _ => ⟨rfl, rfl⟩⟩) (by decide) (by decide)
  · refine Own.iloadN (pc' := 6) d_prog_19_method_10_5 rfl rfl ?_
    refine Own.iconst (pc' := 7) (v := (-1 : Int32)) d_prog_19_method_10_6 (by decide) rfl ?_
    refine Own.icmp_ne (pc' := 21) (pc2 := 10) d_prog_19_method_10_7 (by decide) (by decide) rfl (fun c7_236 => ?_) (fun c7_236 => ?_)
    · obtain ⟨ka, l1, r1, hka, hxa, rfl, A4, A5⟩ := own_Tn1 Ta c2_234
      obtain ⟨kb, l2, r2, hkb, hxb, rfl, B4, B5⟩ := own_Tn1 Tb c7_236
      refine Own.iloadN (pc' := 22) d_prog_19_method_10_21 rfl rfl ?_
      refine Own.static (pc' := 25) (y := (⟨"com/example/lowtide/lowtide/compact/KeyedSums", "rank", "(I)I"⟩ : MethodName)) (rm' := ({ frames := 0, cells := 0, slots := 0, locals := 0 } : Room)) (W := 0) (as := [(.int ja)]) (rest := []) d_prog_19_method_10_22 rfl (hw _ (List.mem_of_getElem? (i := 55) rfl)) (hw _ (List.mem_of_getElem? (i := 56) rfl)) (hw _ (List.mem_of_getElem? (i := 3) rfl)) (hw _ (List.mem_of_getElem? (i := 57) rfl)) (by decide) (c_rank Z a0 hw n0 h hZ0 ja) rfl rfl (lenOf pd_2 rfl) (by decide) rfl (by decide) (by decide) (by decide) fun r239 h238 qh238 => ?_
      obtain ⟨u240, e2, e1⟩ := qh238
      subst e1 e2
      show Go K _ _ _ _ _ _ _ _ _ 0 0 h 25 #[.val (.ref o), .val (.int ja), .val (.int jb)] [(.int u240)]
      refine Own.iloadN (pc' := 26) d_prog_19_method_10_25 rfl rfl ?_
      refine Own.static (pc' := 29) (y := (⟨"com/example/lowtide/lowtide/compact/KeyedSums", "rank", "(I)I"⟩ : MethodName)) (rm' := ({ frames := 0, cells := 0, slots := 0, locals := 0 } : Room)) (W := 1) (as := [(.int jb)]) (rest := [(.int u240)]) d_prog_19_method_10_26 rfl (hw _ (List.mem_of_getElem? (i := 55) rfl)) (hw _ (List.mem_of_getElem? (i := 56) rfl)) (hw _ (List.mem_of_getElem? (i := 3) rfl)) (hw _ (List.mem_of_getElem? (i := 57) rfl)) (by decide) (c_rank Z a0 hw n0 h hZ0 jb) rfl rfl (lenOf pd_2 rfl) (by decide) rfl (by decide) (by decide) (by decide) fun r242 h241 qh241 => ?_
      obtain ⟨u243, e2, e1⟩ := qh241
      subst e1 e2
      show Go K _ _ _ _ _ _ _ _ _ 0 0 h 29 #[.val (.ref o), .val (.int ja), .val (.int jb)] [(.int u243), (.int u240)]
      refine Own.icmp_le (pc' := 56) (pc2 := 32) d_prog_19_method_10_29 (by decide) (by decide) rfl (fun c29_243 => ?_) (fun c29_243 => ?_)
      · refine Own.aloadN (pc' := 57) d_prog_19_method_10_56 rfl rfl rfl ?_
        refine Own.getfield (pc' := 60) d_prog_19_method_10_57 rfl (host := "") (Or.inl (hw _ (List.mem_of_getElem? (i := 18) rfl))) Via.refl F_left ?_
        refine Own.iloadN (pc' := 61) d_prog_19_method_10_60 rfl rfl ?_
        refine Own.aloadN (pc' := 62) d_prog_19_method_10_61 rfl rfl rfl ?_
        refine Own.iloadN (pc' := 63) d_prog_19_method_10_62 rfl rfl ?_
        refine Own.aloadN (pc' := 64) d_prog_19_method_10_63 rfl rfl rfl ?_
        refine Own.getfield (pc' := 67) d_prog_19_method_10_64 rfl (host := "") (Or.inl (hw _ (List.mem_of_getElem? (i := 18) rfl))) Via.refl F_left ?_
        refine Own.iloadN (pc' := 68) d_prog_19_method_10_67 rfl rfl ?_
        refine Own.iaload (pc' := 69) (i := kb) d_prog_19_method_10_68 rfl A_aL hxb hkb ?_
        obtain ⟨v245, hv245⟩ : ∃ z, z = lf kb := ⟨_, rfl⟩
        rw [← hv245]
        refine Own.privat (pc' := 72) (y := (⟨"com/example/lowtide/lowtide/compact/KeyedSums", "join", "(II)I"⟩ : MethodName)) (rm' := ({ frames := 0, cells := 0, slots := 0, locals := 0 } : Room)) (W := 2) (as := [(.int ja), (.int v245)]) (rest := [(.int jb), (.ref aL)]) (a := o) d_prog_19_method_10_69 rfl (hw _ (List.mem_of_getElem? (i := 77) rfl)) (hw _ (List.mem_of_getElem? (i := 78) rfl)) (hw _ (List.mem_of_getElem? (i := 2) rfl)) (hw _ (List.mem_of_getElem? (i := 79) rfl)) (hw _ (List.mem_of_getElem? (i := 3) rfl)) (hw _ (List.mem_of_getElem? (i := 80) rfl)) (by decide) E_o (c_join1 Z a0 hw n0 h hZ0 o ja v245 aK aO aS aL aR kf of lf rf us un rt ⟨g_o, g_aK, g_aO, g_aS, g_aL, g_aR, ne_o_aK, ne_o_aO, ne_o_aS, ne_o_aL, ne_o_aR, ne_aK_aO, ne_aK_aS, ne_aK_aL, ne_aK_aR, ne_aO_aS, ne_aO_aL, ne_aO_aR, ne_aS_aL, ne_aS_aR, ne_aL_aR⟩ ⟨_, E_o, F_keys, F_own, F_sums, F_left, F_right, F_used, F_unused, F_root, A_aK, A_aO, A_aS, A_aL, A_aR⟩ (l1 ++ ka :: r1) l2 Ta (hv245 ▸ B4) (own_nd_l nd) (by simp only [List.length_append, List.length_cons] at hlen ⊢; omega)) rfl rfl (lenOf pd_3 rfl) (by decide) rfl (by decide) (by decide) (by decide) fun r247 h246 qh246 => ?_
        obtain ⟨u248, lf249, rf250, e2, Zh246, Kh246, TT, ee⟩ := qh246
        subst e2
        obtain ⟨sf251, E_o_h246, F_keys_h246, F_own_h246, F_sums_h246, F_left_h246, F_right_h246, F_used_h246, F_unused_h246, F_root_h246, A_aK_h246, A_aO_h246, A_aS_h246, A_aL_h246, A_aR_h246⟩ := Kh246
        obtain ⟨J1, J2⟩ := own_joinL hkb hxb B5 nd TT ee
        show Go K _ _ _ _ _ _ _ _ _ 0 0 h246 72 #[.val (.ref o), .val (.int ja), .val (.int jb)] [(.int u248), (.int jb), (.ref aL)]
        refine Own.iastore (pc' := 73) (i := kb) d_prog_19_method_10_72 rfl A_aL_h246 g_aL hxb hkb fun h252 Wh252 Ah252 => ?_
        have f253 := F_keys_h246.other Wh252 (Or.inl ne_o_aL)
        have f254 := F_own_h246.other Wh252 (Or.inl ne_o_aL)
        have f255 := F_sums_h246.other Wh252 (Or.inl ne_o_aL)
        have f256 := F_left_h246.other Wh252 (Or.inl ne_o_aL)
        have f257 := F_right_h246.other Wh252 (Or.inl ne_o_aL)
        have f258 := F_used_h246.other Wh252 (Or.inl ne_o_aL)
        have f259 := F_unused_h246.other Wh252 (Or.inl ne_o_aL)
        have f260 := F_root_h246.other Wh252 (Or.inl ne_o_aL)
        have f261 := E_o_h246.wr Wh252
        have f262 := A_aK_h246.other Wh252 ne_aK_aL
        have f263 := A_aO_h246.other Wh252 ne_aO_aL
        have f264 := A_aS_h246.other Wh252 ne_aS_aL
        have f265 := A_aR_h246.other Wh252 (Ne.symm ne_aL_aR)
        have Zh252 : n0 ≤ h252.size := by rw [Wh252.size]; exact Zh246
        refine Own.aloadN (pc' := 74) d_prog_19_method_10_73 rfl rfl rfl ?_
        refine Own.iloadN (pc' := 75) d_prog_19_method_10_74 rfl rfl ?_
        refine Own.privat (pc' := 78) (y := (⟨"com/example/lowtide/lowtide/compact/KeyedSums", "resum", "(I)V"⟩ : MethodName)) (rm' := ({ frames := 1, cells := 0, slots := 0, locals := 17 } : Room)) (W := 0) (as := [(.int jb)]) (rest := []) (a := o) d_prog_19_method_10_75 rfl (hw _ (List.mem_of_getElem? (i := 65) rfl)) (hw _ (List.mem_of_getElem? (i := 66) rfl)) (hw _ (List.mem_of_getElem? (i := 2) rfl)) (hw _ (List.mem_of_getElem? (i := 67) rfl)) (hw _ (List.mem_of_getElem? (i := 3) rfl)) (hw _ (List.mem_of_getElem? (i := 68) rfl)) (by decide) f261 (c_resum Z a0 hw n0 h252 Zh252 o jb aK aO aS aL aR kf of (ownSet lf249 kb u248) rf250 us un rt ⟨g_o, g_aK, g_aO, g_aS, g_aL, g_aR, ne_o_aK, ne_o_aO, ne_o_aS, ne_o_aL, ne_o_aR, ne_aK_aO, ne_aK_aS, ne_aK_aL, ne_aK_aR, ne_aO_aS, ne_aO_aL, ne_aO_aR, ne_aS_aL, ne_aS_aR, ne_aL_aR⟩ ⟨_, f261, f253, f254, f255, f256, f257, f258, f259, f260, f262, f263, f264, Ah252, f265⟩ kb hkb hxb (own_Tch J1 hxb).1 (own_Tch J1 hxb).2) rfl rfl (lenOf pd_1 rfl) (by decide) rfl (by decide) (by decide) (by decide) fun r267 h266 qh266 => ?_
        obtain ⟨e2, Zh266, Kh266⟩ := qh266
        subst e2
        obtain ⟨sf268, E_o_h266, F_keys_h266, F_own_h266, F_sums_h266, F_left_h266, F_right_h266, F_used_h266, F_unused_h266, F_root_h266, A_aK_h266, A_aO_h266, A_aS_h266, A_aL_h266, A_aR_h266⟩ := Kh266
        show Go K _ _ _ _ _ _ _ _ _ 0 0 h266 78 #[.val (.ref o), .val (.int ja), .val (.int jb)] []
        refine Own.iloadN (pc' := 79) d_prog_19_method_10_78 rfl rfl ?_
        exact Own.ireturnI d_prog_19_method_10_79 rfl (⟨_, _, _, rfl, Zh266, ⟨_, E_o_h266, F_keys_h266, F_own_h266, F_sums_h266, F_left_h266, F_right_h266, F_used_h266, F_unused_h266, F_root_h266, A_aK_h266, A_aO_h266, A_aS_h266, A_aL_h266, A_aR_h266⟩, J1, J2⟩) (by decide) (by decide)
      · refine Own.aloadN (pc' := 33) d_prog_19_method_10_32 rfl rfl rfl ?_
        refine Own.getfield (pc' := 36) d_prog_19_method_10_33 rfl (host := "") (Or.inl (hw _ (List.mem_of_getElem? (i := 20) rfl))) Via.refl F_right ?_
        refine Own.iloadN (pc' := 37) d_prog_19_method_10_36 rfl rfl ?_
        refine Own.aloadN (pc' := 38) d_prog_19_method_10_37 rfl rfl rfl ?_
        refine Own.aloadN (pc' := 39) d_prog_19_method_10_38 rfl rfl rfl ?_
        refine Own.getfield (pc' := 42) d_prog_19_method_10_39 rfl (host := "") (Or.inl (hw _ (List.mem_of_getElem? (i := 20) rfl))) Via.refl F_right ?_
        refine Own.iloadN (pc' := 43) d_prog_19_method_10_42 rfl rfl ?_
        refine Own.iaload (pc' := 44) (i := ka) d_prog_19_method_10_43 rfl A_aR hxa hka ?_
        obtain ⟨v269, hv269⟩ : ∃ z, z = rf ka := ⟨_, rfl⟩
        rw [← hv269]
        refine Own.iloadN (pc' := 45) d_prog_19_method_10_44 rfl rfl ?_
        refine Own.privat (pc' := 48) (y := (⟨"com/example/lowtide/lowtide/compact/KeyedSums", "join", "(II)I"⟩ : MethodName)) (rm' := ({ frames := 0, cells := 0, slots := 0, locals := 0 } : Room)) (W := 2) (as := [(.int v269), (.int jb)]) (rest := [(.int ja), (.ref aR)]) (a := o) d_prog_19_method_10_45 rfl (hw _ (List.mem_of_getElem? (i := 77) rfl)) (hw _ (List.mem_of_getElem? (i := 78) rfl)) (hw _ (List.mem_of_getElem? (i := 2) rfl)) (hw _ (List.mem_of_getElem? (i := 79) rfl)) (hw _ (List.mem_of_getElem? (i := 3) rfl)) (hw _ (List.mem_of_getElem? (i := 80) rfl)) (by decide) E_o (c_join1 Z a0 hw n0 h hZ0 o v269 jb aK aO aS aL aR kf of lf rf us un rt ⟨g_o, g_aK, g_aO, g_aS, g_aL, g_aR, ne_o_aK, ne_o_aO, ne_o_aS, ne_o_aL, ne_o_aR, ne_aK_aO, ne_aK_aS, ne_aK_aL, ne_aK_aR, ne_aO_aS, ne_aO_aL, ne_aO_aR, ne_aS_aL, ne_aS_aR, ne_aL_aR⟩ ⟨_, E_o, F_keys, F_own, F_sums, F_left, F_right, F_used, F_unused, F_root, A_aK, A_aO, A_aS, A_aL, A_aR⟩ r1 (l2 ++ kb :: r2) (hv269 ▸ A5) Tb (own_nd_r nd) (by simp only [List.length_append, List.length_cons] at hlen ⊢; omega)) rfl rfl (lenOf pd_3 rfl) (by decide) rfl (by decide) (by decide) (by decide) fun r271 h270 qh270 => ?_
        obtain ⟨u272, lf273, rf274, e2, Zh270, Kh270, TT, ee⟩ := qh270
        subst e2
        obtain ⟨sf275, E_o_h270, F_keys_h270, F_own_h270, F_sums_h270, F_left_h270, F_right_h270, F_used_h270, F_unused_h270, F_root_h270, A_aK_h270, A_aO_h270, A_aS_h270, A_aL_h270, A_aR_h270⟩ := Kh270
        obtain ⟨J1, J2⟩ := own_joinR hka hxa A4 nd TT ee
        show Go K _ _ _ _ _ _ _ _ _ 0 0 h270 48 #[.val (.ref o), .val (.int ja), .val (.int jb)] [(.int u272), (.int ja), (.ref aR)]
        refine Own.iastore (pc' := 49) (i := ka) d_prog_19_method_10_48 rfl A_aR_h270 g_aR hxa hka fun h276 Wh276 Ah276 => ?_
        have f277 := F_keys_h270.other Wh276 (Or.inl ne_o_aR)
        have f278 := F_own_h270.other Wh276 (Or.inl ne_o_aR)
        have f279 := F_sums_h270.other Wh276 (Or.inl ne_o_aR)
        have f280 := F_left_h270.other Wh276 (Or.inl ne_o_aR)
        have f281 := F_right_h270.other Wh276 (Or.inl ne_o_aR)
        have f282 := F_used_h270.other Wh276 (Or.inl ne_o_aR)
        have f283 := F_unused_h270.other Wh276 (Or.inl ne_o_aR)
        have f284 := F_root_h270.other Wh276 (Or.inl ne_o_aR)
        have f285 := E_o_h270.wr Wh276
        have f286 := A_aK_h270.other Wh276 ne_aK_aR
        have f287 := A_aO_h270.other Wh276 ne_aO_aR
        have f288 := A_aS_h270.other Wh276 ne_aS_aR
        have f289 := A_aL_h270.other Wh276 ne_aL_aR
        have Zh276 : n0 ≤ h276.size := by rw [Wh276.size]; exact Zh270
        refine Own.aloadN (pc' := 50) d_prog_19_method_10_49 rfl rfl rfl ?_
        refine Own.iloadN (pc' := 51) d_prog_19_method_10_50 rfl rfl ?_
        refine Own.privat (pc' := 54) (y := (⟨"com/example/lowtide/lowtide/compact/KeyedSums", "resum", "(I)V"⟩ : MethodName)) (rm' := ({ frames := 1, cells := 0, slots := 0, locals := 17 } : Room)) (W := 0) (as := [(.int ja)]) (rest := []) (a := o) d_prog_19_method_10_51 rfl (hw _ (List.mem_of_getElem? (i := 65) rfl)) (hw _ (List.mem_of_getElem? (i := 66) rfl)) (hw _ (List.mem_of_getElem? (i := 2) rfl)) (hw _ (List.mem_of_getElem? (i := 67) rfl)) (hw _ (List.mem_of_getElem? (i := 3) rfl)) (hw _ (List.mem_of_getElem? (i := 68) rfl)) (by decide) f285 (c_resum Z a0 hw n0 h276 Zh276 o ja aK aO aS aL aR kf of lf273 (ownSet rf274 ka u272) us un rt ⟨g_o, g_aK, g_aO, g_aS, g_aL, g_aR, ne_o_aK, ne_o_aO, ne_o_aS, ne_o_aL, ne_o_aR, ne_aK_aO, ne_aK_aS, ne_aK_aL, ne_aK_aR, ne_aO_aS, ne_aO_aL, ne_aO_aR, ne_aS_aL, ne_aS_aR, ne_aL_aR⟩ ⟨_, f285, f277, f278, f279, f280, f281, f282, f283, f284, f286, f287, f288, f289, Ah276⟩ ka hka hxa (own_Tch J1 hxa).1 (own_Tch J1 hxa).2) rfl rfl (lenOf pd_1 rfl) (by decide) rfl (by decide) (by decide) (by decide) fun r291 h290 qh290 => ?_
        obtain ⟨e2, Zh290, Kh290⟩ := qh290
        subst e2
        obtain ⟨sf292, E_o_h290, F_keys_h290, F_own_h290, F_sums_h290, F_left_h290, F_right_h290, F_used_h290, F_unused_h290, F_root_h290, A_aK_h290, A_aO_h290, A_aS_h290, A_aL_h290, A_aR_h290⟩ := Kh290
        show Go K _ _ _ _ _ _ _ _ _ 0 0 h290 54 #[.val (.ref o), .val (.int ja), .val (.int jb)] []
        refine Own.iloadN (pc' := 55) d_prog_19_method_10_54 rfl rfl ?_
        exact Own.ireturnI d_prog_19_method_10_55 rfl (⟨_, _, _, rfl, Zh290, ⟨_, E_o_h290, F_keys_h290, F_own_h290, F_sums_h290, F_left_h290, F_right_h290, F_used_h290, F_unused_h290, F_root_h290, A_aK_h290, A_aO_h290, A_aS_h290, A_aL_h290, A_aR_h290⟩, J1, J2⟩) (by decide) (by decide)
    · refine Own.iloadN (pc' := 11) d_prog_19_method_10_10 rfl rfl ?_
      refine Own.iconst (pc' := 12) (v := (-1 : Int32)) d_prog_19_method_10_11 (by decide) rfl ?_
      refine Own.icmp_ne (pc' := 19) (pc2 := 15) d_prog_19_method_10_12 (by decide) (by decide) rfl (fun c12_292 => ?_) (fun c12_292 => False.elim (by exact c12_292 c2_234))
      refine Own.iloadN (pc' := 20) d_prog_19_method_10_19 rfl rfl ?_
      obtain rfl := own_Tz Tb (Decidable.not_not.mp c7_236)
      exact Own.ireturnI d_prog_19_method_10_20 rfl (⟨_, _, _, rfl, hZ0, ⟨_, E_o, F_keys, F_own, F_sums, F_left, F_right, F_used, F_unused, F_root, A_aK, A_aO, A_aS, A_aL, A_aR⟩, by rw [List.append_nil]; exact Ta, fun _ _ => ⟨rfl, rfl⟩⟩) (by decide) (by decide)
set_option maxRecDepth 65536 in
set_option maxHeartbeats 40000000 in
theorem c_join3 (Z : State) (a0 : Array Value) (hw : ∀ d ∈ tables_1, d.before a0 Z = true) (n0 : Nat) (h : Heap) (hZ0 : n0 ≤ h.size) (o : Addr) (ja : Int32) (jb : Int32) (aK aO aS aL aR : Addr) (kf of : Nat → Int64) (lf rf : Nat → Int32) (us un rt : Int32) (D : own_D n0 o aK aO aS aL aR) (KK : own_K Z h o aK aO aS aL aR kf of lf rf us un rt) (la lb : List Nat) (Ta : own_T lf rf ja la) (Tb : own_T lf rf jb lb) (nd : (la ++ lb).Nodup) (hlen : la.length + lb.length ≤ 3) :
    Con Z n0 (⟨"com/example/lowtide/lowtide/compact/KeyedSums", "join", "(II)I"⟩ : MethodName) prog_19_method_10_code 3 (some .int) ({ frames := 3, cells := 0, slots := 0, locals := 46 } : Room) [(.ref o), (.int ja), (.int jb)] h (fun v h' => ∃ z lf' rf', v = some (.int z) ∧ n0 ≤ h'.size ∧ own_K Z h' o aK aO aS aL aR kf of lf' rf' us un rt ∧ own_T lf' rf' z (la ++ lb) ∧ ∀ t, t ∉ la ++ lb → lf' t = lf t ∧ rf' t = rf t) := by
  refine Own.enter (plainFor_of_name pn_0) (L0 := #[.val (.ref o), .val (.int ja), .val (.int jb)]) (fun m => by first | (simp [entryFrame, mkF, argsToLocals, Value.category]; done) | rfl) fun K => ?_
  show Go K _ _ _ _ _ _ "com/example/lowtide/lowtide/compact/KeyedSums" "join" _ 0 0 h 0 #[.val (.ref o), .val (.int ja), .val (.int jb)] []
  obtain ⟨g_o, g_aK, g_aO, g_aS, g_aL, g_aR, ne_o_aK, ne_o_aO, ne_o_aS, ne_o_aL, ne_o_aR, ne_aK_aO, ne_aK_aS, ne_aK_aL, ne_aK_aR, ne_aO_aS, ne_aO_aL, ne_aO_aR, ne_aS_aL, ne_aS_aR, ne_aL_aR⟩ := D
  obtain ⟨sf, E_o, F_keys, F_own, F_sums, F_left, F_right, F_used, F_unused, F_root, A_aK, A_aO, A_aS, A_aL, A_aR⟩ := KK
  refine Own.iloadN (pc' := 1) d_prog_19_method_10_0 rfl rfl ?_
  refine Own.iconst (pc' := 2) (v := (-1 : Int32)) d_prog_19_method_10_1 (by decide) rfl ?_
  refine Own.icmp_eq (pc' := 10) (pc2 := 5) d_prog_19_method_10_2 (by decide) (by decide) rfl (fun c2_293 => ?_) (fun c2_293 => ?_)
  · refine Own.iloadN (pc' := 11) d_prog_19_method_10_10 rfl rfl ?_
    refine Own.iconst (pc' := 12) (v := (-1 : Int32)) d_prog_19_method_10_11 (by decide) rfl ?_
    refine Own.icmp_ne (pc' := 19) (pc2 := 15) d_prog_19_method_10_12 (by decide) (by decide) rfl (fun c12_294 => False.elim (by exact c12_294 c2_293)) (fun c12_294 => ?_)
    refine Own.iloadN (pc' := 16) d_prog_19_method_10_15 rfl rfl ?_
    refine Own.goto (pc' := 20) d_prog_19_method_10_16 (by decide) (by decide) ?_
    obtain rfl := own_Tz Ta c2_293
    exact Own.ireturnI d_prog_19_method_10_20 rfl (⟨_, _, _, rfl, hZ0, ⟨_, E_o, F_keys, F_own, F_sums, F_left, F_right, F_used, F_unused, F_root, A_aK, A_aO, A_aS, A_aL, A_aR⟩, by rw [List.nil_append]; exact Tb, fun _ _ => ⟨rfl, rfl⟩⟩) (by decide) (by decide)
  · refine Own.iloadN (pc' := 6) d_prog_19_method_10_5 rfl rfl ?_
    refine Own.iconst (pc' := 7) (v := (-1 : Int32)) d_prog_19_method_10_6 (by decide) rfl ?_
    refine Own.icmp_ne (pc' := 21) (pc2 := 10) d_prog_19_method_10_7 (by decide) (by decide) rfl (fun c7_295 => ?_) (fun c7_295 => ?_)
    · obtain ⟨ka, l1, r1, hka, hxa, rfl, A4, A5⟩ := own_Tn1 Ta c2_293
      obtain ⟨kb, l2, r2, hkb, hxb, rfl, B4, B5⟩ := own_Tn1 Tb c7_295
      refine Own.iloadN (pc' := 22) d_prog_19_method_10_21 rfl rfl ?_
      refine Own.static (pc' := 25) (y := (⟨"com/example/lowtide/lowtide/compact/KeyedSums", "rank", "(I)I"⟩ : MethodName)) (rm' := ({ frames := 0, cells := 0, slots := 0, locals := 0 } : Room)) (W := 0) (as := [(.int ja)]) (rest := []) d_prog_19_method_10_22 rfl (hw _ (List.mem_of_getElem? (i := 55) rfl)) (hw _ (List.mem_of_getElem? (i := 56) rfl)) (hw _ (List.mem_of_getElem? (i := 3) rfl)) (hw _ (List.mem_of_getElem? (i := 57) rfl)) (by decide) (c_rank Z a0 hw n0 h hZ0 ja) rfl rfl (lenOf pd_2 rfl) (by decide) rfl (by decide) (by decide) (by decide) fun r298 h297 qh297 => ?_
      obtain ⟨u299, e2, e1⟩ := qh297
      subst e1 e2
      show Go K _ _ _ _ _ _ _ _ _ 0 0 h 25 #[.val (.ref o), .val (.int ja), .val (.int jb)] [(.int u299)]
      refine Own.iloadN (pc' := 26) d_prog_19_method_10_25 rfl rfl ?_
      refine Own.static (pc' := 29) (y := (⟨"com/example/lowtide/lowtide/compact/KeyedSums", "rank", "(I)I"⟩ : MethodName)) (rm' := ({ frames := 0, cells := 0, slots := 0, locals := 0 } : Room)) (W := 1) (as := [(.int jb)]) (rest := [(.int u299)]) d_prog_19_method_10_26 rfl (hw _ (List.mem_of_getElem? (i := 55) rfl)) (hw _ (List.mem_of_getElem? (i := 56) rfl)) (hw _ (List.mem_of_getElem? (i := 3) rfl)) (hw _ (List.mem_of_getElem? (i := 57) rfl)) (by decide) (c_rank Z a0 hw n0 h hZ0 jb) rfl rfl (lenOf pd_2 rfl) (by decide) rfl (by decide) (by decide) (by decide) fun r301 h300 qh300 => ?_
      obtain ⟨u302, e2, e1⟩ := qh300
      subst e1 e2
      show Go K _ _ _ _ _ _ _ _ _ 0 0 h 29 #[.val (.ref o), .val (.int ja), .val (.int jb)] [(.int u302), (.int u299)]
      refine Own.icmp_le (pc' := 56) (pc2 := 32) d_prog_19_method_10_29 (by decide) (by decide) rfl (fun c29_302 => ?_) (fun c29_302 => ?_)
      · refine Own.aloadN (pc' := 57) d_prog_19_method_10_56 rfl rfl rfl ?_
        refine Own.getfield (pc' := 60) d_prog_19_method_10_57 rfl (host := "") (Or.inl (hw _ (List.mem_of_getElem? (i := 18) rfl))) Via.refl F_left ?_
        refine Own.iloadN (pc' := 61) d_prog_19_method_10_60 rfl rfl ?_
        refine Own.aloadN (pc' := 62) d_prog_19_method_10_61 rfl rfl rfl ?_
        refine Own.iloadN (pc' := 63) d_prog_19_method_10_62 rfl rfl ?_
        refine Own.aloadN (pc' := 64) d_prog_19_method_10_63 rfl rfl rfl ?_
        refine Own.getfield (pc' := 67) d_prog_19_method_10_64 rfl (host := "") (Or.inl (hw _ (List.mem_of_getElem? (i := 18) rfl))) Via.refl F_left ?_
        refine Own.iloadN (pc' := 68) d_prog_19_method_10_67 rfl rfl ?_
        refine Own.iaload (pc' := 69) (i := kb) d_prog_19_method_10_68 rfl A_aL hxb hkb ?_
        obtain ⟨v304, hv304⟩ : ∃ z, z = lf kb := ⟨_, rfl⟩
        rw [← hv304]
        refine Own.privat (pc' := 72) (y := (⟨"com/example/lowtide/lowtide/compact/KeyedSums", "join", "(II)I"⟩ : MethodName)) (rm' := ({ frames := 2, cells := 0, slots := 0, locals := 30 } : Room)) (W := 2) (as := [(.int ja), (.int v304)]) (rest := [(.int jb), (.ref aL)]) (a := o) d_prog_19_method_10_69 rfl (hw _ (List.mem_of_getElem? (i := 77) rfl)) (hw _ (List.mem_of_getElem? (i := 78) rfl)) (hw _ (List.mem_of_getElem? (i := 2) rfl)) (hw _ (List.mem_of_getElem? (i := 79) rfl)) (hw _ (List.mem_of_getElem? (i := 3) rfl)) (hw _ (List.mem_of_getElem? (i := 80) rfl)) (by decide) E_o (c_join2 Z a0 hw n0 h hZ0 o ja v304 aK aO aS aL aR kf of lf rf us un rt ⟨g_o, g_aK, g_aO, g_aS, g_aL, g_aR, ne_o_aK, ne_o_aO, ne_o_aS, ne_o_aL, ne_o_aR, ne_aK_aO, ne_aK_aS, ne_aK_aL, ne_aK_aR, ne_aO_aS, ne_aO_aL, ne_aO_aR, ne_aS_aL, ne_aS_aR, ne_aL_aR⟩ ⟨_, E_o, F_keys, F_own, F_sums, F_left, F_right, F_used, F_unused, F_root, A_aK, A_aO, A_aS, A_aL, A_aR⟩ (l1 ++ ka :: r1) l2 Ta (hv304 ▸ B4) (own_nd_l nd) (by simp only [List.length_append, List.length_cons] at hlen ⊢; omega)) rfl rfl (lenOf pd_3 rfl) (by decide) rfl (by decide) (by decide) (by decide) fun r306 h305 qh305 => ?_
        obtain ⟨u307, lf308, rf309, e2, Zh305, Kh305, TT, ee⟩ := qh305
        subst e2
        obtain ⟨sf310, E_o_h305, F_keys_h305, F_own_h305, F_sums_h305, F_left_h305, F_right_h305, F_used_h305, F_unused_h305, F_root_h305, A_aK_h305, A_aO_h305, A_aS_h305, A_aL_h305, A_aR_h305⟩ := Kh305
        obtain ⟨J1, J2⟩ := own_joinL hkb hxb B5 nd TT ee
        show Go K _ _ _ _ _ _ _ _ _ 0 0 h305 72 #[.val (.ref o), .val (.int ja), .val (.int jb)] [(.int u307), (.int jb), (.ref aL)]
        refine Own.iastore (pc' := 73) (i := kb) d_prog_19_method_10_72 rfl A_aL_h305 g_aL hxb hkb fun h311 Wh311 Ah311 => ?_
        have f312 := F_keys_h305.other Wh311 (Or.inl ne_o_aL)
        have f313 := F_own_h305.other Wh311 (Or.inl ne_o_aL)
        have f314 := F_sums_h305.other Wh311 (Or.inl ne_o_aL)
        have f315 := F_left_h305.other Wh311 (Or.inl ne_o_aL)
        have f316 := F_right_h305.other Wh311 (Or.inl ne_o_aL)
        have f317 := F_used_h305.other Wh311 (Or.inl ne_o_aL)
        have f318 := F_unused_h305.other Wh311 (Or.inl ne_o_aL)
        have f319 := F_root_h305.other Wh311 (Or.inl ne_o_aL)
        have f320 := E_o_h305.wr Wh311
        have f321 := A_aK_h305.other Wh311 ne_aK_aL
        have f322 := A_aO_h305.other Wh311 ne_aO_aL
        have f323 := A_aS_h305.other Wh311 ne_aS_aL
        have f324 := A_aR_h305.other Wh311 (Ne.symm ne_aL_aR)
        have Zh311 : n0 ≤ h311.size := by rw [Wh311.size]; exact Zh305
        refine Own.aloadN (pc' := 74) d_prog_19_method_10_73 rfl rfl rfl ?_
        refine Own.iloadN (pc' := 75) d_prog_19_method_10_74 rfl rfl ?_
        refine Own.privat (pc' := 78) (y := (⟨"com/example/lowtide/lowtide/compact/KeyedSums", "resum", "(I)V"⟩ : MethodName)) (rm' := ({ frames := 1, cells := 0, slots := 0, locals := 17 } : Room)) (W := 0) (as := [(.int jb)]) (rest := []) (a := o) d_prog_19_method_10_75 rfl (hw _ (List.mem_of_getElem? (i := 65) rfl)) (hw _ (List.mem_of_getElem? (i := 66) rfl)) (hw _ (List.mem_of_getElem? (i := 2) rfl)) (hw _ (List.mem_of_getElem? (i := 67) rfl)) (hw _ (List.mem_of_getElem? (i := 3) rfl)) (hw _ (List.mem_of_getElem? (i := 68) rfl)) (by decide) f320 (c_resum Z a0 hw n0 h311 Zh311 o jb aK aO aS aL aR kf of (ownSet lf308 kb u307) rf309 us un rt ⟨g_o, g_aK, g_aO, g_aS, g_aL, g_aR, ne_o_aK, ne_o_aO, ne_o_aS, ne_o_aL, ne_o_aR, ne_aK_aO, ne_aK_aS, ne_aK_aL, ne_aK_aR, ne_aO_aS, ne_aO_aL, ne_aO_aR, ne_aS_aL, ne_aS_aR, ne_aL_aR⟩ ⟨_, f320, f312, f313, f314, f315, f316, f317, f318, f319, f321, f322, f323, Ah311, f324⟩ kb hkb hxb (own_Tch J1 hxb).1 (own_Tch J1 hxb).2) rfl rfl (lenOf pd_1 rfl) (by decide) rfl (by decide) (by decide) (by decide) fun r326 h325 qh325 => ?_
        obtain ⟨e2, Zh325, Kh325⟩ := qh325
        subst e2
        obtain ⟨sf327, E_o_h325, F_keys_h325, F_own_h325, F_sums_h325, F_left_h325, F_right_h325, F_used_h325, F_unused_h325, F_root_h325, A_aK_h325, A_aO_h325, A_aS_h325, A_aL_h325, A_aR_h325⟩ := Kh325
        show Go K _ _ _ _ _ _ _ _ _ 0 0 h325 78 #[.val (.ref o), .val (.int ja), .val (.int jb)] []
        refine Own.iloadN (pc' := 79) d_prog_19_method_10_78 rfl rfl ?_
        exact Own.ireturnI d_prog_19_method_10_79 rfl (⟨_, _, _, rfl, Zh325, ⟨_, E_o_h325, F_keys_h325, F_own_h325, F_sums_h325, F_left_h325, F_right_h325, F_used_h325, F_unused_h325, F_root_h325, A_aK_h325, A_aO_h325, A_aS_h325, A_aL_h325, A_aR_h325⟩, J1, J2⟩) (by decide) (by decide)
      · refine Own.aloadN (pc' := 33) d_prog_19_method_10_32 rfl rfl rfl ?_
        refine Own.getfield (pc' := 36) d_prog_19_method_10_33 rfl (host := "") (Or.inl (hw _ (List.mem_of_getElem? (i := 20) rfl))) Via.refl F_right ?_
        refine Own.iloadN (pc' := 37) d_prog_19_method_10_36 rfl rfl ?_
        refine Own.aloadN (pc' := 38) d_prog_19_method_10_37 rfl rfl rfl ?_
        refine Own.aloadN (pc' := 39) d_prog_19_method_10_38 rfl rfl rfl ?_
        refine Own.getfield (pc' := 42) d_prog_19_method_10_39 rfl (host := "") (Or.inl (hw _ (List.mem_of_getElem? (i := 20) rfl))) Via.refl F_right ?_
        refine Own.iloadN (pc' := 43) d_prog_19_method_10_42 rfl rfl ?_
        refine Own.iaload (pc' := 44) (i := ka) d_prog_19_method_10_43 rfl A_aR hxa hka ?_
        obtain ⟨v328, hv328⟩ : ∃ z, z = rf ka := ⟨_, rfl⟩
        rw [← hv328]
        refine Own.iloadN (pc' := 45) d_prog_19_method_10_44 rfl rfl ?_
        refine Own.privat (pc' := 48) (y := (⟨"com/example/lowtide/lowtide/compact/KeyedSums", "join", "(II)I"⟩ : MethodName)) (rm' := ({ frames := 2, cells := 0, slots := 0, locals := 30 } : Room)) (W := 2) (as := [(.int v328), (.int jb)]) (rest := [(.int ja), (.ref aR)]) (a := o) d_prog_19_method_10_45 rfl (hw _ (List.mem_of_getElem? (i := 77) rfl)) (hw _ (List.mem_of_getElem? (i := 78) rfl)) (hw _ (List.mem_of_getElem? (i := 2) rfl)) (hw _ (List.mem_of_getElem? (i := 79) rfl)) (hw _ (List.mem_of_getElem? (i := 3) rfl)) (hw _ (List.mem_of_getElem? (i := 80) rfl)) (by decide) E_o (c_join2 Z a0 hw n0 h hZ0 o v328 jb aK aO aS aL aR kf of lf rf us un rt ⟨g_o, g_aK, g_aO, g_aS, g_aL, g_aR, ne_o_aK, ne_o_aO, ne_o_aS, ne_o_aL, ne_o_aR, ne_aK_aO, ne_aK_aS, ne_aK_aL, ne_aK_aR, ne_aO_aS, ne_aO_aL, ne_aO_aR, ne_aS_aL, ne_aS_aR, ne_aL_aR⟩ ⟨_, E_o, F_keys, F_own, F_sums, F_left, F_right, F_used, F_unused, F_root, A_aK, A_aO, A_aS, A_aL, A_aR⟩ r1 (l2 ++ kb :: r2) (hv328 ▸ A5) Tb (own_nd_r nd) (by simp only [List.length_append, List.length_cons] at hlen ⊢; omega)) rfl rfl (lenOf pd_3 rfl) (by decide) rfl (by decide) (by decide) (by decide) fun r330 h329 qh329 => ?_
        obtain ⟨u331, lf332, rf333, e2, Zh329, Kh329, TT, ee⟩ := qh329
        subst e2
        obtain ⟨sf334, E_o_h329, F_keys_h329, F_own_h329, F_sums_h329, F_left_h329, F_right_h329, F_used_h329, F_unused_h329, F_root_h329, A_aK_h329, A_aO_h329, A_aS_h329, A_aL_h329, A_aR_h329⟩ := Kh329
        obtain ⟨J1, J2⟩ := own_joinR hka hxa A4 nd TT ee
        show Go K _ _ _ _ _ _ _ _ _ 0 0 h329 48 #[.val (.ref o), .val (.int ja), .val (.int jb)] [(.int u331), (.int ja), (.ref aR)]
        refine Own.iastore (pc' := 49) (i := ka) d_prog_19_method_10_48 rfl A_aR_h329 g_aR hxa hka fun h335 Wh335 Ah335 => ?_
        have f336 := F_keys_h329.other Wh335 (Or.inl ne_o_aR)
        have f337 := F_own_h329.other Wh335 (Or.inl ne_o_aR)
        have f338 := F_sums_h329.other Wh335 (Or.inl ne_o_aR)
        have f339 := F_left_h329.other Wh335 (Or.inl ne_o_aR)
        have f340 := F_right_h329.other Wh335 (Or.inl ne_o_aR)
        have f341 := F_used_h329.other Wh335 (Or.inl ne_o_aR)
        have f342 := F_unused_h329.other Wh335 (Or.inl ne_o_aR)
        have f343 := F_root_h329.other Wh335 (Or.inl ne_o_aR)
        have f344 := E_o_h329.wr Wh335
        have f345 := A_aK_h329.other Wh335 ne_aK_aR
        have f346 := A_aO_h329.other Wh335 ne_aO_aR
        have f347 := A_aS_h329.other Wh335 ne_aS_aR
        have f348 := A_aL_h329.other Wh335 ne_aL_aR
        have Zh335 : n0 ≤ h335.size := by rw [Wh335.size]; exact Zh329
        refine Own.aloadN (pc' := 50) d_prog_19_method_10_49 rfl rfl rfl ?_
        refine Own.iloadN (pc' := 51) d_prog_19_method_10_50 rfl rfl ?_
        refine Own.privat (pc' := 54) (y := (⟨"com/example/lowtide/lowtide/compact/KeyedSums", "resum", "(I)V"⟩ : MethodName)) (rm' := ({ frames := 1, cells := 0, slots := 0, locals := 17 } : Room)) (W := 0) (as := [(.int ja)]) (rest := []) (a := o) d_prog_19_method_10_51 rfl (hw _ (List.mem_of_getElem? (i := 65) rfl)) (hw _ (List.mem_of_getElem? (i := 66) rfl)) (hw _ (List.mem_of_getElem? (i := 2) rfl)) (hw _ (List.mem_of_getElem? (i := 67) rfl)) (hw _ (List.mem_of_getElem? (i := 3) rfl)) (hw _ (List.mem_of_getElem? (i := 68) rfl)) (by decide) f344 (c_resum Z a0 hw n0 h335 Zh335 o ja aK aO aS aL aR kf of lf332 (ownSet rf333 ka u331) us un rt ⟨g_o, g_aK, g_aO, g_aS, g_aL, g_aR, ne_o_aK, ne_o_aO, ne_o_aS, ne_o_aL, ne_o_aR, ne_aK_aO, ne_aK_aS, ne_aK_aL, ne_aK_aR, ne_aO_aS, ne_aO_aL, ne_aO_aR, ne_aS_aL, ne_aS_aR, ne_aL_aR⟩ ⟨_, f344, f336, f337, f338, f339, f340, f341, f342, f343, f345, f346, f347, f348, Ah335⟩ ka hka hxa (own_Tch J1 hxa).1 (own_Tch J1 hxa).2) rfl rfl (lenOf pd_1 rfl) (by decide) rfl (by decide) (by decide) (by decide) fun r350 h349 qh349 => ?_
        obtain ⟨e2, Zh349, Kh349⟩ := qh349
        subst e2
        obtain ⟨sf351, E_o_h349, F_keys_h349, F_own_h349, F_sums_h349, F_left_h349, F_right_h349, F_used_h349, F_unused_h349, F_root_h349, A_aK_h349, A_aO_h349, A_aS_h349, A_aL_h349, A_aR_h349⟩ := Kh349
        show Go K _ _ _ _ _ _ _ _ _ 0 0 h349 54 #[.val (.ref o), .val (.int ja), .val (.int jb)] []
        refine Own.iloadN (pc' := 55) d_prog_19_method_10_54 rfl rfl ?_
        exact Own.ireturnI d_prog_19_method_10_55 rfl (⟨_, _, _, rfl, Zh349, ⟨_, E_o_h349, F_keys_h349, F_own_h349, F_sums_h349, F_left_h349, F_right_h349, F_used_h349, F_unused_h349, F_root_h349, A_aK_h349, A_aO_h349, A_aS_h349, A_aL_h349, A_aR_h349⟩, J1, J2⟩) (by decide) (by decide)
    · refine Own.iloadN (pc' := 11) d_prog_19_method_10_10 rfl rfl ?_
      refine Own.iconst (pc' := 12) (v := (-1 : Int32)) d_prog_19_method_10_11 (by decide) rfl ?_
      refine Own.icmp_ne (pc' := 19) (pc2 := 15) d_prog_19_method_10_12 (by decide) (by decide) rfl (fun c12_351 => ?_) (fun c12_351 => False.elim (by exact c12_351 c2_293))
      refine Own.iloadN (pc' := 20) d_prog_19_method_10_19 rfl rfl ?_
      obtain rfl := own_Tz Tb (Decidable.not_not.mp c7_295)
      exact Own.ireturnI d_prog_19_method_10_20 rfl (⟨_, _, _, rfl, hZ0, ⟨_, E_o, F_keys, F_own, F_sums, F_left, F_right, F_used, F_unused, F_root, A_aK, A_aO, A_aS, A_aL, A_aR⟩, by rw [List.append_nil]; exact Ta, fun _ _ => ⟨rfl, rfl⟩⟩) (by decide) (by decide)
set_option maxRecDepth 65536 in
set_option maxHeartbeats 40000000 in
theorem c_add0 (Z : State) (a0 : Array Value) (hw : ∀ d ∈ tables_1, d.before a0 Z = true) (n0 : Nat) (h : Heap) (hZ0 : n0 ≤ h.size) (o : Addr) (nx : Int32) (ky : Int64) (wt : Int64) (aK aO aS aL aR : Addr) (kf of : Nat → Int64) (lf rf : Nat → Int32) (us un rt : Int32) (D : own_D n0 o aK aO aS aL aR) (KK : own_K Z h o aK aO aS aL aR kf of lf rf us un rt) (U : Nat) (ps : List Nat) (T : own_T lf rf nx ps) (hS : own_S (own_c kf of ps)) (hU16 : U < 16) (hus : us.toInt = (U : Int)) (hlt : ∀ p ∈ ps, p < U) (hun : un = -1) (hlen : ps.length ≤ 0) :
    Con Z n0 (⟨"com/example/lowtide/lowtide/compact/KeyedSums", "add", "(IJJ)I"⟩ : MethodName) prog_19_method_9_code 7 (some .int) ({ frames := 1, cells := 0, slots := 0, locals := 18 } : Room) [(.ref o), (.int nx), (.long ky), (.long wt)] h (fun v h' => ∃ z qs kf' of' lf' rf' us' un', v = some (.int z) ∧ n0 ≤ h'.size ∧ own_K Z h' o aK aO aS aL aR kf' of' lf' rf' us' un' rt ∧ own_A kf of lf rf us un U ky wt ps kf' of' lf' rf' us' un' z qs) := by
  refine Own.enter (plainFor_of_name pn_0) (L0 := #[.val (.ref o), .val (.int nx), .val (.long ky), .second, .val (.long wt), .second, .unset]) (fun m => by first | (simp [entryFrame, mkF, argsToLocals, Value.category]; done) | rfl) fun K => ?_
  show Go K _ _ _ _ _ _ "com/example/lowtide/lowtide/compact/KeyedSums" "add" _ 0 0 h 0 #[.val (.ref o), .val (.int nx), .val (.long ky), .second, .val (.long wt), .second, .unset] []
  obtain ⟨g_o, g_aK, g_aO, g_aS, g_aL, g_aR, ne_o_aK, ne_o_aO, ne_o_aS, ne_o_aL, ne_o_aR, ne_aK_aO, ne_aK_aS, ne_aK_aL, ne_aK_aR, ne_aO_aS, ne_aO_aL, ne_aO_aR, ne_aS_aL, ne_aS_aR, ne_aL_aR⟩ := D
  obtain ⟨sf, E_o, F_keys, F_own, F_sums, F_left, F_right, F_used, F_unused, F_root, A_aK, A_aO, A_aS, A_aL, A_aR⟩ := KK
  refine Own.iloadN (pc' := 1) d_prog_19_method_9_0 rfl rfl ?_
  refine Own.iconst (pc' := 2) (v := (-1 : Int32)) d_prog_19_method_9_1 (by decide) rfl ?_
  refine Own.icmp_ne (pc' := 13) (pc2 := 5) d_prog_19_method_9_2 (by decide) (by decide) rfl (fun c2_352 => ?_) (fun c2_352 => ?_)
  · obtain ⟨k0, l, r, hk0, hx, rfl, T4, T5⟩ := own_Tn1 T c2_352
    exfalso
    simp only [List.length_append, List.length_cons] at hlen
    omega
  · refine Own.aloadN (pc' := 6) d_prog_19_method_9_5 rfl rfl rfl ?_
    refine Own.lloadN (pc' := 7) d_prog_19_method_9_6 rfl rfl ?_
    refine Own.lload (pc' := 9) d_prog_19_method_9_7 rfl rfl ?_
    refine Own.privat (pc' := 12) (y := (⟨"com/example/lowtide/lowtide/compact/KeyedSums", "place", "(JJ)I"⟩ : MethodName)) (rm' := ({ frames := 0, cells := 0, slots := 0, locals := 0 } : Room)) (W := 0) (as := [(.long ky), (.long wt)]) (rest := []) (a := o) d_prog_19_method_9_9 rfl (hw _ (List.mem_of_getElem? (i := 35) rfl)) (hw _ (List.mem_of_getElem? (i := 36) rfl)) (hw _ (List.mem_of_getElem? (i := 2) rfl)) (hw _ (List.mem_of_getElem? (i := 37) rfl)) (hw _ (List.mem_of_getElem? (i := 3) rfl)) (hw _ (List.mem_of_getElem? (i := 38) rfl)) (by decide) E_o (c_place Z a0 hw n0 h hZ0 o ky wt aK aO aS aL aR kf of lf rf us un rt ⟨g_o, g_aK, g_aO, g_aS, g_aL, g_aR, ne_o_aK, ne_o_aO, ne_o_aS, ne_o_aL, ne_o_aR, ne_aK_aO, ne_aK_aS, ne_aK_aL, ne_aK_aR, ne_aO_aS, ne_aO_aL, ne_aO_aR, ne_aS_aL, ne_aS_aR, ne_aL_aR⟩ ⟨_, E_o, F_keys, F_own, F_sums, F_left, F_right, F_used, F_unused, F_root, A_aK, A_aO, A_aS, A_aL, A_aR⟩ U hU16 hus hun) rfl rfl (lenOf pd_4 rfl) (by decide) rfl (by decide) (by decide) (by decide) fun r355 h354 qh354 => ?_
    obtain ⟨u356, e2, hzu356, Zh354, Kh354⟩ := qh354
    subst e2
    obtain ⟨sf357, E_o_h354, F_keys_h354, F_own_h354, F_sums_h354, F_left_h354, F_right_h354, F_used_h354, F_unused_h354, F_root_h354, A_aK_h354, A_aO_h354, A_aS_h354, A_aL_h354, A_aR_h354⟩ := Kh354
    show Go K _ _ _ _ _ _ _ _ _ 0 0 h354 12 #[.val (.ref o), .val (.int nx), .val (.long ky), .second, .val (.long wt), .second, .unset] [(.int u356)]
    obtain rfl := own_Tz T (Decidable.not_not.mp c2_352)
    exact Own.ireturnI d_prog_19_method_9_12 rfl (⟨_, _, _, _, _, _, _, _, rfl, Zh354, ⟨_, E_o_h354, F_keys_h354, F_own_h354, F_sums_h354, F_left_h354, F_right_h354, F_used_h354, F_unused_h354, F_root_h354, A_aK_h354, A_aO_h354, A_aS_h354, A_aL_h354, A_aR_h354⟩, own_A_new hU16 hus hzu356⟩) (by decide) (by decide)
set_option maxRecDepth 65536 in
set_option maxHeartbeats 40000000 in
theorem c_add1 (Z : State) (a0 : Array Value) (hw : ∀ d ∈ tables_1, d.before a0 Z = true) (n0 : Nat) (h : Heap) (hZ0 : n0 ≤ h.size) (o : Addr) (nx : Int32) (ky : Int64) (wt : Int64) (aK aO aS aL aR : Addr) (kf of : Nat → Int64) (lf rf : Nat → Int32) (us un rt : Int32) (D : own_D n0 o aK aO aS aL aR) (KK : own_K Z h o aK aO aS aL aR kf of lf rf us un rt) (U : Nat) (ps : List Nat) (T : own_T lf rf nx ps) (hS : own_S (own_c kf of ps)) (hU16 : U < 16) (hus : us.toInt = (U : Int)) (hlt : ∀ p ∈ ps, p < U) (hun : un = -1) (hlen : ps.length ≤ 1) :
    Con Z n0 (⟨"com/example/lowtide/lowtide/compact/KeyedSums", "add", "(IJJ)I"⟩ : MethodName) prog_19_method_9_code 7 (some .int) ({ frames := 3, cells := 0, slots := 0, locals := 44 } : Room) [(.ref o), (.int nx), (.long ky), (.long wt)] h (fun v h' => ∃ z qs kf' of' lf' rf' us' un', v = some (.int z) ∧ n0 ≤ h'.size ∧ own_K Z h' o aK aO aS aL aR kf' of' lf' rf' us' un' rt ∧ own_A kf of lf rf us un U ky wt ps kf' of' lf' rf' us' un' z qs) := by
  refine Own.enter (plainFor_of_name pn_0) (L0 := #[.val (.ref o), .val (.int nx), .val (.long ky), .second, .val (.long wt), .second, .unset]) (fun m => by first | (simp [entryFrame, mkF, argsToLocals, Value.category]; done) | rfl) fun K => ?_
  show Go K _ _ _ _ _ _ "com/example/lowtide/lowtide/compact/KeyedSums" "add" _ 0 0 h 0 #[.val (.ref o), .val (.int nx), .val (.long ky), .second, .val (.long wt), .second, .unset] []
  obtain ⟨g_o, g_aK, g_aO, g_aS, g_aL, g_aR, ne_o_aK, ne_o_aO, ne_o_aS, ne_o_aL, ne_o_aR, ne_aK_aO, ne_aK_aS, ne_aK_aL, ne_aK_aR, ne_aO_aS, ne_aO_aL, ne_aO_aR, ne_aS_aL, ne_aS_aR, ne_aL_aR⟩ := D
  obtain ⟨sf, E_o, F_keys, F_own, F_sums, F_left, F_right, F_used, F_unused, F_root, A_aK, A_aO, A_aS, A_aL, A_aR⟩ := KK
  refine Own.iloadN (pc' := 1) d_prog_19_method_9_0 rfl rfl ?_
  refine Own.iconst (pc' := 2) (v := (-1 : Int32)) d_prog_19_method_9_1 (by decide) rfl ?_
  refine Own.icmp_ne (pc' := 13) (pc2 := 5) d_prog_19_method_9_2 (by decide) (by decide) rfl (fun c2_357 => ?_) (fun c2_357 => ?_)
  · obtain ⟨k0, l, r, hk0, hx, rfl, T4, T5⟩ := own_Tn1 T c2_357
    have hl1 : l.length ≤ 0 ∧ r.length ≤ 0 ∧ l.length + r.length ≤ 0 := by simp only [List.length_append, List.length_cons] at hlen; omega
    refine Own.aloadN (pc' := 14) d_prog_19_method_9_13 rfl rfl rfl ?_
    refine Own.getfield (pc' := 17) d_prog_19_method_9_14 rfl (host := "") (Or.inl (hw _ (List.mem_of_getElem? (i := 15) rfl))) Via.refl F_sums ?_
    refine Own.iloadN (pc' := 18) d_prog_19_method_9_17 rfl rfl ?_
    refine Own.dup2 (pc' := 19) d_prog_19_method_9_18 rfl rfl rfl ?_
    refine Own.laload (pc' := 20) (i := k0) d_prog_19_method_9_19 rfl A_aS hx hk0 ?_
    obtain ⟨v359, hv359⟩ : ∃ z, z = sf k0 := ⟨_, rfl⟩
    rw [← hv359]
    refine Own.lload (pc' := 22) d_prog_19_method_9_20 rfl rfl ?_
    refine Own.ladd (pc' := 23) d_prog_19_method_9_22 rfl fun v360 hv360 => ?_
    refine Own.lastore (pc' := 24) (i := k0) d_prog_19_method_9_23 rfl A_aS g_aS hx hk0 fun h361 Wh361 Ah361 => ?_
    have f362 := F_keys.other Wh361 (Or.inl ne_o_aS)
    have f363 := F_own.other Wh361 (Or.inl ne_o_aS)
    have f364 := F_sums.other Wh361 (Or.inl ne_o_aS)
    have f365 := F_left.other Wh361 (Or.inl ne_o_aS)
    have f366 := F_right.other Wh361 (Or.inl ne_o_aS)
    have f367 := F_used.other Wh361 (Or.inl ne_o_aS)
    have f368 := F_unused.other Wh361 (Or.inl ne_o_aS)
    have f369 := F_root.other Wh361 (Or.inl ne_o_aS)
    have f370 := E_o.wr Wh361
    have f371 := A_aK.other Wh361 ne_aK_aS
    have f372 := A_aO.other Wh361 ne_aO_aS
    have f373 := A_aL.other Wh361 (Ne.symm ne_aS_aL)
    have f374 := A_aR.other Wh361 (Ne.symm ne_aS_aR)
    have Zh361 : n0 ≤ h361.size := by rw [Wh361.size]; exact hZ0
    refine Own.lloadN (pc' := 25) d_prog_19_method_9_24 rfl rfl ?_
    refine Own.aloadN (pc' := 26) d_prog_19_method_9_25 rfl rfl rfl ?_
    refine Own.getfield (pc' := 29) d_prog_19_method_9_26 rfl (host := "") (Or.inl (hw _ (List.mem_of_getElem? (i := 11) rfl))) Via.refl f362 ?_
    refine Own.iloadN (pc' := 30) d_prog_19_method_9_29 rfl rfl ?_
    refine Own.laload (pc' := 31) (i := k0) d_prog_19_method_9_30 rfl f371 hx hk0 ?_
    obtain ⟨v375, hv375⟩ : ∃ z, z = kf k0 := ⟨_, rfl⟩
    rw [← hv375]
    refine Own.lcmp_ne (pc1 := 32) (pc' := 85) (pc2 := 35) d_prog_19_method_9_31 rfl d_prog_19_method_9_32 (by decide) (by decide) rfl (fun c31_375 => ?_) (fun c31_375 => ?_)
    · refine Own.lloadN (pc' := 86) d_prog_19_method_9_85 rfl rfl ?_
      refine Own.aloadN (pc' := 87) d_prog_19_method_9_86 rfl rfl rfl ?_
      refine Own.getfield (pc' := 90) d_prog_19_method_9_87 rfl (host := "") (Or.inl (hw _ (List.mem_of_getElem? (i := 11) rfl))) Via.refl f362 ?_
      refine Own.iloadN (pc' := 91) d_prog_19_method_9_90 rfl rfl ?_
      refine Own.laload (pc' := 92) (i := k0) d_prog_19_method_9_91 rfl f371 hx hk0 ?_
      obtain ⟨v377, hv377⟩ : ∃ z, z = kf k0 := ⟨_, rfl⟩
      rw [← hv377]
      refine Own.lcmp_ge (pc1 := 93) (pc' := 147) (pc2 := 96) d_prog_19_method_9_92 rfl d_prog_19_method_9_93 (by decide) (by decide) rfl (fun c92_377 => ?_) (fun c92_377 => ?_)
      · refine Own.aloadN (pc' := 148) d_prog_19_method_9_147 rfl rfl rfl ?_
        refine Own.aloadN (pc' := 149) d_prog_19_method_9_148 rfl rfl rfl ?_
        refine Own.getfield (pc' := 152) d_prog_19_method_9_149 rfl (host := "") (Or.inl (hw _ (List.mem_of_getElem? (i := 20) rfl))) Via.refl f366 ?_
        refine Own.iloadN (pc' := 153) d_prog_19_method_9_152 rfl rfl ?_
        refine Own.iaload (pc' := 154) (i := k0) d_prog_19_method_9_153 rfl f374 hx hk0 ?_
        obtain ⟨v379, hv379⟩ : ∃ z, z = rf k0 := ⟨_, rfl⟩
        rw [← hv379]
        refine Own.lloadN (pc' := 155) d_prog_19_method_9_154 rfl rfl ?_
        refine Own.lload (pc' := 157) d_prog_19_method_9_155 rfl rfl ?_
        refine Own.privat (pc' := 160) (y := (⟨"com/example/lowtide/lowtide/compact/KeyedSums", "add", "(IJJ)I"⟩ : MethodName)) (rm' := ({ frames := 1, cells := 0, slots := 0, locals := 18 } : Room)) (W := 0) (as := [(.int v379), (.long ky), (.long wt)]) (rest := []) (a := o) d_prog_19_method_9_157 rfl (hw _ (List.mem_of_getElem? (i := 31) rfl)) (hw _ (List.mem_of_getElem? (i := 32) rfl)) (hw _ (List.mem_of_getElem? (i := 2) rfl)) (hw _ (List.mem_of_getElem? (i := 33) rfl)) (hw _ (List.mem_of_getElem? (i := 3) rfl)) (hw _ (List.mem_of_getElem? (i := 34) rfl)) (by decide) f370 (c_add0 Z a0 hw n0 h361 Zh361 o v379 ky wt aK aO aS aL aR kf of lf rf us un rt ⟨g_o, g_aK, g_aO, g_aS, g_aL, g_aR, ne_o_aK, ne_o_aO, ne_o_aS, ne_o_aL, ne_o_aR, ne_aK_aO, ne_aK_aS, ne_aK_aL, ne_aK_aR, ne_aO_aS, ne_aO_aL, ne_aO_aR, ne_aS_aL, ne_aS_aR, ne_aL_aR⟩ ⟨_, f370, f362, f363, f364, f365, f366, f367, f368, f369, f371, f372, Ah361, f373, f374⟩ U r (hv379 ▸ T5) (own_S_mid hS).2.1 hU16 hus (fun p hp => hlt p (by simp [hp])) hun hl1.2.1) rfl rfl (lenOf pd_5 rfl) (by decide) rfl (by decide) (by decide) (by decide) fun r381 h380 qh380 => ?_
        obtain ⟨u382, qs383, kf384, of385, lf386, rf387, us388, un389, e2, Zh380, Kh380, AA⟩ := qh380
        subst e2
        obtain ⟨sf390, E_o_h380, F_keys_h380, F_own_h380, F_sums_h380, F_left_h380, F_right_h380, F_used_h380, F_unused_h380, F_root_h380, A_aK_h380, A_aO_h380, A_aS_h380, A_aL_h380, A_aR_h380⟩ := Kh380
        have AL := own_A_right (x := nx) hk0 hx T4 hS hlt (by rw [← hv377]; exact own_ltne c92_377 (fun e => c31_375 (e.trans (hv377.trans hv375.symm)))) AA
        show Go K _ _ _ _ _ _ _ _ _ 0 0 h380 160 #[.val (.ref o), .val (.int nx), .val (.long ky), .second, .val (.long wt), .second, .unset] [(.int u382)]
        refine Own.istore (pc' := 162) (L1 := #[.val (.ref o), .val (.int nx), .val (.long ky), .second, .val (.long wt), .second, .val (.int u382)]) d_prog_19_method_9_160 rfl rfl ?_
        refine Own.aloadN (pc' := 163) d_prog_19_method_9_162 rfl rfl rfl ?_
        refine Own.getfield (pc' := 166) d_prog_19_method_9_163 rfl (host := "") (Or.inl (hw _ (List.mem_of_getElem? (i := 20) rfl))) Via.refl F_right_h380 ?_
        refine Own.iloadN (pc' := 167) d_prog_19_method_9_166 rfl rfl ?_
        refine Own.iload (pc' := 169) d_prog_19_method_9_167 rfl rfl ?_
        refine Own.iastore (pc' := 170) (i := k0) d_prog_19_method_9_169 rfl A_aR_h380 g_aR hx hk0 fun h391 Wh391 Ah391 => ?_
        have f392 := F_keys_h380.other Wh391 (Or.inl ne_o_aR)
        have f393 := F_own_h380.other Wh391 (Or.inl ne_o_aR)
        have f394 := F_sums_h380.other Wh391 (Or.inl ne_o_aR)
        have f395 := F_left_h380.other Wh391 (Or.inl ne_o_aR)
        have f396 := F_right_h380.other Wh391 (Or.inl ne_o_aR)
        have f397 := F_used_h380.other Wh391 (Or.inl ne_o_aR)
        have f398 := F_unused_h380.other Wh391 (Or.inl ne_o_aR)
        have f399 := F_root_h380.other Wh391 (Or.inl ne_o_aR)
        have f400 := E_o_h380.wr Wh391
        have f401 := A_aK_h380.other Wh391 ne_aK_aR
        have f402 := A_aO_h380.other Wh391 ne_aO_aR
        have f403 := A_aS_h380.other Wh391 ne_aS_aR
        have f404 := A_aL_h380.other Wh391 ne_aL_aR
        have Zh391 : n0 ≤ h391.size := by rw [Wh391.size]; exact Zh380
        refine Own.iload (pc' := 172) d_prog_19_method_9_170 rfl rfl ?_
        refine Own.iconst (pc' := 173) (v := (-1 : Int32)) d_prog_19_method_9_172 (by decide) rfl ?_
        refine Own.icmp_eq (pc' := 196) (pc2 := 176) d_prog_19_method_9_173 (by decide) (by decide) rfl (fun c173_404 => ?_) (fun c173_404 => ?_)
        · refine Own.iloadN (pc' := 197) d_prog_19_method_9_196 rfl rfl ?_
          subst hv359 hv360 hv375 hv377 hv379
          exact Own.ireturnI d_prog_19_method_9_197 rfl (⟨_, _, _, _, _, _, _, _, rfl, Zh391, ⟨_, f400, f392, f393, f394, f395, f396, f397, f398, f399, f401, f402, f403, f404, Ah391⟩, AL⟩) (by decide) (by decide)
        · refine Own.iload (pc' := 178) d_prog_19_method_9_176 rfl rfl ?_
          refine Own.static (pc' := 181) (y := (⟨"com/example/lowtide/lowtide/compact/KeyedSums", "rank", "(I)I"⟩ : MethodName)) (rm' := ({ frames := 0, cells := 0, slots := 0, locals := 0 } : Room)) (W := 0) (as := [(.int u382)]) (rest := []) d_prog_19_method_9_178 rfl (hw _ (List.mem_of_getElem? (i := 55) rfl)) (hw _ (List.mem_of_getElem? (i := 56) rfl)) (hw _ (List.mem_of_getElem? (i := 3) rfl)) (hw _ (List.mem_of_getElem? (i := 57) rfl)) (by decide) (c_rank Z a0 hw n0 h391 Zh391 u382) rfl rfl (lenOf pd_2 rfl) (by decide) rfl (by decide) (by decide) (by decide) fun r407 h406 qh406 => ?_
          obtain ⟨u408, e2, e1⟩ := qh406
          subst e1 e2
          show Go K _ _ _ _ _ _ _ _ _ 0 0 h391 181 #[.val (.ref o), .val (.int nx), .val (.long ky), .second, .val (.long wt), .second, .val (.int u382)] [(.int u408)]
          refine Own.iloadN (pc' := 182) d_prog_19_method_9_181 rfl rfl ?_
          refine Own.static (pc' := 185) (y := (⟨"com/example/lowtide/lowtide/compact/KeyedSums", "rank", "(I)I"⟩ : MethodName)) (rm' := ({ frames := 0, cells := 0, slots := 0, locals := 0 } : Room)) (W := 1) (as := [(.int nx)]) (rest := [(.int u408)]) d_prog_19_method_9_182 rfl (hw _ (List.mem_of_getElem? (i := 55) rfl)) (hw _ (List.mem_of_getElem? (i := 56) rfl)) (hw _ (List.mem_of_getElem? (i := 3) rfl)) (hw _ (List.mem_of_getElem? (i := 57) rfl)) (by decide) (c_rank Z a0 hw n0 h391 Zh391 nx) rfl rfl (lenOf pd_2 rfl) (by decide) rfl (by decide) (by decide) (by decide) fun r410 h409 qh409 => ?_
          obtain ⟨u411, e2, e1⟩ := qh409
          subst e1 e2
          show Go K _ _ _ _ _ _ _ _ _ 0 0 h391 185 #[.val (.ref o), .val (.int nx), .val (.long ky), .second, .val (.long wt), .second, .val (.int u382)] [(.int u411), (.int u408)]
          refine Own.icmp_le (pc' := 196) (pc2 := 188) d_prog_19_method_9_185 (by decide) (by decide) rfl (fun c185_411 => ?_) (fun c185_411 => ?_)
          · refine Own.iloadN (pc' := 197) d_prog_19_method_9_196 rfl rfl ?_
            subst hv359 hv360 hv375 hv377 hv379
            exact Own.ireturnI d_prog_19_method_9_197 rfl (⟨_, _, _, _, _, _, _, _, rfl, Zh391, ⟨_, f400, f392, f393, f394, f395, f396, f397, f398, f399, f401, f402, f403, f404, Ah391⟩, AL⟩) (by decide) (by decide)
          · refine Own.aloadN (pc' := 189) d_prog_19_method_9_188 rfl rfl rfl ?_
            refine Own.iloadN (pc' := 190) d_prog_19_method_9_189 rfl rfl ?_
            obtain ⟨j, hj, -, hlj, hne, V1, V2, V3, TR, eR⟩ := own_rotL AL.1 (AL.nd hS).2 hx (by rw [own_set_eq]; exact c173_404)
            refine Own.privat (pc' := 193) (y := (⟨"com/example/lowtide/lowtide/compact/KeyedSums", "turnLeft", "(I)I"⟩ : MethodName)) (rm' := ({ frames := 2, cells := 0, slots := 0, locals := 30 } : Room)) (W := 0) (as := [(.int nx)]) (rest := []) (a := o) d_prog_19_method_9_190 rfl (hw _ (List.mem_of_getElem? (i := 73) rfl)) (hw _ (List.mem_of_getElem? (i := 74) rfl)) (hw _ (List.mem_of_getElem? (i := 2) rfl)) (hw _ (List.mem_of_getElem? (i := 75) rfl)) (hw _ (List.mem_of_getElem? (i := 3) rfl)) (hw _ (List.mem_of_getElem? (i := 76) rfl)) (by decide) f400 (c_turnLeft Z a0 hw n0 h391 Zh391 o nx aK aO aS aL aR kf384 of385 lf386 (ownSet rf387 k0 u382) us388 un389 rt ⟨g_o, g_aK, g_aO, g_aS, g_aL, g_aR, ne_o_aK, ne_o_aO, ne_o_aS, ne_o_aL, ne_o_aR, ne_aK_aO, ne_aK_aS, ne_aK_aL, ne_aK_aR, ne_aO_aS, ne_aO_aL, ne_aO_aR, ne_aS_aL, ne_aS_aR, ne_aL_aR⟩ ⟨_, f400, f392, f393, f394, f395, f396, f397, f398, f399, f401, f402, f403, f404, Ah391⟩ k0 j hk0 hx hj hlj hne V1 V2 V3) rfl rfl (lenOf pd_2 rfl) (by decide) rfl (by decide) (by decide) (by decide) fun r414 h413 qh413 => ?_
            obtain ⟨v415, e2, hv415, Zh413, Kh413⟩ := qh413
            subst e2
            obtain ⟨sf416, E_o_h413, F_keys_h413, F_own_h413, F_sums_h413, F_left_h413, F_right_h413, F_used_h413, F_unused_h413, F_root_h413, A_aK_h413, A_aO_h413, A_aS_h413, A_aL_h413, A_aR_h413⟩ := Kh413
            show Go K _ _ _ _ _ _ _ _ _ 0 0 h413 193 #[.val (.ref o), .val (.int nx), .val (.long ky), .second, .val (.long wt), .second, .val (.int u382)] [(.int v415)]
            refine Own.goto (pc' := 197) d_prog_19_method_9_193 (by decide) (by decide) ?_
            subst hv359 hv360 hv375 hv377 hv379 hv415
            exact Own.ireturnI d_prog_19_method_9_197 rfl (⟨_, _, _, _, _, _, _, _, rfl, Zh413, ⟨_, E_o_h413, F_keys_h413, F_own_h413, F_sums_h413, F_left_h413, F_right_h413, F_used_h413, F_unused_h413, F_root_h413, A_aK_h413, A_aO_h413, A_aS_h413, A_aL_h413, A_aR_h413⟩, AL.turn TR eR⟩) (by decide) (by decide)
      · refine Own.aloadN (pc' := 97) d_prog_19_method_9_96 rfl rfl rfl ?_
        refine Own.aloadN (pc' := 98) d_prog_19_method_9_97 rfl rfl rfl ?_
        refine Own.getfield (pc' := 101) d_prog_19_method_9_98 rfl (host := "") (Or.inl (hw _ (List.mem_of_getElem? (i := 18) rfl))) Via.refl f365 ?_
        refine Own.iloadN (pc' := 102) d_prog_19_method_9_101 rfl rfl ?_
        refine Own.iaload (pc' := 103) (i := k0) d_prog_19_method_9_102 rfl f373 hx hk0 ?_
        obtain ⟨v417, hv417⟩ : ∃ z, z = lf k0 := ⟨_, rfl⟩
        rw [← hv417]
        refine Own.lloadN (pc' := 104) d_prog_19_method_9_103 rfl rfl ?_
        refine Own.lload (pc' := 106) d_prog_19_method_9_104 rfl rfl ?_
        refine Own.privat (pc' := 109) (y := (⟨"com/example/lowtide/lowtide/compact/KeyedSums", "add", "(IJJ)I"⟩ : MethodName)) (rm' := ({ frames := 1, cells := 0, slots := 0, locals := 18 } : Room)) (W := 0) (as := [(.int v417), (.long ky), (.long wt)]) (rest := []) (a := o) d_prog_19_method_9_106 rfl (hw _ (List.mem_of_getElem? (i := 31) rfl)) (hw _ (List.mem_of_getElem? (i := 32) rfl)) (hw _ (List.mem_of_getElem? (i := 2) rfl)) (hw _ (List.mem_of_getElem? (i := 33) rfl)) (hw _ (List.mem_of_getElem? (i := 3) rfl)) (hw _ (List.mem_of_getElem? (i := 34) rfl)) (by decide) f370 (c_add0 Z a0 hw n0 h361 Zh361 o v417 ky wt aK aO aS aL aR kf of lf rf us un rt ⟨g_o, g_aK, g_aO, g_aS, g_aL, g_aR, ne_o_aK, ne_o_aO, ne_o_aS, ne_o_aL, ne_o_aR, ne_aK_aO, ne_aK_aS, ne_aK_aL, ne_aK_aR, ne_aO_aS, ne_aO_aL, ne_aO_aR, ne_aS_aL, ne_aS_aR, ne_aL_aR⟩ ⟨_, f370, f362, f363, f364, f365, f366, f367, f368, f369, f371, f372, Ah361, f373, f374⟩ U l (hv417 ▸ T4) (own_S_mid hS).1 hU16 hus (fun p hp => hlt p (by simp [hp])) hun hl1.1) rfl rfl (lenOf pd_5 rfl) (by decide) rfl (by decide) (by decide) (by decide) fun r419 h418 qh418 => ?_
        obtain ⟨u420, qs421, kf422, of423, lf424, rf425, us426, un427, e2, Zh418, Kh418, AA⟩ := qh418
        subst e2
        obtain ⟨sf428, E_o_h418, F_keys_h418, F_own_h418, F_sums_h418, F_left_h418, F_right_h418, F_used_h418, F_unused_h418, F_root_h418, A_aK_h418, A_aO_h418, A_aS_h418, A_aL_h418, A_aR_h418⟩ := Kh418
        have AL := own_A_left (x := nx) hk0 hx T5 hS hlt (by rw [← hv377]; exact Int.not_le.mp c92_377) AA
        show Go K _ _ _ _ _ _ _ _ _ 0 0 h418 109 #[.val (.ref o), .val (.int nx), .val (.long ky), .second, .val (.long wt), .second, .unset] [(.int u420)]
        refine Own.istore (pc' := 111) (L1 := #[.val (.ref o), .val (.int nx), .val (.long ky), .second, .val (.long wt), .second, .val (.int u420)]) d_prog_19_method_9_109 rfl rfl ?_
        refine Own.aloadN (pc' := 112) d_prog_19_method_9_111 rfl rfl rfl ?_
        refine Own.getfield (pc' := 115) d_prog_19_method_9_112 rfl (host := "") (Or.inl (hw _ (List.mem_of_getElem? (i := 18) rfl))) Via.refl F_left_h418 ?_
        refine Own.iloadN (pc' := 116) d_prog_19_method_9_115 rfl rfl ?_
        refine Own.iload (pc' := 118) d_prog_19_method_9_116 rfl rfl ?_
        refine Own.iastore (pc' := 119) (i := k0) d_prog_19_method_9_118 rfl A_aL_h418 g_aL hx hk0 fun h429 Wh429 Ah429 => ?_
        have f430 := F_keys_h418.other Wh429 (Or.inl ne_o_aL)
        have f431 := F_own_h418.other Wh429 (Or.inl ne_o_aL)
        have f432 := F_sums_h418.other Wh429 (Or.inl ne_o_aL)
        have f433 := F_left_h418.other Wh429 (Or.inl ne_o_aL)
        have f434 := F_right_h418.other Wh429 (Or.inl ne_o_aL)
        have f435 := F_used_h418.other Wh429 (Or.inl ne_o_aL)
        have f436 := F_unused_h418.other Wh429 (Or.inl ne_o_aL)
        have f437 := F_root_h418.other Wh429 (Or.inl ne_o_aL)
        have f438 := E_o_h418.wr Wh429
        have f439 := A_aK_h418.other Wh429 ne_aK_aL
        have f440 := A_aO_h418.other Wh429 ne_aO_aL
        have f441 := A_aS_h418.other Wh429 ne_aS_aL
        have f442 := A_aR_h418.other Wh429 (Ne.symm ne_aL_aR)
        have Zh429 : n0 ≤ h429.size := by rw [Wh429.size]; exact Zh418
        refine Own.iload (pc' := 121) d_prog_19_method_9_119 rfl rfl ?_
        refine Own.iconst (pc' := 122) (v := (-1 : Int32)) d_prog_19_method_9_121 (by decide) rfl ?_
        refine Own.icmp_eq (pc' := 145) (pc2 := 125) d_prog_19_method_9_122 (by decide) (by decide) rfl (fun c122_442 => ?_) (fun c122_442 => ?_)
        · refine Own.iloadN (pc' := 146) d_prog_19_method_9_145 rfl rfl ?_
          subst hv359 hv360 hv375 hv377 hv417
          exact Own.ireturnI d_prog_19_method_9_146 rfl (⟨_, _, _, _, _, _, _, _, rfl, Zh429, ⟨_, f438, f430, f431, f432, f433, f434, f435, f436, f437, f439, f440, f441, Ah429, f442⟩, AL⟩) (by decide) (by decide)
        · refine Own.iload (pc' := 127) d_prog_19_method_9_125 rfl rfl ?_
          refine Own.static (pc' := 130) (y := (⟨"com/example/lowtide/lowtide/compact/KeyedSums", "rank", "(I)I"⟩ : MethodName)) (rm' := ({ frames := 0, cells := 0, slots := 0, locals := 0 } : Room)) (W := 0) (as := [(.int u420)]) (rest := []) d_prog_19_method_9_127 rfl (hw _ (List.mem_of_getElem? (i := 55) rfl)) (hw _ (List.mem_of_getElem? (i := 56) rfl)) (hw _ (List.mem_of_getElem? (i := 3) rfl)) (hw _ (List.mem_of_getElem? (i := 57) rfl)) (by decide) (c_rank Z a0 hw n0 h429 Zh429 u420) rfl rfl (lenOf pd_2 rfl) (by decide) rfl (by decide) (by decide) (by decide) fun r445 h444 qh444 => ?_
          obtain ⟨u446, e2, e1⟩ := qh444
          subst e1 e2
          show Go K _ _ _ _ _ _ _ _ _ 0 0 h429 130 #[.val (.ref o), .val (.int nx), .val (.long ky), .second, .val (.long wt), .second, .val (.int u420)] [(.int u446)]
          refine Own.iloadN (pc' := 131) d_prog_19_method_9_130 rfl rfl ?_
          refine Own.static (pc' := 134) (y := (⟨"com/example/lowtide/lowtide/compact/KeyedSums", "rank", "(I)I"⟩ : MethodName)) (rm' := ({ frames := 0, cells := 0, slots := 0, locals := 0 } : Room)) (W := 1) (as := [(.int nx)]) (rest := [(.int u446)]) d_prog_19_method_9_131 rfl (hw _ (List.mem_of_getElem? (i := 55) rfl)) (hw _ (List.mem_of_getElem? (i := 56) rfl)) (hw _ (List.mem_of_getElem? (i := 3) rfl)) (hw _ (List.mem_of_getElem? (i := 57) rfl)) (by decide) (c_rank Z a0 hw n0 h429 Zh429 nx) rfl rfl (lenOf pd_2 rfl) (by decide) rfl (by decide) (by decide) (by decide) fun r448 h447 qh447 => ?_
          obtain ⟨u449, e2, e1⟩ := qh447
          subst e1 e2
          show Go K _ _ _ _ _ _ _ _ _ 0 0 h429 134 #[.val (.ref o), .val (.int nx), .val (.long ky), .second, .val (.long wt), .second, .val (.int u420)] [(.int u449), (.int u446)]
          refine Own.icmp_le (pc' := 145) (pc2 := 137) d_prog_19_method_9_134 (by decide) (by decide) rfl (fun c134_449 => ?_) (fun c134_449 => ?_)
          · refine Own.iloadN (pc' := 146) d_prog_19_method_9_145 rfl rfl ?_
            subst hv359 hv360 hv375 hv377 hv417
            exact Own.ireturnI d_prog_19_method_9_146 rfl (⟨_, _, _, _, _, _, _, _, rfl, Zh429, ⟨_, f438, f430, f431, f432, f433, f434, f435, f436, f437, f439, f440, f441, Ah429, f442⟩, AL⟩) (by decide) (by decide)
          · refine Own.aloadN (pc' := 138) d_prog_19_method_9_137 rfl rfl rfl ?_
            refine Own.iloadN (pc' := 139) d_prog_19_method_9_138 rfl rfl ?_
            obtain ⟨j, hj, -, hlj, hne, V1, V2, V3, TR, eR⟩ := own_rotR AL.1 (AL.nd hS).2 hx (by rw [own_set_eq]; exact c122_442)
            refine Own.privat (pc' := 142) (y := (⟨"com/example/lowtide/lowtide/compact/KeyedSums", "turnRight", "(I)I"⟩ : MethodName)) (rm' := ({ frames := 2, cells := 0, slots := 0, locals := 30 } : Room)) (W := 0) (as := [(.int nx)]) (rest := []) (a := o) d_prog_19_method_9_139 rfl (hw _ (List.mem_of_getElem? (i := 61) rfl)) (hw _ (List.mem_of_getElem? (i := 62) rfl)) (hw _ (List.mem_of_getElem? (i := 2) rfl)) (hw _ (List.mem_of_getElem? (i := 63) rfl)) (hw _ (List.mem_of_getElem? (i := 3) rfl)) (hw _ (List.mem_of_getElem? (i := 64) rfl)) (by decide) f438 (c_turnRight Z a0 hw n0 h429 Zh429 o nx aK aO aS aL aR kf422 of423 (ownSet lf424 k0 u420) rf425 us426 un427 rt ⟨g_o, g_aK, g_aO, g_aS, g_aL, g_aR, ne_o_aK, ne_o_aO, ne_o_aS, ne_o_aL, ne_o_aR, ne_aK_aO, ne_aK_aS, ne_aK_aL, ne_aK_aR, ne_aO_aS, ne_aO_aL, ne_aO_aR, ne_aS_aL, ne_aS_aR, ne_aL_aR⟩ ⟨_, f438, f430, f431, f432, f433, f434, f435, f436, f437, f439, f440, f441, Ah429, f442⟩ k0 j hk0 hx hj hlj hne V1 V2 V3) rfl rfl (lenOf pd_2 rfl) (by decide) rfl (by decide) (by decide) (by decide) fun r452 h451 qh451 => ?_
            obtain ⟨v453, e2, hv453, Zh451, Kh451⟩ := qh451
            subst e2
            obtain ⟨sf454, E_o_h451, F_keys_h451, F_own_h451, F_sums_h451, F_left_h451, F_right_h451, F_used_h451, F_unused_h451, F_root_h451, A_aK_h451, A_aO_h451, A_aS_h451, A_aL_h451, A_aR_h451⟩ := Kh451
            show Go K _ _ _ _ _ _ _ _ _ 0 0 h451 142 #[.val (.ref o), .val (.int nx), .val (.long ky), .second, .val (.long wt), .second, .val (.int u420)] [(.int v453)]
            refine Own.goto (pc' := 146) d_prog_19_method_9_142 (by decide) (by decide) ?_
            subst hv359 hv360 hv375 hv377 hv417 hv453
            exact Own.ireturnI d_prog_19_method_9_146 rfl (⟨_, _, _, _, _, _, _, _, rfl, Zh451, ⟨_, E_o_h451, F_keys_h451, F_own_h451, F_sums_h451, F_left_h451, F_right_h451, F_used_h451, F_unused_h451, F_root_h451, A_aK_h451, A_aO_h451, A_aS_h451, A_aL_h451, A_aR_h451⟩, AL.turn TR eR⟩) (by decide) (by decide)
    · refine Own.aloadN (pc' := 36) d_prog_19_method_9_35 rfl rfl rfl ?_
      refine Own.getfield (pc' := 39) d_prog_19_method_9_36 rfl (host := "") (Or.inl (hw _ (List.mem_of_getElem? (i := 13) rfl))) Via.refl f363 ?_
      refine Own.iloadN (pc' := 40) d_prog_19_method_9_39 rfl rfl ?_
      refine Own.dup2 (pc' := 41) d_prog_19_method_9_40 rfl rfl rfl ?_
      refine Own.laload (pc' := 42) (i := k0) d_prog_19_method_9_41 rfl f372 hx hk0 ?_
      obtain ⟨v455, hv455⟩ : ∃ z, z = of k0 := ⟨_, rfl⟩
      rw [← hv455]
      refine Own.lload (pc' := 44) d_prog_19_method_9_42 rfl rfl ?_
      refine Own.ladd (pc' := 45) d_prog_19_method_9_44 rfl fun v456 hv456 => ?_
      refine Own.lastore (pc' := 46) (i := k0) d_prog_19_method_9_45 rfl f372 g_aO hx hk0 fun h457 Wh457 Ah457 => ?_
      have f458 := f362.other Wh457 (Or.inl ne_o_aO)
      have f459 := f363.other Wh457 (Or.inl ne_o_aO)
      have f460 := f364.other Wh457 (Or.inl ne_o_aO)
      have f461 := f365.other Wh457 (Or.inl ne_o_aO)
      have f462 := f366.other Wh457 (Or.inl ne_o_aO)
      have f463 := f367.other Wh457 (Or.inl ne_o_aO)
      have f464 := f368.other Wh457 (Or.inl ne_o_aO)
      have f465 := f369.other Wh457 (Or.inl ne_o_aO)
      have f466 := f370.wr Wh457
      have f467 := f371.other Wh457 ne_aK_aO
      have f468 := Ah361.other Wh457 (Ne.symm ne_aO_aS)
      have f469 := f373.other Wh457 (Ne.symm ne_aO_aL)
      have f470 := f374.other Wh457 (Ne.symm ne_aO_aR)
      have Zh457 : n0 ≤ h457.size := by rw [Wh457.size]; exact Zh361
      refine Own.aloadN (pc' := 47) d_prog_19_method_9_46 rfl rfl rfl ?_
      refine Own.getfield (pc' := 50) d_prog_19_method_9_47 rfl (host := "") (Or.inl (hw _ (List.mem_of_getElem? (i := 13) rfl))) Via.refl f459 ?_
      refine Own.iloadN (pc' := 51) d_prog_19_method_9_50 rfl rfl ?_
      refine Own.laload (pc' := 52) (i := k0) d_prog_19_method_9_51 rfl Ah457 hx hk0 ?_
      obtain ⟨v471, hv471⟩ : ∃ z, z = (ownSet of k0 v456) k0 := ⟨_, rfl⟩
      rw [← hv471]
      refine Own.lconst0 (pc' := 53) d_prog_19_method_9_52 rfl ?_
      refine Own.lcmp_eq (pc1 := 54) (pc' := 59) (pc2 := 57) d_prog_19_method_9_53 rfl d_prog_19_method_9_54 (by decide) (by decide) rfl (fun c53_471 => ?_) (fun c53_471 => ?_)
      · refine Own.aloadN (pc' := 60) d_prog_19_method_9_59 rfl rfl rfl ?_
        refine Own.aloadN (pc' := 61) d_prog_19_method_9_60 rfl rfl rfl ?_
        refine Own.getfield (pc' := 64) d_prog_19_method_9_61 rfl (host := "") (Or.inl (hw _ (List.mem_of_getElem? (i := 18) rfl))) Via.refl f461 ?_
        refine Own.iloadN (pc' := 65) d_prog_19_method_9_64 rfl rfl ?_
        refine Own.iaload (pc' := 66) (i := k0) d_prog_19_method_9_65 rfl f469 hx hk0 ?_
        obtain ⟨v473, hv473⟩ : ∃ z, z = lf k0 := ⟨_, rfl⟩
        rw [← hv473]
        refine Own.aloadN (pc' := 67) d_prog_19_method_9_66 rfl rfl rfl ?_
        refine Own.getfield (pc' := 70) d_prog_19_method_9_67 rfl (host := "") (Or.inl (hw _ (List.mem_of_getElem? (i := 20) rfl))) Via.refl f462 ?_
        refine Own.iloadN (pc' := 71) d_prog_19_method_9_70 rfl rfl ?_
        refine Own.iaload (pc' := 72) (i := k0) d_prog_19_method_9_71 rfl f470 hx hk0 ?_
        obtain ⟨v474, hv474⟩ : ∃ z, z = rf k0 := ⟨_, rfl⟩
        rw [← hv474]
        refine Own.privat (pc' := 75) (y := (⟨"com/example/lowtide/lowtide/compact/KeyedSums", "join", "(II)I"⟩ : MethodName)) (rm' := ({ frames := 0, cells := 0, slots := 0, locals := 0 } : Room)) (W := 0) (as := [(.int v473), (.int v474)]) (rest := []) (a := o) d_prog_19_method_9_72 rfl (hw _ (List.mem_of_getElem? (i := 77) rfl)) (hw _ (List.mem_of_getElem? (i := 78) rfl)) (hw _ (List.mem_of_getElem? (i := 2) rfl)) (hw _ (List.mem_of_getElem? (i := 79) rfl)) (hw _ (List.mem_of_getElem? (i := 3) rfl)) (hw _ (List.mem_of_getElem? (i := 80) rfl)) (by decide) f466 (c_join0 Z a0 hw n0 h457 Zh457 o v473 v474 aK aO aS aL aR kf (ownSet of k0 v456) lf rf us un rt ⟨g_o, g_aK, g_aO, g_aS, g_aL, g_aR, ne_o_aK, ne_o_aO, ne_o_aS, ne_o_aL, ne_o_aR, ne_aK_aO, ne_aK_aS, ne_aK_aL, ne_aK_aR, ne_aO_aS, ne_aO_aL, ne_aO_aR, ne_aS_aL, ne_aS_aR, ne_aL_aR⟩ ⟨_, f466, f458, f459, f460, f461, f462, f463, f464, f465, f467, Ah457, f468, f469, f470⟩ l r (hv473 ▸ T4) (hv474 ▸ T5) (own_nd_mid (own_S_nd hS)).2.2.2.2.2 hl1.2.2) rfl rfl (lenOf pd_3 rfl) (by decide) rfl (by decide) (by decide) (by decide) fun r476 h475 qh475 => ?_
        obtain ⟨u477, lf478, rf479, e2, Zh475, Kh475, TT, ee⟩ := qh475
        subst e2
        obtain ⟨sf480, E_o_h475, F_keys_h475, F_own_h475, F_sums_h475, F_left_h475, F_right_h475, F_used_h475, F_unused_h475, F_root_h475, A_aK_h475, A_aO_h475, A_aS_h475, A_aL_h475, A_aR_h475⟩ := Kh475
        show Go K _ _ _ _ _ _ _ _ _ 0 0 h475 75 #[.val (.ref o), .val (.int nx), .val (.long ky), .second, .val (.long wt), .second, .unset] [(.int u477)]
        refine Own.istore (pc' := 77) (L1 := #[.val (.ref o), .val (.int nx), .val (.long ky), .second, .val (.long wt), .second, .val (.int u477)]) d_prog_19_method_9_75 rfl rfl ?_
        refine Own.aloadN (pc' := 78) d_prog_19_method_9_77 rfl rfl rfl ?_
        refine Own.iloadN (pc' := 79) d_prog_19_method_9_78 rfl rfl ?_
        refine Own.privat (pc' := 82) (y := (⟨"com/example/lowtide/lowtide/compact/KeyedSums", "release", "(I)V"⟩ : MethodName)) (rm' := ({ frames := 0, cells := 0, slots := 0, locals := 0 } : Room)) (W := 0) (as := [(.int nx)]) (rest := []) (a := o) d_prog_19_method_9_79 rfl (hw _ (List.mem_of_getElem? (i := 81) rfl)) (hw _ (List.mem_of_getElem? (i := 82) rfl)) (hw _ (List.mem_of_getElem? (i := 2) rfl)) (hw _ (List.mem_of_getElem? (i := 83) rfl)) (hw _ (List.mem_of_getElem? (i := 3) rfl)) (hw _ (List.mem_of_getElem? (i := 84) rfl)) (by decide) E_o_h475 (c_release Z a0 hw n0 h475 Zh475 o nx aK aO aS aL aR kf (ownSet of k0 v456) lf478 rf479 us un rt ⟨g_o, g_aK, g_aO, g_aS, g_aL, g_aR, ne_o_aK, ne_o_aO, ne_o_aS, ne_o_aL, ne_o_aR, ne_aK_aO, ne_aK_aS, ne_aK_aL, ne_aK_aR, ne_aO_aS, ne_aO_aL, ne_aO_aR, ne_aS_aL, ne_aS_aR, ne_aL_aR⟩ ⟨_, E_o_h475, F_keys_h475, F_own_h475, F_sums_h475, F_left_h475, F_right_h475, F_used_h475, F_unused_h475, F_root_h475, A_aK_h475, A_aO_h475, A_aS_h475, A_aL_h475, A_aR_h475⟩ k0 hk0 hx) rfl rfl (lenOf pd_1 rfl) (by decide) rfl (by decide) (by decide) (by decide) fun r482 h481 qh481 => ?_
        obtain ⟨e2, Zh481, Kh481⟩ := qh481
        subst e2
        obtain ⟨sf483, E_o_h481, F_keys_h481, F_own_h481, F_sums_h481, F_left_h481, F_right_h481, F_used_h481, F_unused_h481, F_root_h481, A_aK_h481, A_aO_h481, A_aS_h481, A_aL_h481, A_aR_h481⟩ := Kh481
        show Go K _ _ _ _ _ _ _ _ _ 0 0 h481 82 #[.val (.ref o), .val (.int nx), .val (.long ky), .second, .val (.long wt), .second, .val (.int u477)] []
        refine Own.iload (pc' := 84) d_prog_19_method_9_82 rfl rfl ?_
        have hke := Decidable.not_not.mp c31_375
        rw [hv471, own_set_eq] at c53_471
        subst hv471
        subst hv359 hv360 hv375 hv455 hv456 hv473 hv474
        exact Own.ireturnI d_prog_19_method_9_84 rfl (⟨_, _, _, _, _, _, _, _, rfl, Zh481, ⟨_, E_o_h481, F_keys_h481, F_own_h481, F_sums_h481, F_left_h481, F_right_h481, F_used_h481, F_unused_h481, F_root_h481, A_aK_h481, A_aO_h481, A_aS_h481, A_aL_h481, A_aR_h481⟩, own_A_go TT ee hS hke c53_471⟩) (by decide) (by decide)
      · refine Own.iloadN (pc' := 58) d_prog_19_method_9_57 rfl rfl ?_
        have hke := Decidable.not_not.mp c31_375
        rw [hv471, own_set_eq] at c53_471
        subst hv471
        subst hv359 hv360 hv375 hv455 hv456
        exact Own.ireturnI d_prog_19_method_9_58 rfl (⟨_, _, _, _, _, _, _, _, rfl, Zh457, ⟨_, f466, f458, f459, f460, f461, f462, f463, f464, f465, f467, Ah457, f468, f469, f470⟩, own_A_stay T hS hke c53_471⟩) (by decide) (by decide)
  · refine Own.aloadN (pc' := 6) d_prog_19_method_9_5 rfl rfl rfl ?_
    refine Own.lloadN (pc' := 7) d_prog_19_method_9_6 rfl rfl ?_
    refine Own.lload (pc' := 9) d_prog_19_method_9_7 rfl rfl ?_
    refine Own.privat (pc' := 12) (y := (⟨"com/example/lowtide/lowtide/compact/KeyedSums", "place", "(JJ)I"⟩ : MethodName)) (rm' := ({ frames := 0, cells := 0, slots := 0, locals := 0 } : Room)) (W := 0) (as := [(.long ky), (.long wt)]) (rest := []) (a := o) d_prog_19_method_9_9 rfl (hw _ (List.mem_of_getElem? (i := 35) rfl)) (hw _ (List.mem_of_getElem? (i := 36) rfl)) (hw _ (List.mem_of_getElem? (i := 2) rfl)) (hw _ (List.mem_of_getElem? (i := 37) rfl)) (hw _ (List.mem_of_getElem? (i := 3) rfl)) (hw _ (List.mem_of_getElem? (i := 38) rfl)) (by decide) E_o (c_place Z a0 hw n0 h hZ0 o ky wt aK aO aS aL aR kf of lf rf us un rt ⟨g_o, g_aK, g_aO, g_aS, g_aL, g_aR, ne_o_aK, ne_o_aO, ne_o_aS, ne_o_aL, ne_o_aR, ne_aK_aO, ne_aK_aS, ne_aK_aL, ne_aK_aR, ne_aO_aS, ne_aO_aL, ne_aO_aR, ne_aS_aL, ne_aS_aR, ne_aL_aR⟩ ⟨_, E_o, F_keys, F_own, F_sums, F_left, F_right, F_used, F_unused, F_root, A_aK, A_aO, A_aS, A_aL, A_aR⟩ U hU16 hus hun) rfl rfl (lenOf pd_4 rfl) (by decide) rfl (by decide) (by decide) (by decide) fun r485 h484 qh484 => ?_
    obtain ⟨u486, e2, hzu486, Zh484, Kh484⟩ := qh484
    subst e2
    obtain ⟨sf487, E_o_h484, F_keys_h484, F_own_h484, F_sums_h484, F_left_h484, F_right_h484, F_used_h484, F_unused_h484, F_root_h484, A_aK_h484, A_aO_h484, A_aS_h484, A_aL_h484, A_aR_h484⟩ := Kh484
    show Go K _ _ _ _ _ _ _ _ _ 0 0 h484 12 #[.val (.ref o), .val (.int nx), .val (.long ky), .second, .val (.long wt), .second, .unset] [(.int u486)]
    obtain rfl := own_Tz T (Decidable.not_not.mp c2_357)
    exact Own.ireturnI d_prog_19_method_9_12 rfl (⟨_, _, _, _, _, _, _, _, rfl, Zh484, ⟨_, E_o_h484, F_keys_h484, F_own_h484, F_sums_h484, F_left_h484, F_right_h484, F_used_h484, F_unused_h484, F_root_h484, A_aK_h484, A_aO_h484, A_aS_h484, A_aL_h484, A_aR_h484⟩, own_A_new hU16 hus hzu486⟩) (by decide) (by decide)
set_option maxRecDepth 65536 in
set_option maxHeartbeats 40000000 in
theorem c_add2 (Z : State) (a0 : Array Value) (hw : ∀ d ∈ tables_1, d.before a0 Z = true) (n0 : Nat) (h : Heap) (hZ0 : n0 ≤ h.size) (o : Addr) (nx : Int32) (ky : Int64) (wt : Int64) (aK aO aS aL aR : Addr) (kf of : Nat → Int64) (lf rf : Nat → Int32) (us un rt : Int32) (D : own_D n0 o aK aO aS aL aR) (KK : own_K Z h o aK aO aS aL aR kf of lf rf us un rt) (U : Nat) (ps : List Nat) (T : own_T lf rf nx ps) (hS : own_S (own_c kf of ps)) (hU16 : U < 16) (hus : us.toInt = (U : Int)) (hlt : ∀ p ∈ ps, p < U) (hun : un = -1) (hlen : ps.length ≤ 2) :
    Con Z n0 (⟨"com/example/lowtide/lowtide/compact/KeyedSums", "add", "(IJJ)I"⟩ : MethodName) prog_19_method_9_code 7 (some .int) ({ frames := 4, cells := 0, slots := 0, locals := 62 } : Room) [(.ref o), (.int nx), (.long ky), (.long wt)] h (fun v h' => ∃ z qs kf' of' lf' rf' us' un', v = some (.int z) ∧ n0 ≤ h'.size ∧ own_K Z h' o aK aO aS aL aR kf' of' lf' rf' us' un' rt ∧ own_A kf of lf rf us un U ky wt ps kf' of' lf' rf' us' un' z qs) := by
  refine Own.enter (plainFor_of_name pn_0) (L0 := #[.val (.ref o), .val (.int nx), .val (.long ky), .second, .val (.long wt), .second, .unset]) (fun m => by first | (simp [entryFrame, mkF, argsToLocals, Value.category]; done) | rfl) fun K => ?_
  show Go K _ _ _ _ _ _ "com/example/lowtide/lowtide/compact/KeyedSums" "add" _ 0 0 h 0 #[.val (.ref o), .val (.int nx), .val (.long ky), .second, .val (.long wt), .second, .unset] []
  obtain ⟨g_o, g_aK, g_aO, g_aS, g_aL, g_aR, ne_o_aK, ne_o_aO, ne_o_aS, ne_o_aL, ne_o_aR, ne_aK_aO, ne_aK_aS, ne_aK_aL, ne_aK_aR, ne_aO_aS, ne_aO_aL, ne_aO_aR, ne_aS_aL, ne_aS_aR, ne_aL_aR⟩ := D
  obtain ⟨sf, E_o, F_keys, F_own, F_sums, F_left, F_right, F_used, F_unused, F_root, A_aK, A_aO, A_aS, A_aL, A_aR⟩ := KK
  refine Own.iloadN (pc' := 1) d_prog_19_method_9_0 rfl rfl ?_
  refine Own.iconst (pc' := 2) (v := (-1 : Int32)) d_prog_19_method_9_1 (by decide) rfl ?_
  refine Own.icmp_ne (pc' := 13) (pc2 := 5) d_prog_19_method_9_2 (by decide) (by decide) rfl (fun c2_487 => ?_) (fun c2_487 => ?_)
  · obtain ⟨k0, l, r, hk0, hx, rfl, T4, T5⟩ := own_Tn1 T c2_487
    have hl1 : l.length ≤ 1 ∧ r.length ≤ 1 ∧ l.length + r.length ≤ 1 := by simp only [List.length_append, List.length_cons] at hlen; omega
    refine Own.aloadN (pc' := 14) d_prog_19_method_9_13 rfl rfl rfl ?_
    refine Own.getfield (pc' := 17) d_prog_19_method_9_14 rfl (host := "") (Or.inl (hw _ (List.mem_of_getElem? (i := 15) rfl))) Via.refl F_sums ?_
    refine Own.iloadN (pc' := 18) d_prog_19_method_9_17 rfl rfl ?_
    refine Own.dup2 (pc' := 19) d_prog_19_method_9_18 rfl rfl rfl ?_
    refine Own.laload (pc' := 20) (i := k0) d_prog_19_method_9_19 rfl A_aS hx hk0 ?_
    obtain ⟨v489, hv489⟩ : ∃ z, z = sf k0 := ⟨_, rfl⟩
    rw [← hv489]
    refine Own.lload (pc' := 22) d_prog_19_method_9_20 rfl rfl ?_
    refine Own.ladd (pc' := 23) d_prog_19_method_9_22 rfl fun v490 hv490 => ?_
    refine Own.lastore (pc' := 24) (i := k0) d_prog_19_method_9_23 rfl A_aS g_aS hx hk0 fun h491 Wh491 Ah491 => ?_
    have f492 := F_keys.other Wh491 (Or.inl ne_o_aS)
    have f493 := F_own.other Wh491 (Or.inl ne_o_aS)
    have f494 := F_sums.other Wh491 (Or.inl ne_o_aS)
    have f495 := F_left.other Wh491 (Or.inl ne_o_aS)
    have f496 := F_right.other Wh491 (Or.inl ne_o_aS)
    have f497 := F_used.other Wh491 (Or.inl ne_o_aS)
    have f498 := F_unused.other Wh491 (Or.inl ne_o_aS)
    have f499 := F_root.other Wh491 (Or.inl ne_o_aS)
    have f500 := E_o.wr Wh491
    have f501 := A_aK.other Wh491 ne_aK_aS
    have f502 := A_aO.other Wh491 ne_aO_aS
    have f503 := A_aL.other Wh491 (Ne.symm ne_aS_aL)
    have f504 := A_aR.other Wh491 (Ne.symm ne_aS_aR)
    have Zh491 : n0 ≤ h491.size := by rw [Wh491.size]; exact hZ0
    refine Own.lloadN (pc' := 25) d_prog_19_method_9_24 rfl rfl ?_
    refine Own.aloadN (pc' := 26) d_prog_19_method_9_25 rfl rfl rfl ?_
    refine Own.getfield (pc' := 29) d_prog_19_method_9_26 rfl (host := "") (Or.inl (hw _ (List.mem_of_getElem? (i := 11) rfl))) Via.refl f492 ?_
    refine Own.iloadN (pc' := 30) d_prog_19_method_9_29 rfl rfl ?_
    refine Own.laload (pc' := 31) (i := k0) d_prog_19_method_9_30 rfl f501 hx hk0 ?_
    obtain ⟨v505, hv505⟩ : ∃ z, z = kf k0 := ⟨_, rfl⟩
    rw [← hv505]
    refine Own.lcmp_ne (pc1 := 32) (pc' := 85) (pc2 := 35) d_prog_19_method_9_31 rfl d_prog_19_method_9_32 (by decide) (by decide) rfl (fun c31_505 => ?_) (fun c31_505 => ?_)
    · refine Own.lloadN (pc' := 86) d_prog_19_method_9_85 rfl rfl ?_
      refine Own.aloadN (pc' := 87) d_prog_19_method_9_86 rfl rfl rfl ?_
      refine Own.getfield (pc' := 90) d_prog_19_method_9_87 rfl (host := "") (Or.inl (hw _ (List.mem_of_getElem? (i := 11) rfl))) Via.refl f492 ?_
      refine Own.iloadN (pc' := 91) d_prog_19_method_9_90 rfl rfl ?_
      refine Own.laload (pc' := 92) (i := k0) d_prog_19_method_9_91 rfl f501 hx hk0 ?_
      obtain ⟨v507, hv507⟩ : ∃ z, z = kf k0 := ⟨_, rfl⟩
      rw [← hv507]
      refine Own.lcmp_ge (pc1 := 93) (pc' := 147) (pc2 := 96) d_prog_19_method_9_92 rfl d_prog_19_method_9_93 (by decide) (by decide) rfl (fun c92_507 => ?_) (fun c92_507 => ?_)
      · refine Own.aloadN (pc' := 148) d_prog_19_method_9_147 rfl rfl rfl ?_
        refine Own.aloadN (pc' := 149) d_prog_19_method_9_148 rfl rfl rfl ?_
        refine Own.getfield (pc' := 152) d_prog_19_method_9_149 rfl (host := "") (Or.inl (hw _ (List.mem_of_getElem? (i := 20) rfl))) Via.refl f496 ?_
        refine Own.iloadN (pc' := 153) d_prog_19_method_9_152 rfl rfl ?_
        refine Own.iaload (pc' := 154) (i := k0) d_prog_19_method_9_153 rfl f504 hx hk0 ?_
        obtain ⟨v509, hv509⟩ : ∃ z, z = rf k0 := ⟨_, rfl⟩
        rw [← hv509]
        refine Own.lloadN (pc' := 155) d_prog_19_method_9_154 rfl rfl ?_
        refine Own.lload (pc' := 157) d_prog_19_method_9_155 rfl rfl ?_
        refine Own.privat (pc' := 160) (y := (⟨"com/example/lowtide/lowtide/compact/KeyedSums", "add", "(IJJ)I"⟩ : MethodName)) (rm' := ({ frames := 3, cells := 0, slots := 0, locals := 44 } : Room)) (W := 0) (as := [(.int v509), (.long ky), (.long wt)]) (rest := []) (a := o) d_prog_19_method_9_157 rfl (hw _ (List.mem_of_getElem? (i := 31) rfl)) (hw _ (List.mem_of_getElem? (i := 32) rfl)) (hw _ (List.mem_of_getElem? (i := 2) rfl)) (hw _ (List.mem_of_getElem? (i := 33) rfl)) (hw _ (List.mem_of_getElem? (i := 3) rfl)) (hw _ (List.mem_of_getElem? (i := 34) rfl)) (by decide) f500 (c_add1 Z a0 hw n0 h491 Zh491 o v509 ky wt aK aO aS aL aR kf of lf rf us un rt ⟨g_o, g_aK, g_aO, g_aS, g_aL, g_aR, ne_o_aK, ne_o_aO, ne_o_aS, ne_o_aL, ne_o_aR, ne_aK_aO, ne_aK_aS, ne_aK_aL, ne_aK_aR, ne_aO_aS, ne_aO_aL, ne_aO_aR, ne_aS_aL, ne_aS_aR, ne_aL_aR⟩ ⟨_, f500, f492, f493, f494, f495, f496, f497, f498, f499, f501, f502, Ah491, f503, f504⟩ U r (hv509 ▸ T5) (own_S_mid hS).2.1 hU16 hus (fun p hp => hlt p (by simp [hp])) hun hl1.2.1) rfl rfl (lenOf pd_5 rfl) (by decide) rfl (by decide) (by decide) (by decide) fun r511 h510 qh510 => ?_
        obtain ⟨u512, qs513, kf514, of515, lf516, rf517, us518, un519, e2, Zh510, Kh510, AA⟩ := qh510
        subst e2
        obtain ⟨sf520, E_o_h510, F_keys_h510, F_own_h510, F_sums_h510, F_left_h510, F_right_h510, F_used_h510, F_unused_h510, F_root_h510, A_aK_h510, A_aO_h510, A_aS_h510, A_aL_h510, A_aR_h510⟩ := Kh510
        have AL := own_A_right (x := nx) hk0 hx T4 hS hlt (by rw [← hv507]; exact own_ltne c92_507 (fun e => c31_505 (e.trans (hv507.trans hv505.symm)))) AA
        show Go K _ _ _ _ _ _ _ _ _ 0 0 h510 160 #[.val (.ref o), .val (.int nx), .val (.long ky), .second, .val (.long wt), .second, .unset] [(.int u512)]
        refine Own.istore (pc' := 162) (L1 := #[.val (.ref o), .val (.int nx), .val (.long ky), .second, .val (.long wt), .second, .val (.int u512)]) d_prog_19_method_9_160 rfl rfl ?_
        refine Own.aloadN (pc' := 163) d_prog_19_method_9_162 rfl rfl rfl ?_
        refine Own.getfield (pc' := 166) d_prog_19_method_9_163 rfl (host := "") (Or.inl (hw _ (List.mem_of_getElem? (i := 20) rfl))) Via.refl F_right_h510 ?_
        refine Own.iloadN (pc' := 167) d_prog_19_method_9_166 rfl rfl ?_
        refine Own.iload (pc' := 169) d_prog_19_method_9_167 rfl rfl ?_
        refine Own.iastore (pc' := 170) (i := k0) d_prog_19_method_9_169 rfl A_aR_h510 g_aR hx hk0 fun h521 Wh521 Ah521 => ?_
        have f522 := F_keys_h510.other Wh521 (Or.inl ne_o_aR)
        have f523 := F_own_h510.other Wh521 (Or.inl ne_o_aR)
        have f524 := F_sums_h510.other Wh521 (Or.inl ne_o_aR)
        have f525 := F_left_h510.other Wh521 (Or.inl ne_o_aR)
        have f526 := F_right_h510.other Wh521 (Or.inl ne_o_aR)
        have f527 := F_used_h510.other Wh521 (Or.inl ne_o_aR)
        have f528 := F_unused_h510.other Wh521 (Or.inl ne_o_aR)
        have f529 := F_root_h510.other Wh521 (Or.inl ne_o_aR)
        have f530 := E_o_h510.wr Wh521
        have f531 := A_aK_h510.other Wh521 ne_aK_aR
        have f532 := A_aO_h510.other Wh521 ne_aO_aR
        have f533 := A_aS_h510.other Wh521 ne_aS_aR
        have f534 := A_aL_h510.other Wh521 ne_aL_aR
        have Zh521 : n0 ≤ h521.size := by rw [Wh521.size]; exact Zh510
        refine Own.iload (pc' := 172) d_prog_19_method_9_170 rfl rfl ?_
        refine Own.iconst (pc' := 173) (v := (-1 : Int32)) d_prog_19_method_9_172 (by decide) rfl ?_
        refine Own.icmp_eq (pc' := 196) (pc2 := 176) d_prog_19_method_9_173 (by decide) (by decide) rfl (fun c173_534 => ?_) (fun c173_534 => ?_)
        · refine Own.iloadN (pc' := 197) d_prog_19_method_9_196 rfl rfl ?_
          subst hv489 hv490 hv505 hv507 hv509
          exact Own.ireturnI d_prog_19_method_9_197 rfl (⟨_, _, _, _, _, _, _, _, rfl, Zh521, ⟨_, f530, f522, f523, f524, f525, f526, f527, f528, f529, f531, f532, f533, f534, Ah521⟩, AL⟩) (by decide) (by decide)
        · refine Own.iload (pc' := 178) d_prog_19_method_9_176 rfl rfl ?_
          refine Own.static (pc' := 181) (y := (⟨"com/example/lowtide/lowtide/compact/KeyedSums", "rank", "(I)I"⟩ : MethodName)) (rm' := ({ frames := 0, cells := 0, slots := 0, locals := 0 } : Room)) (W := 0) (as := [(.int u512)]) (rest := []) d_prog_19_method_9_178 rfl (hw _ (List.mem_of_getElem? (i := 55) rfl)) (hw _ (List.mem_of_getElem? (i := 56) rfl)) (hw _ (List.mem_of_getElem? (i := 3) rfl)) (hw _ (List.mem_of_getElem? (i := 57) rfl)) (by decide) (c_rank Z a0 hw n0 h521 Zh521 u512) rfl rfl (lenOf pd_2 rfl) (by decide) rfl (by decide) (by decide) (by decide) fun r537 h536 qh536 => ?_
          obtain ⟨u538, e2, e1⟩ := qh536
          subst e1 e2
          show Go K _ _ _ _ _ _ _ _ _ 0 0 h521 181 #[.val (.ref o), .val (.int nx), .val (.long ky), .second, .val (.long wt), .second, .val (.int u512)] [(.int u538)]
          refine Own.iloadN (pc' := 182) d_prog_19_method_9_181 rfl rfl ?_
          refine Own.static (pc' := 185) (y := (⟨"com/example/lowtide/lowtide/compact/KeyedSums", "rank", "(I)I"⟩ : MethodName)) (rm' := ({ frames := 0, cells := 0, slots := 0, locals := 0 } : Room)) (W := 1) (as := [(.int nx)]) (rest := [(.int u538)]) d_prog_19_method_9_182 rfl (hw _ (List.mem_of_getElem? (i := 55) rfl)) (hw _ (List.mem_of_getElem? (i := 56) rfl)) (hw _ (List.mem_of_getElem? (i := 3) rfl)) (hw _ (List.mem_of_getElem? (i := 57) rfl)) (by decide) (c_rank Z a0 hw n0 h521 Zh521 nx) rfl rfl (lenOf pd_2 rfl) (by decide) rfl (by decide) (by decide) (by decide) fun r540 h539 qh539 => ?_
          obtain ⟨u541, e2, e1⟩ := qh539
          subst e1 e2
          show Go K _ _ _ _ _ _ _ _ _ 0 0 h521 185 #[.val (.ref o), .val (.int nx), .val (.long ky), .second, .val (.long wt), .second, .val (.int u512)] [(.int u541), (.int u538)]
          refine Own.icmp_le (pc' := 196) (pc2 := 188) d_prog_19_method_9_185 (by decide) (by decide) rfl (fun c185_541 => ?_) (fun c185_541 => ?_)
          · refine Own.iloadN (pc' := 197) d_prog_19_method_9_196 rfl rfl ?_
            subst hv489 hv490 hv505 hv507 hv509
            exact Own.ireturnI d_prog_19_method_9_197 rfl (⟨_, _, _, _, _, _, _, _, rfl, Zh521, ⟨_, f530, f522, f523, f524, f525, f526, f527, f528, f529, f531, f532, f533, f534, Ah521⟩, AL⟩) (by decide) (by decide)
          · refine Own.aloadN (pc' := 189) d_prog_19_method_9_188 rfl rfl rfl ?_
            refine Own.iloadN (pc' := 190) d_prog_19_method_9_189 rfl rfl ?_
            obtain ⟨j, hj, -, hlj, hne, V1, V2, V3, TR, eR⟩ := own_rotL AL.1 (AL.nd hS).2 hx (by rw [own_set_eq]; exact c173_534)
            refine Own.privat (pc' := 193) (y := (⟨"com/example/lowtide/lowtide/compact/KeyedSums", "turnLeft", "(I)I"⟩ : MethodName)) (rm' := ({ frames := 2, cells := 0, slots := 0, locals := 30 } : Room)) (W := 0) (as := [(.int nx)]) (rest := []) (a := o) d_prog_19_method_9_190 rfl (hw _ (List.mem_of_getElem? (i := 73) rfl)) (hw _ (List.mem_of_getElem? (i := 74) rfl)) (hw _ (List.mem_of_getElem? (i := 2) rfl)) (hw _ (List.mem_of_getElem? (i := 75) rfl)) (hw _ (List.mem_of_getElem? (i := 3) rfl)) (hw _ (List.mem_of_getElem? (i := 76) rfl)) (by decide) f530 (c_turnLeft Z a0 hw n0 h521 Zh521 o nx aK aO aS aL aR kf514 of515 lf516 (ownSet rf517 k0 u512) us518 un519 rt ⟨g_o, g_aK, g_aO, g_aS, g_aL, g_aR, ne_o_aK, ne_o_aO, ne_o_aS, ne_o_aL, ne_o_aR, ne_aK_aO, ne_aK_aS, ne_aK_aL, ne_aK_aR, ne_aO_aS, ne_aO_aL, ne_aO_aR, ne_aS_aL, ne_aS_aR, ne_aL_aR⟩ ⟨_, f530, f522, f523, f524, f525, f526, f527, f528, f529, f531, f532, f533, f534, Ah521⟩ k0 j hk0 hx hj hlj hne V1 V2 V3) rfl rfl (lenOf pd_2 rfl) (by decide) rfl (by decide) (by decide) (by decide) fun r544 h543 qh543 => ?_
            obtain ⟨v545, e2, hv545, Zh543, Kh543⟩ := qh543
            subst e2
            obtain ⟨sf546, E_o_h543, F_keys_h543, F_own_h543, F_sums_h543, F_left_h543, F_right_h543, F_used_h543, F_unused_h543, F_root_h543, A_aK_h543, A_aO_h543, A_aS_h543, A_aL_h543, A_aR_h543⟩ := Kh543
            show Go K _ _ _ _ _ _ _ _ _ 0 0 h543 193 #[.val (.ref o), .val (.int nx), .val (.long ky), .second, .val (.long wt), .second, .val (.int u512)] [(.int v545)]
            refine Own.goto (pc' := 197) d_prog_19_method_9_193 (by decide) (by decide) ?_
            subst hv489 hv490 hv505 hv507 hv509 hv545
            exact Own.ireturnI d_prog_19_method_9_197 rfl (⟨_, _, _, _, _, _, _, _, rfl, Zh543, ⟨_, E_o_h543, F_keys_h543, F_own_h543, F_sums_h543, F_left_h543, F_right_h543, F_used_h543, F_unused_h543, F_root_h543, A_aK_h543, A_aO_h543, A_aS_h543, A_aL_h543, A_aR_h543⟩, AL.turn TR eR⟩) (by decide) (by decide)
      · refine Own.aloadN (pc' := 97) d_prog_19_method_9_96 rfl rfl rfl ?_
        refine Own.aloadN (pc' := 98) d_prog_19_method_9_97 rfl rfl rfl ?_
        refine Own.getfield (pc' := 101) d_prog_19_method_9_98 rfl (host := "") (Or.inl (hw _ (List.mem_of_getElem? (i := 18) rfl))) Via.refl f495 ?_
        refine Own.iloadN (pc' := 102) d_prog_19_method_9_101 rfl rfl ?_
        refine Own.iaload (pc' := 103) (i := k0) d_prog_19_method_9_102 rfl f503 hx hk0 ?_
        obtain ⟨v547, hv547⟩ : ∃ z, z = lf k0 := ⟨_, rfl⟩
        rw [← hv547]
        refine Own.lloadN (pc' := 104) d_prog_19_method_9_103 rfl rfl ?_
        refine Own.lload (pc' := 106) d_prog_19_method_9_104 rfl rfl ?_
        refine Own.privat (pc' := 109) (y := (⟨"com/example/lowtide/lowtide/compact/KeyedSums", "add", "(IJJ)I"⟩ : MethodName)) (rm' := ({ frames := 3, cells := 0, slots := 0, locals := 44 } : Room)) (W := 0) (as := [(.int v547), (.long ky), (.long wt)]) (rest := []) (a := o) d_prog_19_method_9_106 rfl (hw _ (List.mem_of_getElem? (i := 31) rfl)) (hw _ (List.mem_of_getElem? (i := 32) rfl)) (hw _ (List.mem_of_getElem? (i := 2) rfl)) (hw _ (List.mem_of_getElem? (i := 33) rfl)) (hw _ (List.mem_of_getElem? (i := 3) rfl)) (hw _ (List.mem_of_getElem? (i := 34) rfl)) (by decide) f500 (c_add1 Z a0 hw n0 h491 Zh491 o v547 ky wt aK aO aS aL aR kf of lf rf us un rt ⟨g_o, g_aK, g_aO, g_aS, g_aL, g_aR, ne_o_aK, ne_o_aO, ne_o_aS, ne_o_aL, ne_o_aR, ne_aK_aO, ne_aK_aS, ne_aK_aL, ne_aK_aR, ne_aO_aS, ne_aO_aL, ne_aO_aR, ne_aS_aL, ne_aS_aR, ne_aL_aR⟩ ⟨_, f500, f492, f493, f494, f495, f496, f497, f498, f499, f501, f502, Ah491, f503, f504⟩ U l (hv547 ▸ T4) (own_S_mid hS).1 hU16 hus (fun p hp => hlt p (by simp [hp])) hun hl1.1) rfl rfl (lenOf pd_5 rfl) (by decide) rfl (by decide) (by decide) (by decide) fun r549 h548 qh548 => ?_
        obtain ⟨u550, qs551, kf552, of553, lf554, rf555, us556, un557, e2, Zh548, Kh548, AA⟩ := qh548
        subst e2
        obtain ⟨sf558, E_o_h548, F_keys_h548, F_own_h548, F_sums_h548, F_left_h548, F_right_h548, F_used_h548, F_unused_h548, F_root_h548, A_aK_h548, A_aO_h548, A_aS_h548, A_aL_h548, A_aR_h548⟩ := Kh548
        have AL := own_A_left (x := nx) hk0 hx T5 hS hlt (by rw [← hv507]; exact Int.not_le.mp c92_507) AA
        show Go K _ _ _ _ _ _ _ _ _ 0 0 h548 109 #[.val (.ref o), .val (.int nx), .val (.long ky), .second, .val (.long wt), .second, .unset] [(.int u550)]
        refine Own.istore (pc' := 111) (L1 := #[.val (.ref o), .val (.int nx), .val (.long ky), .second, .val (.long wt), .second, .val (.int u550)]) d_prog_19_method_9_109 rfl rfl ?_
        refine Own.aloadN (pc' := 112) d_prog_19_method_9_111 rfl rfl rfl ?_
        refine Own.getfield (pc' := 115) d_prog_19_method_9_112 rfl (host := "") (Or.inl (hw _ (List.mem_of_getElem? (i := 18) rfl))) Via.refl F_left_h548 ?_
        refine Own.iloadN (pc' := 116) d_prog_19_method_9_115 rfl rfl ?_
        refine Own.iload (pc' := 118) d_prog_19_method_9_116 rfl rfl ?_
        refine Own.iastore (pc' := 119) (i := k0) d_prog_19_method_9_118 rfl A_aL_h548 g_aL hx hk0 fun h559 Wh559 Ah559 => ?_
        have f560 := F_keys_h548.other Wh559 (Or.inl ne_o_aL)
        have f561 := F_own_h548.other Wh559 (Or.inl ne_o_aL)
        have f562 := F_sums_h548.other Wh559 (Or.inl ne_o_aL)
        have f563 := F_left_h548.other Wh559 (Or.inl ne_o_aL)
        have f564 := F_right_h548.other Wh559 (Or.inl ne_o_aL)
        have f565 := F_used_h548.other Wh559 (Or.inl ne_o_aL)
        have f566 := F_unused_h548.other Wh559 (Or.inl ne_o_aL)
        have f567 := F_root_h548.other Wh559 (Or.inl ne_o_aL)
        have f568 := E_o_h548.wr Wh559
        have f569 := A_aK_h548.other Wh559 ne_aK_aL
        have f570 := A_aO_h548.other Wh559 ne_aO_aL
        have f571 := A_aS_h548.other Wh559 ne_aS_aL
        have f572 := A_aR_h548.other Wh559 (Ne.symm ne_aL_aR)
        have Zh559 : n0 ≤ h559.size := by rw [Wh559.size]; exact Zh548
        refine Own.iload (pc' := 121) d_prog_19_method_9_119 rfl rfl ?_
        refine Own.iconst (pc' := 122) (v := (-1 : Int32)) d_prog_19_method_9_121 (by decide) rfl ?_
        refine Own.icmp_eq (pc' := 145) (pc2 := 125) d_prog_19_method_9_122 (by decide) (by decide) rfl (fun c122_572 => ?_) (fun c122_572 => ?_)
        · refine Own.iloadN (pc' := 146) d_prog_19_method_9_145 rfl rfl ?_
          subst hv489 hv490 hv505 hv507 hv547
          exact Own.ireturnI d_prog_19_method_9_146 rfl (⟨_, _, _, _, _, _, _, _, rfl, Zh559, ⟨_, f568, f560, f561, f562, f563, f564, f565, f566, f567, f569, f570, f571, Ah559, f572⟩, AL⟩) (by decide) (by decide)
        · refine Own.iload (pc' := 127) d_prog_19_method_9_125 rfl rfl ?_
          refine Own.static (pc' := 130) (y := (⟨"com/example/lowtide/lowtide/compact/KeyedSums", "rank", "(I)I"⟩ : MethodName)) (rm' := ({ frames := 0, cells := 0, slots := 0, locals := 0 } : Room)) (W := 0) (as := [(.int u550)]) (rest := []) d_prog_19_method_9_127 rfl (hw _ (List.mem_of_getElem? (i := 55) rfl)) (hw _ (List.mem_of_getElem? (i := 56) rfl)) (hw _ (List.mem_of_getElem? (i := 3) rfl)) (hw _ (List.mem_of_getElem? (i := 57) rfl)) (by decide) (c_rank Z a0 hw n0 h559 Zh559 u550) rfl rfl (lenOf pd_2 rfl) (by decide) rfl (by decide) (by decide) (by decide) fun r575 h574 qh574 => ?_
          obtain ⟨u576, e2, e1⟩ := qh574
          subst e1 e2
          show Go K _ _ _ _ _ _ _ _ _ 0 0 h559 130 #[.val (.ref o), .val (.int nx), .val (.long ky), .second, .val (.long wt), .second, .val (.int u550)] [(.int u576)]
          refine Own.iloadN (pc' := 131) d_prog_19_method_9_130 rfl rfl ?_
          refine Own.static (pc' := 134) (y := (⟨"com/example/lowtide/lowtide/compact/KeyedSums", "rank", "(I)I"⟩ : MethodName)) (rm' := ({ frames := 0, cells := 0, slots := 0, locals := 0 } : Room)) (W := 1) (as := [(.int nx)]) (rest := [(.int u576)]) d_prog_19_method_9_131 rfl (hw _ (List.mem_of_getElem? (i := 55) rfl)) (hw _ (List.mem_of_getElem? (i := 56) rfl)) (hw _ (List.mem_of_getElem? (i := 3) rfl)) (hw _ (List.mem_of_getElem? (i := 57) rfl)) (by decide) (c_rank Z a0 hw n0 h559 Zh559 nx) rfl rfl (lenOf pd_2 rfl) (by decide) rfl (by decide) (by decide) (by decide) fun r578 h577 qh577 => ?_
          obtain ⟨u579, e2, e1⟩ := qh577
          subst e1 e2
          show Go K _ _ _ _ _ _ _ _ _ 0 0 h559 134 #[.val (.ref o), .val (.int nx), .val (.long ky), .second, .val (.long wt), .second, .val (.int u550)] [(.int u579), (.int u576)]
          refine Own.icmp_le (pc' := 145) (pc2 := 137) d_prog_19_method_9_134 (by decide) (by decide) rfl (fun c134_579 => ?_) (fun c134_579 => ?_)
          · refine Own.iloadN (pc' := 146) d_prog_19_method_9_145 rfl rfl ?_
            subst hv489 hv490 hv505 hv507 hv547
            exact Own.ireturnI d_prog_19_method_9_146 rfl (⟨_, _, _, _, _, _, _, _, rfl, Zh559, ⟨_, f568, f560, f561, f562, f563, f564, f565, f566, f567, f569, f570, f571, Ah559, f572⟩, AL⟩) (by decide) (by decide)
          · refine Own.aloadN (pc' := 138) d_prog_19_method_9_137 rfl rfl rfl ?_
            refine Own.iloadN (pc' := 139) d_prog_19_method_9_138 rfl rfl ?_
            obtain ⟨j, hj, -, hlj, hne, V1, V2, V3, TR, eR⟩ := own_rotR AL.1 (AL.nd hS).2 hx (by rw [own_set_eq]; exact c122_572)
            refine Own.privat (pc' := 142) (y := (⟨"com/example/lowtide/lowtide/compact/KeyedSums", "turnRight", "(I)I"⟩ : MethodName)) (rm' := ({ frames := 2, cells := 0, slots := 0, locals := 30 } : Room)) (W := 0) (as := [(.int nx)]) (rest := []) (a := o) d_prog_19_method_9_139 rfl (hw _ (List.mem_of_getElem? (i := 61) rfl)) (hw _ (List.mem_of_getElem? (i := 62) rfl)) (hw _ (List.mem_of_getElem? (i := 2) rfl)) (hw _ (List.mem_of_getElem? (i := 63) rfl)) (hw _ (List.mem_of_getElem? (i := 3) rfl)) (hw _ (List.mem_of_getElem? (i := 64) rfl)) (by decide) f568 (c_turnRight Z a0 hw n0 h559 Zh559 o nx aK aO aS aL aR kf552 of553 (ownSet lf554 k0 u550) rf555 us556 un557 rt ⟨g_o, g_aK, g_aO, g_aS, g_aL, g_aR, ne_o_aK, ne_o_aO, ne_o_aS, ne_o_aL, ne_o_aR, ne_aK_aO, ne_aK_aS, ne_aK_aL, ne_aK_aR, ne_aO_aS, ne_aO_aL, ne_aO_aR, ne_aS_aL, ne_aS_aR, ne_aL_aR⟩ ⟨_, f568, f560, f561, f562, f563, f564, f565, f566, f567, f569, f570, f571, Ah559, f572⟩ k0 j hk0 hx hj hlj hne V1 V2 V3) rfl rfl (lenOf pd_2 rfl) (by decide) rfl (by decide) (by decide) (by decide) fun r582 h581 qh581 => ?_
            obtain ⟨v583, e2, hv583, Zh581, Kh581⟩ := qh581
            subst e2
            obtain ⟨sf584, E_o_h581, F_keys_h581, F_own_h581, F_sums_h581, F_left_h581, F_right_h581, F_used_h581, F_unused_h581, F_root_h581, A_aK_h581, A_aO_h581, A_aS_h581, A_aL_h581, A_aR_h581⟩ := Kh581
            show Go K _ _ _ _ _ _ _ _ _ 0 0 h581 142 #[.val (.ref o), .val (.int nx), .val (.long ky), .second, .val (.long wt), .second, .val (.int u550)] [(.int v583)]
            refine Own.goto (pc' := 146) d_prog_19_method_9_142 (by decide) (by decide) ?_
            subst hv489 hv490 hv505 hv507 hv547 hv583
            exact Own.ireturnI d_prog_19_method_9_146 rfl (⟨_, _, _, _, _, _, _, _, rfl, Zh581, ⟨_, E_o_h581, F_keys_h581, F_own_h581, F_sums_h581, F_left_h581, F_right_h581, F_used_h581, F_unused_h581, F_root_h581, A_aK_h581, A_aO_h581, A_aS_h581, A_aL_h581, A_aR_h581⟩, AL.turn TR eR⟩) (by decide) (by decide)
    · refine Own.aloadN (pc' := 36) d_prog_19_method_9_35 rfl rfl rfl ?_
      refine Own.getfield (pc' := 39) d_prog_19_method_9_36 rfl (host := "") (Or.inl (hw _ (List.mem_of_getElem? (i := 13) rfl))) Via.refl f493 ?_
      refine Own.iloadN (pc' := 40) d_prog_19_method_9_39 rfl rfl ?_
      refine Own.dup2 (pc' := 41) d_prog_19_method_9_40 rfl rfl rfl ?_
      refine Own.laload (pc' := 42) (i := k0) d_prog_19_method_9_41 rfl f502 hx hk0 ?_
      obtain ⟨v585, hv585⟩ : ∃ z, z = of k0 := ⟨_, rfl⟩
      rw [← hv585]
      refine Own.lload (pc' := 44) d_prog_19_method_9_42 rfl rfl ?_
      refine Own.ladd (pc' := 45) d_prog_19_method_9_44 rfl fun v586 hv586 => ?_
      refine Own.lastore (pc' := 46) (i := k0) d_prog_19_method_9_45 rfl f502 g_aO hx hk0 fun h587 Wh587 Ah587 => ?_
      have f588 := f492.other Wh587 (Or.inl ne_o_aO)
      have f589 := f493.other Wh587 (Or.inl ne_o_aO)
      have f590 := f494.other Wh587 (Or.inl ne_o_aO)
      have f591 := f495.other Wh587 (Or.inl ne_o_aO)
      have f592 := f496.other Wh587 (Or.inl ne_o_aO)
      have f593 := f497.other Wh587 (Or.inl ne_o_aO)
      have f594 := f498.other Wh587 (Or.inl ne_o_aO)
      have f595 := f499.other Wh587 (Or.inl ne_o_aO)
      have f596 := f500.wr Wh587
      have f597 := f501.other Wh587 ne_aK_aO
      have f598 := Ah491.other Wh587 (Ne.symm ne_aO_aS)
      have f599 := f503.other Wh587 (Ne.symm ne_aO_aL)
      have f600 := f504.other Wh587 (Ne.symm ne_aO_aR)
      have Zh587 : n0 ≤ h587.size := by rw [Wh587.size]; exact Zh491
      refine Own.aloadN (pc' := 47) d_prog_19_method_9_46 rfl rfl rfl ?_
      refine Own.getfield (pc' := 50) d_prog_19_method_9_47 rfl (host := "") (Or.inl (hw _ (List.mem_of_getElem? (i := 13) rfl))) Via.refl f589 ?_
      refine Own.iloadN (pc' := 51) d_prog_19_method_9_50 rfl rfl ?_
      refine Own.laload (pc' := 52) (i := k0) d_prog_19_method_9_51 rfl Ah587 hx hk0 ?_
      obtain ⟨v601, hv601⟩ : ∃ z, z = (ownSet of k0 v586) k0 := ⟨_, rfl⟩
      rw [← hv601]
      refine Own.lconst0 (pc' := 53) d_prog_19_method_9_52 rfl ?_
      refine Own.lcmp_eq (pc1 := 54) (pc' := 59) (pc2 := 57) d_prog_19_method_9_53 rfl d_prog_19_method_9_54 (by decide) (by decide) rfl (fun c53_601 => ?_) (fun c53_601 => ?_)
      · refine Own.aloadN (pc' := 60) d_prog_19_method_9_59 rfl rfl rfl ?_
        refine Own.aloadN (pc' := 61) d_prog_19_method_9_60 rfl rfl rfl ?_
        refine Own.getfield (pc' := 64) d_prog_19_method_9_61 rfl (host := "") (Or.inl (hw _ (List.mem_of_getElem? (i := 18) rfl))) Via.refl f591 ?_
        refine Own.iloadN (pc' := 65) d_prog_19_method_9_64 rfl rfl ?_
        refine Own.iaload (pc' := 66) (i := k0) d_prog_19_method_9_65 rfl f599 hx hk0 ?_
        obtain ⟨v603, hv603⟩ : ∃ z, z = lf k0 := ⟨_, rfl⟩
        rw [← hv603]
        refine Own.aloadN (pc' := 67) d_prog_19_method_9_66 rfl rfl rfl ?_
        refine Own.getfield (pc' := 70) d_prog_19_method_9_67 rfl (host := "") (Or.inl (hw _ (List.mem_of_getElem? (i := 20) rfl))) Via.refl f592 ?_
        refine Own.iloadN (pc' := 71) d_prog_19_method_9_70 rfl rfl ?_
        refine Own.iaload (pc' := 72) (i := k0) d_prog_19_method_9_71 rfl f600 hx hk0 ?_
        obtain ⟨v604, hv604⟩ : ∃ z, z = rf k0 := ⟨_, rfl⟩
        rw [← hv604]
        refine Own.privat (pc' := 75) (y := (⟨"com/example/lowtide/lowtide/compact/KeyedSums", "join", "(II)I"⟩ : MethodName)) (rm' := ({ frames := 0, cells := 0, slots := 0, locals := 0 } : Room)) (W := 0) (as := [(.int v603), (.int v604)]) (rest := []) (a := o) d_prog_19_method_9_72 rfl (hw _ (List.mem_of_getElem? (i := 77) rfl)) (hw _ (List.mem_of_getElem? (i := 78) rfl)) (hw _ (List.mem_of_getElem? (i := 2) rfl)) (hw _ (List.mem_of_getElem? (i := 79) rfl)) (hw _ (List.mem_of_getElem? (i := 3) rfl)) (hw _ (List.mem_of_getElem? (i := 80) rfl)) (by decide) f596 (c_join1 Z a0 hw n0 h587 Zh587 o v603 v604 aK aO aS aL aR kf (ownSet of k0 v586) lf rf us un rt ⟨g_o, g_aK, g_aO, g_aS, g_aL, g_aR, ne_o_aK, ne_o_aO, ne_o_aS, ne_o_aL, ne_o_aR, ne_aK_aO, ne_aK_aS, ne_aK_aL, ne_aK_aR, ne_aO_aS, ne_aO_aL, ne_aO_aR, ne_aS_aL, ne_aS_aR, ne_aL_aR⟩ ⟨_, f596, f588, f589, f590, f591, f592, f593, f594, f595, f597, Ah587, f598, f599, f600⟩ l r (hv603 ▸ T4) (hv604 ▸ T5) (own_nd_mid (own_S_nd hS)).2.2.2.2.2 hl1.2.2) rfl rfl (lenOf pd_3 rfl) (by decide) rfl (by decide) (by decide) (by decide) fun r606 h605 qh605 => ?_
        obtain ⟨u607, lf608, rf609, e2, Zh605, Kh605, TT, ee⟩ := qh605
        subst e2
        obtain ⟨sf610, E_o_h605, F_keys_h605, F_own_h605, F_sums_h605, F_left_h605, F_right_h605, F_used_h605, F_unused_h605, F_root_h605, A_aK_h605, A_aO_h605, A_aS_h605, A_aL_h605, A_aR_h605⟩ := Kh605
        show Go K _ _ _ _ _ _ _ _ _ 0 0 h605 75 #[.val (.ref o), .val (.int nx), .val (.long ky), .second, .val (.long wt), .second, .unset] [(.int u607)]
        refine Own.istore (pc' := 77) (L1 := #[.val (.ref o), .val (.int nx), .val (.long ky), .second, .val (.long wt), .second, .val (.int u607)]) d_prog_19_method_9_75 rfl rfl ?_
        refine Own.aloadN (pc' := 78) d_prog_19_method_9_77 rfl rfl rfl ?_
        refine Own.iloadN (pc' := 79) d_prog_19_method_9_78 rfl rfl ?_
        refine Own.privat (pc' := 82) (y := (⟨"com/example/lowtide/lowtide/compact/KeyedSums", "release", "(I)V"⟩ : MethodName)) (rm' := ({ frames := 0, cells := 0, slots := 0, locals := 0 } : Room)) (W := 0) (as := [(.int nx)]) (rest := []) (a := o) d_prog_19_method_9_79 rfl (hw _ (List.mem_of_getElem? (i := 81) rfl)) (hw _ (List.mem_of_getElem? (i := 82) rfl)) (hw _ (List.mem_of_getElem? (i := 2) rfl)) (hw _ (List.mem_of_getElem? (i := 83) rfl)) (hw _ (List.mem_of_getElem? (i := 3) rfl)) (hw _ (List.mem_of_getElem? (i := 84) rfl)) (by decide) E_o_h605 (c_release Z a0 hw n0 h605 Zh605 o nx aK aO aS aL aR kf (ownSet of k0 v586) lf608 rf609 us un rt ⟨g_o, g_aK, g_aO, g_aS, g_aL, g_aR, ne_o_aK, ne_o_aO, ne_o_aS, ne_o_aL, ne_o_aR, ne_aK_aO, ne_aK_aS, ne_aK_aL, ne_aK_aR, ne_aO_aS, ne_aO_aL, ne_aO_aR, ne_aS_aL, ne_aS_aR, ne_aL_aR⟩ ⟨_, E_o_h605, F_keys_h605, F_own_h605, F_sums_h605, F_left_h605, F_right_h605, F_used_h605, F_unused_h605, F_root_h605, A_aK_h605, A_aO_h605, A_aS_h605, A_aL_h605, A_aR_h605⟩ k0 hk0 hx) rfl rfl (lenOf pd_1 rfl) (by decide) rfl (by decide) (by decide) (by decide) fun r612 h611 qh611 => ?_
        obtain ⟨e2, Zh611, Kh611⟩ := qh611
        subst e2
        obtain ⟨sf613, E_o_h611, F_keys_h611, F_own_h611, F_sums_h611, F_left_h611, F_right_h611, F_used_h611, F_unused_h611, F_root_h611, A_aK_h611, A_aO_h611, A_aS_h611, A_aL_h611, A_aR_h611⟩ := Kh611
        show Go K _ _ _ _ _ _ _ _ _ 0 0 h611 82 #[.val (.ref o), .val (.int nx), .val (.long ky), .second, .val (.long wt), .second, .val (.int u607)] []
        refine Own.iload (pc' := 84) d_prog_19_method_9_82 rfl rfl ?_
        have hke := Decidable.not_not.mp c31_505
        rw [hv601, own_set_eq] at c53_601
        subst hv601
        subst hv489 hv490 hv505 hv585 hv586 hv603 hv604
        exact Own.ireturnI d_prog_19_method_9_84 rfl (⟨_, _, _, _, _, _, _, _, rfl, Zh611, ⟨_, E_o_h611, F_keys_h611, F_own_h611, F_sums_h611, F_left_h611, F_right_h611, F_used_h611, F_unused_h611, F_root_h611, A_aK_h611, A_aO_h611, A_aS_h611, A_aL_h611, A_aR_h611⟩, own_A_go TT ee hS hke c53_601⟩) (by decide) (by decide)
      · refine Own.iloadN (pc' := 58) d_prog_19_method_9_57 rfl rfl ?_
        have hke := Decidable.not_not.mp c31_505
        rw [hv601, own_set_eq] at c53_601
        subst hv601
        subst hv489 hv490 hv505 hv585 hv586
        exact Own.ireturnI d_prog_19_method_9_58 rfl (⟨_, _, _, _, _, _, _, _, rfl, Zh587, ⟨_, f596, f588, f589, f590, f591, f592, f593, f594, f595, f597, Ah587, f598, f599, f600⟩, own_A_stay T hS hke c53_601⟩) (by decide) (by decide)
  · refine Own.aloadN (pc' := 6) d_prog_19_method_9_5 rfl rfl rfl ?_
    refine Own.lloadN (pc' := 7) d_prog_19_method_9_6 rfl rfl ?_
    refine Own.lload (pc' := 9) d_prog_19_method_9_7 rfl rfl ?_
    refine Own.privat (pc' := 12) (y := (⟨"com/example/lowtide/lowtide/compact/KeyedSums", "place", "(JJ)I"⟩ : MethodName)) (rm' := ({ frames := 0, cells := 0, slots := 0, locals := 0 } : Room)) (W := 0) (as := [(.long ky), (.long wt)]) (rest := []) (a := o) d_prog_19_method_9_9 rfl (hw _ (List.mem_of_getElem? (i := 35) rfl)) (hw _ (List.mem_of_getElem? (i := 36) rfl)) (hw _ (List.mem_of_getElem? (i := 2) rfl)) (hw _ (List.mem_of_getElem? (i := 37) rfl)) (hw _ (List.mem_of_getElem? (i := 3) rfl)) (hw _ (List.mem_of_getElem? (i := 38) rfl)) (by decide) E_o (c_place Z a0 hw n0 h hZ0 o ky wt aK aO aS aL aR kf of lf rf us un rt ⟨g_o, g_aK, g_aO, g_aS, g_aL, g_aR, ne_o_aK, ne_o_aO, ne_o_aS, ne_o_aL, ne_o_aR, ne_aK_aO, ne_aK_aS, ne_aK_aL, ne_aK_aR, ne_aO_aS, ne_aO_aL, ne_aO_aR, ne_aS_aL, ne_aS_aR, ne_aL_aR⟩ ⟨_, E_o, F_keys, F_own, F_sums, F_left, F_right, F_used, F_unused, F_root, A_aK, A_aO, A_aS, A_aL, A_aR⟩ U hU16 hus hun) rfl rfl (lenOf pd_4 rfl) (by decide) rfl (by decide) (by decide) (by decide) fun r615 h614 qh614 => ?_
    obtain ⟨u616, e2, hzu616, Zh614, Kh614⟩ := qh614
    subst e2
    obtain ⟨sf617, E_o_h614, F_keys_h614, F_own_h614, F_sums_h614, F_left_h614, F_right_h614, F_used_h614, F_unused_h614, F_root_h614, A_aK_h614, A_aO_h614, A_aS_h614, A_aL_h614, A_aR_h614⟩ := Kh614
    show Go K _ _ _ _ _ _ _ _ _ 0 0 h614 12 #[.val (.ref o), .val (.int nx), .val (.long ky), .second, .val (.long wt), .second, .unset] [(.int u616)]
    obtain rfl := own_Tz T (Decidable.not_not.mp c2_487)
    exact Own.ireturnI d_prog_19_method_9_12 rfl (⟨_, _, _, _, _, _, _, _, rfl, Zh614, ⟨_, E_o_h614, F_keys_h614, F_own_h614, F_sums_h614, F_left_h614, F_right_h614, F_used_h614, F_unused_h614, F_root_h614, A_aK_h614, A_aO_h614, A_aS_h614, A_aL_h614, A_aR_h614⟩, own_A_new hU16 hus hzu616⟩) (by decide) (by decide)
set_option maxRecDepth 65536 in
set_option maxHeartbeats 40000000 in
theorem c_add3 (Z : State) (a0 : Array Value) (hw : ∀ d ∈ tables_1, d.before a0 Z = true) (n0 : Nat) (h : Heap) (hZ0 : n0 ≤ h.size) (o : Addr) (nx : Int32) (ky : Int64) (wt : Int64) (aK aO aS aL aR : Addr) (kf of : Nat → Int64) (lf rf : Nat → Int32) (us un rt : Int32) (D : own_D n0 o aK aO aS aL aR) (KK : own_K Z h o aK aO aS aL aR kf of lf rf us un rt) (U : Nat) (ps : List Nat) (T : own_T lf rf nx ps) (hS : own_S (own_c kf of ps)) (hU16 : U < 16) (hus : us.toInt = (U : Int)) (hlt : ∀ p ∈ ps, p < U) (hun : un = -1) (hlen : ps.length ≤ 3) :
    Con Z n0 (⟨"com/example/lowtide/lowtide/compact/KeyedSums", "add", "(IJJ)I"⟩ : MethodName) prog_19_method_9_code 7 (some .int) ({ frames := 5, cells := 0, slots := 0, locals := 80 } : Room) [(.ref o), (.int nx), (.long ky), (.long wt)] h (fun v h' => ∃ z qs kf' of' lf' rf' us' un', v = some (.int z) ∧ n0 ≤ h'.size ∧ own_K Z h' o aK aO aS aL aR kf' of' lf' rf' us' un' rt ∧ own_A kf of lf rf us un U ky wt ps kf' of' lf' rf' us' un' z qs) := by
  refine Own.enter (plainFor_of_name pn_0) (L0 := #[.val (.ref o), .val (.int nx), .val (.long ky), .second, .val (.long wt), .second, .unset]) (fun m => by first | (simp [entryFrame, mkF, argsToLocals, Value.category]; done) | rfl) fun K => ?_
  show Go K _ _ _ _ _ _ "com/example/lowtide/lowtide/compact/KeyedSums" "add" _ 0 0 h 0 #[.val (.ref o), .val (.int nx), .val (.long ky), .second, .val (.long wt), .second, .unset] []
  obtain ⟨g_o, g_aK, g_aO, g_aS, g_aL, g_aR, ne_o_aK, ne_o_aO, ne_o_aS, ne_o_aL, ne_o_aR, ne_aK_aO, ne_aK_aS, ne_aK_aL, ne_aK_aR, ne_aO_aS, ne_aO_aL, ne_aO_aR, ne_aS_aL, ne_aS_aR, ne_aL_aR⟩ := D
  obtain ⟨sf, E_o, F_keys, F_own, F_sums, F_left, F_right, F_used, F_unused, F_root, A_aK, A_aO, A_aS, A_aL, A_aR⟩ := KK
  refine Own.iloadN (pc' := 1) d_prog_19_method_9_0 rfl rfl ?_
  refine Own.iconst (pc' := 2) (v := (-1 : Int32)) d_prog_19_method_9_1 (by decide) rfl ?_
  refine Own.icmp_ne (pc' := 13) (pc2 := 5) d_prog_19_method_9_2 (by decide) (by decide) rfl (fun c2_617 => ?_) (fun c2_617 => ?_)
  · obtain ⟨k0, l, r, hk0, hx, rfl, T4, T5⟩ := own_Tn1 T c2_617
    have hl1 : l.length ≤ 2 ∧ r.length ≤ 2 ∧ l.length + r.length ≤ 2 := by simp only [List.length_append, List.length_cons] at hlen; omega
    refine Own.aloadN (pc' := 14) d_prog_19_method_9_13 rfl rfl rfl ?_
    refine Own.getfield (pc' := 17) d_prog_19_method_9_14 rfl (host := "") (Or.inl (hw _ (List.mem_of_getElem? (i := 15) rfl))) Via.refl F_sums ?_
    refine Own.iloadN (pc' := 18) d_prog_19_method_9_17 rfl rfl ?_
    refine Own.dup2 (pc' := 19) d_prog_19_method_9_18 rfl rfl rfl ?_
    refine Own.laload (pc' := 20) (i := k0) d_prog_19_method_9_19 rfl A_aS hx hk0 ?_
    obtain ⟨v619, hv619⟩ : ∃ z, z = sf k0 := ⟨_, rfl⟩
    rw [← hv619]
    refine Own.lload (pc' := 22) d_prog_19_method_9_20 rfl rfl ?_
    refine Own.ladd (pc' := 23) d_prog_19_method_9_22 rfl fun v620 hv620 => ?_
    refine Own.lastore (pc' := 24) (i := k0) d_prog_19_method_9_23 rfl A_aS g_aS hx hk0 fun h621 Wh621 Ah621 => ?_
    have f622 := F_keys.other Wh621 (Or.inl ne_o_aS)
    have f623 := F_own.other Wh621 (Or.inl ne_o_aS)
    have f624 := F_sums.other Wh621 (Or.inl ne_o_aS)
    have f625 := F_left.other Wh621 (Or.inl ne_o_aS)
    have f626 := F_right.other Wh621 (Or.inl ne_o_aS)
    have f627 := F_used.other Wh621 (Or.inl ne_o_aS)
    have f628 := F_unused.other Wh621 (Or.inl ne_o_aS)
    have f629 := F_root.other Wh621 (Or.inl ne_o_aS)
    have f630 := E_o.wr Wh621
    have f631 := A_aK.other Wh621 ne_aK_aS
    have f632 := A_aO.other Wh621 ne_aO_aS
    have f633 := A_aL.other Wh621 (Ne.symm ne_aS_aL)
    have f634 := A_aR.other Wh621 (Ne.symm ne_aS_aR)
    have Zh621 : n0 ≤ h621.size := by rw [Wh621.size]; exact hZ0
    refine Own.lloadN (pc' := 25) d_prog_19_method_9_24 rfl rfl ?_
    refine Own.aloadN (pc' := 26) d_prog_19_method_9_25 rfl rfl rfl ?_
    refine Own.getfield (pc' := 29) d_prog_19_method_9_26 rfl (host := "") (Or.inl (hw _ (List.mem_of_getElem? (i := 11) rfl))) Via.refl f622 ?_
    refine Own.iloadN (pc' := 30) d_prog_19_method_9_29 rfl rfl ?_
    refine Own.laload (pc' := 31) (i := k0) d_prog_19_method_9_30 rfl f631 hx hk0 ?_
    obtain ⟨v635, hv635⟩ : ∃ z, z = kf k0 := ⟨_, rfl⟩
    rw [← hv635]
    refine Own.lcmp_ne (pc1 := 32) (pc' := 85) (pc2 := 35) d_prog_19_method_9_31 rfl d_prog_19_method_9_32 (by decide) (by decide) rfl (fun c31_635 => ?_) (fun c31_635 => ?_)
    · refine Own.lloadN (pc' := 86) d_prog_19_method_9_85 rfl rfl ?_
      refine Own.aloadN (pc' := 87) d_prog_19_method_9_86 rfl rfl rfl ?_
      refine Own.getfield (pc' := 90) d_prog_19_method_9_87 rfl (host := "") (Or.inl (hw _ (List.mem_of_getElem? (i := 11) rfl))) Via.refl f622 ?_
      refine Own.iloadN (pc' := 91) d_prog_19_method_9_90 rfl rfl ?_
      refine Own.laload (pc' := 92) (i := k0) d_prog_19_method_9_91 rfl f631 hx hk0 ?_
      obtain ⟨v637, hv637⟩ : ∃ z, z = kf k0 := ⟨_, rfl⟩
      rw [← hv637]
      refine Own.lcmp_ge (pc1 := 93) (pc' := 147) (pc2 := 96) d_prog_19_method_9_92 rfl d_prog_19_method_9_93 (by decide) (by decide) rfl (fun c92_637 => ?_) (fun c92_637 => ?_)
      · refine Own.aloadN (pc' := 148) d_prog_19_method_9_147 rfl rfl rfl ?_
        refine Own.aloadN (pc' := 149) d_prog_19_method_9_148 rfl rfl rfl ?_
        refine Own.getfield (pc' := 152) d_prog_19_method_9_149 rfl (host := "") (Or.inl (hw _ (List.mem_of_getElem? (i := 20) rfl))) Via.refl f626 ?_
        refine Own.iloadN (pc' := 153) d_prog_19_method_9_152 rfl rfl ?_
        refine Own.iaload (pc' := 154) (i := k0) d_prog_19_method_9_153 rfl f634 hx hk0 ?_
        obtain ⟨v639, hv639⟩ : ∃ z, z = rf k0 := ⟨_, rfl⟩
        rw [← hv639]
        refine Own.lloadN (pc' := 155) d_prog_19_method_9_154 rfl rfl ?_
        refine Own.lload (pc' := 157) d_prog_19_method_9_155 rfl rfl ?_
        refine Own.privat (pc' := 160) (y := (⟨"com/example/lowtide/lowtide/compact/KeyedSums", "add", "(IJJ)I"⟩ : MethodName)) (rm' := ({ frames := 4, cells := 0, slots := 0, locals := 62 } : Room)) (W := 0) (as := [(.int v639), (.long ky), (.long wt)]) (rest := []) (a := o) d_prog_19_method_9_157 rfl (hw _ (List.mem_of_getElem? (i := 31) rfl)) (hw _ (List.mem_of_getElem? (i := 32) rfl)) (hw _ (List.mem_of_getElem? (i := 2) rfl)) (hw _ (List.mem_of_getElem? (i := 33) rfl)) (hw _ (List.mem_of_getElem? (i := 3) rfl)) (hw _ (List.mem_of_getElem? (i := 34) rfl)) (by decide) f630 (c_add2 Z a0 hw n0 h621 Zh621 o v639 ky wt aK aO aS aL aR kf of lf rf us un rt ⟨g_o, g_aK, g_aO, g_aS, g_aL, g_aR, ne_o_aK, ne_o_aO, ne_o_aS, ne_o_aL, ne_o_aR, ne_aK_aO, ne_aK_aS, ne_aK_aL, ne_aK_aR, ne_aO_aS, ne_aO_aL, ne_aO_aR, ne_aS_aL, ne_aS_aR, ne_aL_aR⟩ ⟨_, f630, f622, f623, f624, f625, f626, f627, f628, f629, f631, f632, Ah621, f633, f634⟩ U r (hv639 ▸ T5) (own_S_mid hS).2.1 hU16 hus (fun p hp => hlt p (by simp [hp])) hun hl1.2.1) rfl rfl (lenOf pd_5 rfl) (by decide) rfl (by decide) (by decide) (by decide) fun r641 h640 qh640 => ?_
        obtain ⟨u642, qs643, kf644, of645, lf646, rf647, us648, un649, e2, Zh640, Kh640, AA⟩ := qh640
        subst e2
        obtain ⟨sf650, E_o_h640, F_keys_h640, F_own_h640, F_sums_h640, F_left_h640, F_right_h640, F_used_h640, F_unused_h640, F_root_h640, A_aK_h640, A_aO_h640, A_aS_h640, A_aL_h640, A_aR_h640⟩ := Kh640
        have AL := own_A_right (x := nx) hk0 hx T4 hS hlt (by rw [← hv637]; exact own_ltne c92_637 (fun e => c31_635 (e.trans (hv637.trans hv635.symm)))) AA
        show Go K _ _ _ _ _ _ _ _ _ 0 0 h640 160 #[.val (.ref o), .val (.int nx), .val (.long ky), .second, .val (.long wt), .second, .unset] [(.int u642)]
        refine Own.istore (pc' := 162) (L1 := #[.val (.ref o), .val (.int nx), .val (.long ky), .second, .val (.long wt), .second, .val (.int u642)]) d_prog_19_method_9_160 rfl rfl ?_
        refine Own.aloadN (pc' := 163) d_prog_19_method_9_162 rfl rfl rfl ?_
        refine Own.getfield (pc' := 166) d_prog_19_method_9_163 rfl (host := "") (Or.inl (hw _ (List.mem_of_getElem? (i := 20) rfl))) Via.refl F_right_h640 ?_
        refine Own.iloadN (pc' := 167) d_prog_19_method_9_166 rfl rfl ?_
        refine Own.iload (pc' := 169) d_prog_19_method_9_167 rfl rfl ?_
        refine Own.iastore (pc' := 170) (i := k0) d_prog_19_method_9_169 rfl A_aR_h640 g_aR hx hk0 fun h651 Wh651 Ah651 => ?_
        have f652 := F_keys_h640.other Wh651 (Or.inl ne_o_aR)
        have f653 := F_own_h640.other Wh651 (Or.inl ne_o_aR)
        have f654 := F_sums_h640.other Wh651 (Or.inl ne_o_aR)
        have f655 := F_left_h640.other Wh651 (Or.inl ne_o_aR)
        have f656 := F_right_h640.other Wh651 (Or.inl ne_o_aR)
        have f657 := F_used_h640.other Wh651 (Or.inl ne_o_aR)
        have f658 := F_unused_h640.other Wh651 (Or.inl ne_o_aR)
        have f659 := F_root_h640.other Wh651 (Or.inl ne_o_aR)
        have f660 := E_o_h640.wr Wh651
        have f661 := A_aK_h640.other Wh651 ne_aK_aR
        have f662 := A_aO_h640.other Wh651 ne_aO_aR
        have f663 := A_aS_h640.other Wh651 ne_aS_aR
        have f664 := A_aL_h640.other Wh651 ne_aL_aR
        have Zh651 : n0 ≤ h651.size := by rw [Wh651.size]; exact Zh640
        refine Own.iload (pc' := 172) d_prog_19_method_9_170 rfl rfl ?_
        refine Own.iconst (pc' := 173) (v := (-1 : Int32)) d_prog_19_method_9_172 (by decide) rfl ?_
        refine Own.icmp_eq (pc' := 196) (pc2 := 176) d_prog_19_method_9_173 (by decide) (by decide) rfl (fun c173_664 => ?_) (fun c173_664 => ?_)
        · refine Own.iloadN (pc' := 197) d_prog_19_method_9_196 rfl rfl ?_
          subst hv619 hv620 hv635 hv637 hv639
          exact Own.ireturnI d_prog_19_method_9_197 rfl (⟨_, _, _, _, _, _, _, _, rfl, Zh651, ⟨_, f660, f652, f653, f654, f655, f656, f657, f658, f659, f661, f662, f663, f664, Ah651⟩, AL⟩) (by decide) (by decide)
        · refine Own.iload (pc' := 178) d_prog_19_method_9_176 rfl rfl ?_
          refine Own.static (pc' := 181) (y := (⟨"com/example/lowtide/lowtide/compact/KeyedSums", "rank", "(I)I"⟩ : MethodName)) (rm' := ({ frames := 0, cells := 0, slots := 0, locals := 0 } : Room)) (W := 0) (as := [(.int u642)]) (rest := []) d_prog_19_method_9_178 rfl (hw _ (List.mem_of_getElem? (i := 55) rfl)) (hw _ (List.mem_of_getElem? (i := 56) rfl)) (hw _ (List.mem_of_getElem? (i := 3) rfl)) (hw _ (List.mem_of_getElem? (i := 57) rfl)) (by decide) (c_rank Z a0 hw n0 h651 Zh651 u642) rfl rfl (lenOf pd_2 rfl) (by decide) rfl (by decide) (by decide) (by decide) fun r667 h666 qh666 => ?_
          obtain ⟨u668, e2, e1⟩ := qh666
          subst e1 e2
          show Go K _ _ _ _ _ _ _ _ _ 0 0 h651 181 #[.val (.ref o), .val (.int nx), .val (.long ky), .second, .val (.long wt), .second, .val (.int u642)] [(.int u668)]
          refine Own.iloadN (pc' := 182) d_prog_19_method_9_181 rfl rfl ?_
          refine Own.static (pc' := 185) (y := (⟨"com/example/lowtide/lowtide/compact/KeyedSums", "rank", "(I)I"⟩ : MethodName)) (rm' := ({ frames := 0, cells := 0, slots := 0, locals := 0 } : Room)) (W := 1) (as := [(.int nx)]) (rest := [(.int u668)]) d_prog_19_method_9_182 rfl (hw _ (List.mem_of_getElem? (i := 55) rfl)) (hw _ (List.mem_of_getElem? (i := 56) rfl)) (hw _ (List.mem_of_getElem? (i := 3) rfl)) (hw _ (List.mem_of_getElem? (i := 57) rfl)) (by decide) (c_rank Z a0 hw n0 h651 Zh651 nx) rfl rfl (lenOf pd_2 rfl) (by decide) rfl (by decide) (by decide) (by decide) fun r670 h669 qh669 => ?_
          obtain ⟨u671, e2, e1⟩ := qh669
          subst e1 e2
          show Go K _ _ _ _ _ _ _ _ _ 0 0 h651 185 #[.val (.ref o), .val (.int nx), .val (.long ky), .second, .val (.long wt), .second, .val (.int u642)] [(.int u671), (.int u668)]
          refine Own.icmp_le (pc' := 196) (pc2 := 188) d_prog_19_method_9_185 (by decide) (by decide) rfl (fun c185_671 => ?_) (fun c185_671 => ?_)
          · refine Own.iloadN (pc' := 197) d_prog_19_method_9_196 rfl rfl ?_
            subst hv619 hv620 hv635 hv637 hv639
            exact Own.ireturnI d_prog_19_method_9_197 rfl (⟨_, _, _, _, _, _, _, _, rfl, Zh651, ⟨_, f660, f652, f653, f654, f655, f656, f657, f658, f659, f661, f662, f663, f664, Ah651⟩, AL⟩) (by decide) (by decide)
          · refine Own.aloadN (pc' := 189) d_prog_19_method_9_188 rfl rfl rfl ?_
            refine Own.iloadN (pc' := 190) d_prog_19_method_9_189 rfl rfl ?_
            obtain ⟨j, hj, -, hlj, hne, V1, V2, V3, TR, eR⟩ := own_rotL AL.1 (AL.nd hS).2 hx (by rw [own_set_eq]; exact c173_664)
            refine Own.privat (pc' := 193) (y := (⟨"com/example/lowtide/lowtide/compact/KeyedSums", "turnLeft", "(I)I"⟩ : MethodName)) (rm' := ({ frames := 2, cells := 0, slots := 0, locals := 30 } : Room)) (W := 0) (as := [(.int nx)]) (rest := []) (a := o) d_prog_19_method_9_190 rfl (hw _ (List.mem_of_getElem? (i := 73) rfl)) (hw _ (List.mem_of_getElem? (i := 74) rfl)) (hw _ (List.mem_of_getElem? (i := 2) rfl)) (hw _ (List.mem_of_getElem? (i := 75) rfl)) (hw _ (List.mem_of_getElem? (i := 3) rfl)) (hw _ (List.mem_of_getElem? (i := 76) rfl)) (by decide) f660 (c_turnLeft Z a0 hw n0 h651 Zh651 o nx aK aO aS aL aR kf644 of645 lf646 (ownSet rf647 k0 u642) us648 un649 rt ⟨g_o, g_aK, g_aO, g_aS, g_aL, g_aR, ne_o_aK, ne_o_aO, ne_o_aS, ne_o_aL, ne_o_aR, ne_aK_aO, ne_aK_aS, ne_aK_aL, ne_aK_aR, ne_aO_aS, ne_aO_aL, ne_aO_aR, ne_aS_aL, ne_aS_aR, ne_aL_aR⟩ ⟨_, f660, f652, f653, f654, f655, f656, f657, f658, f659, f661, f662, f663, f664, Ah651⟩ k0 j hk0 hx hj hlj hne V1 V2 V3) rfl rfl (lenOf pd_2 rfl) (by decide) rfl (by decide) (by decide) (by decide) fun r674 h673 qh673 => ?_
            obtain ⟨v675, e2, hv675, Zh673, Kh673⟩ := qh673
            subst e2
            obtain ⟨sf676, E_o_h673, F_keys_h673, F_own_h673, F_sums_h673, F_left_h673, F_right_h673, F_used_h673, F_unused_h673, F_root_h673, A_aK_h673, A_aO_h673, A_aS_h673, A_aL_h673, A_aR_h673⟩ := Kh673
            show Go K _ _ _ _ _ _ _ _ _ 0 0 h673 193 #[.val (.ref o), .val (.int nx), .val (.long ky), .second, .val (.long wt), .second, .val (.int u642)] [(.int v675)]
            refine Own.goto (pc' := 197) d_prog_19_method_9_193 (by decide) (by decide) ?_
            subst hv619 hv620 hv635 hv637 hv639 hv675
            exact Own.ireturnI d_prog_19_method_9_197 rfl (⟨_, _, _, _, _, _, _, _, rfl, Zh673, ⟨_, E_o_h673, F_keys_h673, F_own_h673, F_sums_h673, F_left_h673, F_right_h673, F_used_h673, F_unused_h673, F_root_h673, A_aK_h673, A_aO_h673, A_aS_h673, A_aL_h673, A_aR_h673⟩, AL.turn TR eR⟩) (by decide) (by decide)
      · refine Own.aloadN (pc' := 97) d_prog_19_method_9_96 rfl rfl rfl ?_
        refine Own.aloadN (pc' := 98) d_prog_19_method_9_97 rfl rfl rfl ?_
        refine Own.getfield (pc' := 101) d_prog_19_method_9_98 rfl (host := "") (Or.inl (hw _ (List.mem_of_getElem? (i := 18) rfl))) Via.refl f625 ?_
        refine Own.iloadN (pc' := 102) d_prog_19_method_9_101 rfl rfl ?_
        refine Own.iaload (pc' := 103) (i := k0) d_prog_19_method_9_102 rfl f633 hx hk0 ?_
        obtain ⟨v677, hv677⟩ : ∃ z, z = lf k0 := ⟨_, rfl⟩
        rw [← hv677]
        refine Own.lloadN (pc' := 104) d_prog_19_method_9_103 rfl rfl ?_
        refine Own.lload (pc' := 106) d_prog_19_method_9_104 rfl rfl ?_
        refine Own.privat (pc' := 109) (y := (⟨"com/example/lowtide/lowtide/compact/KeyedSums", "add", "(IJJ)I"⟩ : MethodName)) (rm' := ({ frames := 4, cells := 0, slots := 0, locals := 62 } : Room)) (W := 0) (as := [(.int v677), (.long ky), (.long wt)]) (rest := []) (a := o) d_prog_19_method_9_106 rfl (hw _ (List.mem_of_getElem? (i := 31) rfl)) (hw _ (List.mem_of_getElem? (i := 32) rfl)) (hw _ (List.mem_of_getElem? (i := 2) rfl)) (hw _ (List.mem_of_getElem? (i := 33) rfl)) (hw _ (List.mem_of_getElem? (i := 3) rfl)) (hw _ (List.mem_of_getElem? (i := 34) rfl)) (by decide) f630 (c_add2 Z a0 hw n0 h621 Zh621 o v677 ky wt aK aO aS aL aR kf of lf rf us un rt ⟨g_o, g_aK, g_aO, g_aS, g_aL, g_aR, ne_o_aK, ne_o_aO, ne_o_aS, ne_o_aL, ne_o_aR, ne_aK_aO, ne_aK_aS, ne_aK_aL, ne_aK_aR, ne_aO_aS, ne_aO_aL, ne_aO_aR, ne_aS_aL, ne_aS_aR, ne_aL_aR⟩ ⟨_, f630, f622, f623, f624, f625, f626, f627, f628, f629, f631, f632, Ah621, f633, f634⟩ U l (hv677 ▸ T4) (own_S_mid hS).1 hU16 hus (fun p hp => hlt p (by simp [hp])) hun hl1.1) rfl rfl (lenOf pd_5 rfl) (by decide) rfl (by decide) (by decide) (by decide) fun r679 h678 qh678 => ?_
        obtain ⟨u680, qs681, kf682, of683, lf684, rf685, us686, un687, e2, Zh678, Kh678, AA⟩ := qh678
        subst e2
        obtain ⟨sf688, E_o_h678, F_keys_h678, F_own_h678, F_sums_h678, F_left_h678, F_right_h678, F_used_h678, F_unused_h678, F_root_h678, A_aK_h678, A_aO_h678, A_aS_h678, A_aL_h678, A_aR_h678⟩ := Kh678
        have AL := own_A_left (x := nx) hk0 hx T5 hS hlt (by rw [← hv637]; exact Int.not_le.mp c92_637) AA
        show Go K _ _ _ _ _ _ _ _ _ 0 0 h678 109 #[.val (.ref o), .val (.int nx), .val (.long ky), .second, .val (.long wt), .second, .unset] [(.int u680)]
        refine Own.istore (pc' := 111) (L1 := #[.val (.ref o), .val (.int nx), .val (.long ky), .second, .val (.long wt), .second, .val (.int u680)]) d_prog_19_method_9_109 rfl rfl ?_
        refine Own.aloadN (pc' := 112) d_prog_19_method_9_111 rfl rfl rfl ?_
        refine Own.getfield (pc' := 115) d_prog_19_method_9_112 rfl (host := "") (Or.inl (hw _ (List.mem_of_getElem? (i := 18) rfl))) Via.refl F_left_h678 ?_
        refine Own.iloadN (pc' := 116) d_prog_19_method_9_115 rfl rfl ?_
        refine Own.iload (pc' := 118) d_prog_19_method_9_116 rfl rfl ?_
        refine Own.iastore (pc' := 119) (i := k0) d_prog_19_method_9_118 rfl A_aL_h678 g_aL hx hk0 fun h689 Wh689 Ah689 => ?_
        have f690 := F_keys_h678.other Wh689 (Or.inl ne_o_aL)
        have f691 := F_own_h678.other Wh689 (Or.inl ne_o_aL)
        have f692 := F_sums_h678.other Wh689 (Or.inl ne_o_aL)
        have f693 := F_left_h678.other Wh689 (Or.inl ne_o_aL)
        have f694 := F_right_h678.other Wh689 (Or.inl ne_o_aL)
        have f695 := F_used_h678.other Wh689 (Or.inl ne_o_aL)
        have f696 := F_unused_h678.other Wh689 (Or.inl ne_o_aL)
        have f697 := F_root_h678.other Wh689 (Or.inl ne_o_aL)
        have f698 := E_o_h678.wr Wh689
        have f699 := A_aK_h678.other Wh689 ne_aK_aL
        have f700 := A_aO_h678.other Wh689 ne_aO_aL
        have f701 := A_aS_h678.other Wh689 ne_aS_aL
        have f702 := A_aR_h678.other Wh689 (Ne.symm ne_aL_aR)
        have Zh689 : n0 ≤ h689.size := by rw [Wh689.size]; exact Zh678
        refine Own.iload (pc' := 121) d_prog_19_method_9_119 rfl rfl ?_
        refine Own.iconst (pc' := 122) (v := (-1 : Int32)) d_prog_19_method_9_121 (by decide) rfl ?_
        refine Own.icmp_eq (pc' := 145) (pc2 := 125) d_prog_19_method_9_122 (by decide) (by decide) rfl (fun c122_702 => ?_) (fun c122_702 => ?_)
        · refine Own.iloadN (pc' := 146) d_prog_19_method_9_145 rfl rfl ?_
          subst hv619 hv620 hv635 hv637 hv677
          exact Own.ireturnI d_prog_19_method_9_146 rfl (⟨_, _, _, _, _, _, _, _, rfl, Zh689, ⟨_, f698, f690, f691, f692, f693, f694, f695, f696, f697, f699, f700, f701, Ah689, f702⟩, AL⟩) (by decide) (by decide)
        · refine Own.iload (pc' := 127) d_prog_19_method_9_125 rfl rfl ?_
          refine Own.static (pc' := 130) (y := (⟨"com/example/lowtide/lowtide/compact/KeyedSums", "rank", "(I)I"⟩ : MethodName)) (rm' := ({ frames := 0, cells := 0, slots := 0, locals := 0 } : Room)) (W := 0) (as := [(.int u680)]) (rest := []) d_prog_19_method_9_127 rfl (hw _ (List.mem_of_getElem? (i := 55) rfl)) (hw _ (List.mem_of_getElem? (i := 56) rfl)) (hw _ (List.mem_of_getElem? (i := 3) rfl)) (hw _ (List.mem_of_getElem? (i := 57) rfl)) (by decide) (c_rank Z a0 hw n0 h689 Zh689 u680) rfl rfl (lenOf pd_2 rfl) (by decide) rfl (by decide) (by decide) (by decide) fun r705 h704 qh704 => ?_
          obtain ⟨u706, e2, e1⟩ := qh704
          subst e1 e2
          show Go K _ _ _ _ _ _ _ _ _ 0 0 h689 130 #[.val (.ref o), .val (.int nx), .val (.long ky), .second, .val (.long wt), .second, .val (.int u680)] [(.int u706)]
          refine Own.iloadN (pc' := 131) d_prog_19_method_9_130 rfl rfl ?_
          refine Own.static (pc' := 134) (y := (⟨"com/example/lowtide/lowtide/compact/KeyedSums", "rank", "(I)I"⟩ : MethodName)) (rm' := ({ frames := 0, cells := 0, slots := 0, locals := 0 } : Room)) (W := 1) (as := [(.int nx)]) (rest := [(.int u706)]) d_prog_19_method_9_131 rfl (hw _ (List.mem_of_getElem? (i := 55) rfl)) (hw _ (List.mem_of_getElem? (i := 56) rfl)) (hw _ (List.mem_of_getElem? (i := 3) rfl)) (hw _ (List.mem_of_getElem? (i := 57) rfl)) (by decide) (c_rank Z a0 hw n0 h689 Zh689 nx) rfl rfl (lenOf pd_2 rfl) (by decide) rfl (by decide) (by decide) (by decide) fun r708 h707 qh707 => ?_
          obtain ⟨u709, e2, e1⟩ := qh707
          subst e1 e2
          show Go K _ _ _ _ _ _ _ _ _ 0 0 h689 134 #[.val (.ref o), .val (.int nx), .val (.long ky), .second, .val (.long wt), .second, .val (.int u680)] [(.int u709), (.int u706)]
          refine Own.icmp_le (pc' := 145) (pc2 := 137) d_prog_19_method_9_134 (by decide) (by decide) rfl (fun c134_709 => ?_) (fun c134_709 => ?_)
          · refine Own.iloadN (pc' := 146) d_prog_19_method_9_145 rfl rfl ?_
            subst hv619 hv620 hv635 hv637 hv677
            exact Own.ireturnI d_prog_19_method_9_146 rfl (⟨_, _, _, _, _, _, _, _, rfl, Zh689, ⟨_, f698, f690, f691, f692, f693, f694, f695, f696, f697, f699, f700, f701, Ah689, f702⟩, AL⟩) (by decide) (by decide)
          · refine Own.aloadN (pc' := 138) d_prog_19_method_9_137 rfl rfl rfl ?_
            refine Own.iloadN (pc' := 139) d_prog_19_method_9_138 rfl rfl ?_
            obtain ⟨j, hj, -, hlj, hne, V1, V2, V3, TR, eR⟩ := own_rotR AL.1 (AL.nd hS).2 hx (by rw [own_set_eq]; exact c122_702)
            refine Own.privat (pc' := 142) (y := (⟨"com/example/lowtide/lowtide/compact/KeyedSums", "turnRight", "(I)I"⟩ : MethodName)) (rm' := ({ frames := 2, cells := 0, slots := 0, locals := 30 } : Room)) (W := 0) (as := [(.int nx)]) (rest := []) (a := o) d_prog_19_method_9_139 rfl (hw _ (List.mem_of_getElem? (i := 61) rfl)) (hw _ (List.mem_of_getElem? (i := 62) rfl)) (hw _ (List.mem_of_getElem? (i := 2) rfl)) (hw _ (List.mem_of_getElem? (i := 63) rfl)) (hw _ (List.mem_of_getElem? (i := 3) rfl)) (hw _ (List.mem_of_getElem? (i := 64) rfl)) (by decide) f698 (c_turnRight Z a0 hw n0 h689 Zh689 o nx aK aO aS aL aR kf682 of683 (ownSet lf684 k0 u680) rf685 us686 un687 rt ⟨g_o, g_aK, g_aO, g_aS, g_aL, g_aR, ne_o_aK, ne_o_aO, ne_o_aS, ne_o_aL, ne_o_aR, ne_aK_aO, ne_aK_aS, ne_aK_aL, ne_aK_aR, ne_aO_aS, ne_aO_aL, ne_aO_aR, ne_aS_aL, ne_aS_aR, ne_aL_aR⟩ ⟨_, f698, f690, f691, f692, f693, f694, f695, f696, f697, f699, f700, f701, Ah689, f702⟩ k0 j hk0 hx hj hlj hne V1 V2 V3) rfl rfl (lenOf pd_2 rfl) (by decide) rfl (by decide) (by decide) (by decide) fun r712 h711 qh711 => ?_
            obtain ⟨v713, e2, hv713, Zh711, Kh711⟩ := qh711
            subst e2
            obtain ⟨sf714, E_o_h711, F_keys_h711, F_own_h711, F_sums_h711, F_left_h711, F_right_h711, F_used_h711, F_unused_h711, F_root_h711, A_aK_h711, A_aO_h711, A_aS_h711, A_aL_h711, A_aR_h711⟩ := Kh711
            show Go K _ _ _ _ _ _ _ _ _ 0 0 h711 142 #[.val (.ref o), .val (.int nx), .val (.long ky), .second, .val (.long wt), .second, .val (.int u680)] [(.int v713)]
            refine Own.goto (pc' := 146) d_prog_19_method_9_142 (by decide) (by decide) ?_
            subst hv619 hv620 hv635 hv637 hv677 hv713
            exact Own.ireturnI d_prog_19_method_9_146 rfl (⟨_, _, _, _, _, _, _, _, rfl, Zh711, ⟨_, E_o_h711, F_keys_h711, F_own_h711, F_sums_h711, F_left_h711, F_right_h711, F_used_h711, F_unused_h711, F_root_h711, A_aK_h711, A_aO_h711, A_aS_h711, A_aL_h711, A_aR_h711⟩, AL.turn TR eR⟩) (by decide) (by decide)
    · refine Own.aloadN (pc' := 36) d_prog_19_method_9_35 rfl rfl rfl ?_
      refine Own.getfield (pc' := 39) d_prog_19_method_9_36 rfl (host := "") (Or.inl (hw _ (List.mem_of_getElem? (i := 13) rfl))) Via.refl f623 ?_
      refine Own.iloadN (pc' := 40) d_prog_19_method_9_39 rfl rfl ?_
      refine Own.dup2 (pc' := 41) d_prog_19_method_9_40 rfl rfl rfl ?_
      refine Own.laload (pc' := 42) (i := k0) d_prog_19_method_9_41 rfl f632 hx hk0 ?_
      obtain ⟨v715, hv715⟩ : ∃ z, z = of k0 := ⟨_, rfl⟩
      rw [← hv715]
      refine Own.lload (pc' := 44) d_prog_19_method_9_42 rfl rfl ?_
      refine Own.ladd (pc' := 45) d_prog_19_method_9_44 rfl fun v716 hv716 => ?_
      refine Own.lastore (pc' := 46) (i := k0) d_prog_19_method_9_45 rfl f632 g_aO hx hk0 fun h717 Wh717 Ah717 => ?_
      have f718 := f622.other Wh717 (Or.inl ne_o_aO)
      have f719 := f623.other Wh717 (Or.inl ne_o_aO)
      have f720 := f624.other Wh717 (Or.inl ne_o_aO)
      have f721 := f625.other Wh717 (Or.inl ne_o_aO)
      have f722 := f626.other Wh717 (Or.inl ne_o_aO)
      have f723 := f627.other Wh717 (Or.inl ne_o_aO)
      have f724 := f628.other Wh717 (Or.inl ne_o_aO)
      have f725 := f629.other Wh717 (Or.inl ne_o_aO)
      have f726 := f630.wr Wh717
      have f727 := f631.other Wh717 ne_aK_aO
      have f728 := Ah621.other Wh717 (Ne.symm ne_aO_aS)
      have f729 := f633.other Wh717 (Ne.symm ne_aO_aL)
      have f730 := f634.other Wh717 (Ne.symm ne_aO_aR)
      have Zh717 : n0 ≤ h717.size := by rw [Wh717.size]; exact Zh621
      refine Own.aloadN (pc' := 47) d_prog_19_method_9_46 rfl rfl rfl ?_
      refine Own.getfield (pc' := 50) d_prog_19_method_9_47 rfl (host := "") (Or.inl (hw _ (List.mem_of_getElem? (i := 13) rfl))) Via.refl f719 ?_
      refine Own.iloadN (pc' := 51) d_prog_19_method_9_50 rfl rfl ?_
      refine Own.laload (pc' := 52) (i := k0) d_prog_19_method_9_51 rfl Ah717 hx hk0 ?_
      obtain ⟨v731, hv731⟩ : ∃ z, z = (ownSet of k0 v716) k0 := ⟨_, rfl⟩
      rw [← hv731]
      refine Own.lconst0 (pc' := 53) d_prog_19_method_9_52 rfl ?_
      refine Own.lcmp_eq (pc1 := 54) (pc' := 59) (pc2 := 57) d_prog_19_method_9_53 rfl d_prog_19_method_9_54 (by decide) (by decide) rfl (fun c53_731 => ?_) (fun c53_731 => ?_)
      · refine Own.aloadN (pc' := 60) d_prog_19_method_9_59 rfl rfl rfl ?_
        refine Own.aloadN (pc' := 61) d_prog_19_method_9_60 rfl rfl rfl ?_
        refine Own.getfield (pc' := 64) d_prog_19_method_9_61 rfl (host := "") (Or.inl (hw _ (List.mem_of_getElem? (i := 18) rfl))) Via.refl f721 ?_
        refine Own.iloadN (pc' := 65) d_prog_19_method_9_64 rfl rfl ?_
        refine Own.iaload (pc' := 66) (i := k0) d_prog_19_method_9_65 rfl f729 hx hk0 ?_
        obtain ⟨v733, hv733⟩ : ∃ z, z = lf k0 := ⟨_, rfl⟩
        rw [← hv733]
        refine Own.aloadN (pc' := 67) d_prog_19_method_9_66 rfl rfl rfl ?_
        refine Own.getfield (pc' := 70) d_prog_19_method_9_67 rfl (host := "") (Or.inl (hw _ (List.mem_of_getElem? (i := 20) rfl))) Via.refl f722 ?_
        refine Own.iloadN (pc' := 71) d_prog_19_method_9_70 rfl rfl ?_
        refine Own.iaload (pc' := 72) (i := k0) d_prog_19_method_9_71 rfl f730 hx hk0 ?_
        obtain ⟨v734, hv734⟩ : ∃ z, z = rf k0 := ⟨_, rfl⟩
        rw [← hv734]
        refine Own.privat (pc' := 75) (y := (⟨"com/example/lowtide/lowtide/compact/KeyedSums", "join", "(II)I"⟩ : MethodName)) (rm' := ({ frames := 2, cells := 0, slots := 0, locals := 30 } : Room)) (W := 0) (as := [(.int v733), (.int v734)]) (rest := []) (a := o) d_prog_19_method_9_72 rfl (hw _ (List.mem_of_getElem? (i := 77) rfl)) (hw _ (List.mem_of_getElem? (i := 78) rfl)) (hw _ (List.mem_of_getElem? (i := 2) rfl)) (hw _ (List.mem_of_getElem? (i := 79) rfl)) (hw _ (List.mem_of_getElem? (i := 3) rfl)) (hw _ (List.mem_of_getElem? (i := 80) rfl)) (by decide) f726 (c_join2 Z a0 hw n0 h717 Zh717 o v733 v734 aK aO aS aL aR kf (ownSet of k0 v716) lf rf us un rt ⟨g_o, g_aK, g_aO, g_aS, g_aL, g_aR, ne_o_aK, ne_o_aO, ne_o_aS, ne_o_aL, ne_o_aR, ne_aK_aO, ne_aK_aS, ne_aK_aL, ne_aK_aR, ne_aO_aS, ne_aO_aL, ne_aO_aR, ne_aS_aL, ne_aS_aR, ne_aL_aR⟩ ⟨_, f726, f718, f719, f720, f721, f722, f723, f724, f725, f727, Ah717, f728, f729, f730⟩ l r (hv733 ▸ T4) (hv734 ▸ T5) (own_nd_mid (own_S_nd hS)).2.2.2.2.2 hl1.2.2) rfl rfl (lenOf pd_3 rfl) (by decide) rfl (by decide) (by decide) (by decide) fun r736 h735 qh735 => ?_
        obtain ⟨u737, lf738, rf739, e2, Zh735, Kh735, TT, ee⟩ := qh735
        subst e2
        obtain ⟨sf740, E_o_h735, F_keys_h735, F_own_h735, F_sums_h735, F_left_h735, F_right_h735, F_used_h735, F_unused_h735, F_root_h735, A_aK_h735, A_aO_h735, A_aS_h735, A_aL_h735, A_aR_h735⟩ := Kh735
        show Go K _ _ _ _ _ _ _ _ _ 0 0 h735 75 #[.val (.ref o), .val (.int nx), .val (.long ky), .second, .val (.long wt), .second, .unset] [(.int u737)]
        refine Own.istore (pc' := 77) (L1 := #[.val (.ref o), .val (.int nx), .val (.long ky), .second, .val (.long wt), .second, .val (.int u737)]) d_prog_19_method_9_75 rfl rfl ?_
        refine Own.aloadN (pc' := 78) d_prog_19_method_9_77 rfl rfl rfl ?_
        refine Own.iloadN (pc' := 79) d_prog_19_method_9_78 rfl rfl ?_
        refine Own.privat (pc' := 82) (y := (⟨"com/example/lowtide/lowtide/compact/KeyedSums", "release", "(I)V"⟩ : MethodName)) (rm' := ({ frames := 0, cells := 0, slots := 0, locals := 0 } : Room)) (W := 0) (as := [(.int nx)]) (rest := []) (a := o) d_prog_19_method_9_79 rfl (hw _ (List.mem_of_getElem? (i := 81) rfl)) (hw _ (List.mem_of_getElem? (i := 82) rfl)) (hw _ (List.mem_of_getElem? (i := 2) rfl)) (hw _ (List.mem_of_getElem? (i := 83) rfl)) (hw _ (List.mem_of_getElem? (i := 3) rfl)) (hw _ (List.mem_of_getElem? (i := 84) rfl)) (by decide) E_o_h735 (c_release Z a0 hw n0 h735 Zh735 o nx aK aO aS aL aR kf (ownSet of k0 v716) lf738 rf739 us un rt ⟨g_o, g_aK, g_aO, g_aS, g_aL, g_aR, ne_o_aK, ne_o_aO, ne_o_aS, ne_o_aL, ne_o_aR, ne_aK_aO, ne_aK_aS, ne_aK_aL, ne_aK_aR, ne_aO_aS, ne_aO_aL, ne_aO_aR, ne_aS_aL, ne_aS_aR, ne_aL_aR⟩ ⟨_, E_o_h735, F_keys_h735, F_own_h735, F_sums_h735, F_left_h735, F_right_h735, F_used_h735, F_unused_h735, F_root_h735, A_aK_h735, A_aO_h735, A_aS_h735, A_aL_h735, A_aR_h735⟩ k0 hk0 hx) rfl rfl (lenOf pd_1 rfl) (by decide) rfl (by decide) (by decide) (by decide) fun r742 h741 qh741 => ?_
        obtain ⟨e2, Zh741, Kh741⟩ := qh741
        subst e2
        obtain ⟨sf743, E_o_h741, F_keys_h741, F_own_h741, F_sums_h741, F_left_h741, F_right_h741, F_used_h741, F_unused_h741, F_root_h741, A_aK_h741, A_aO_h741, A_aS_h741, A_aL_h741, A_aR_h741⟩ := Kh741
        show Go K _ _ _ _ _ _ _ _ _ 0 0 h741 82 #[.val (.ref o), .val (.int nx), .val (.long ky), .second, .val (.long wt), .second, .val (.int u737)] []
        refine Own.iload (pc' := 84) d_prog_19_method_9_82 rfl rfl ?_
        have hke := Decidable.not_not.mp c31_635
        rw [hv731, own_set_eq] at c53_731
        subst hv731
        subst hv619 hv620 hv635 hv715 hv716 hv733 hv734
        exact Own.ireturnI d_prog_19_method_9_84 rfl (⟨_, _, _, _, _, _, _, _, rfl, Zh741, ⟨_, E_o_h741, F_keys_h741, F_own_h741, F_sums_h741, F_left_h741, F_right_h741, F_used_h741, F_unused_h741, F_root_h741, A_aK_h741, A_aO_h741, A_aS_h741, A_aL_h741, A_aR_h741⟩, own_A_go TT ee hS hke c53_731⟩) (by decide) (by decide)
      · refine Own.iloadN (pc' := 58) d_prog_19_method_9_57 rfl rfl ?_
        have hke := Decidable.not_not.mp c31_635
        rw [hv731, own_set_eq] at c53_731
        subst hv731
        subst hv619 hv620 hv635 hv715 hv716
        exact Own.ireturnI d_prog_19_method_9_58 rfl (⟨_, _, _, _, _, _, _, _, rfl, Zh717, ⟨_, f726, f718, f719, f720, f721, f722, f723, f724, f725, f727, Ah717, f728, f729, f730⟩, own_A_stay T hS hke c53_731⟩) (by decide) (by decide)
  · refine Own.aloadN (pc' := 6) d_prog_19_method_9_5 rfl rfl rfl ?_
    refine Own.lloadN (pc' := 7) d_prog_19_method_9_6 rfl rfl ?_
    refine Own.lload (pc' := 9) d_prog_19_method_9_7 rfl rfl ?_
    refine Own.privat (pc' := 12) (y := (⟨"com/example/lowtide/lowtide/compact/KeyedSums", "place", "(JJ)I"⟩ : MethodName)) (rm' := ({ frames := 0, cells := 0, slots := 0, locals := 0 } : Room)) (W := 0) (as := [(.long ky), (.long wt)]) (rest := []) (a := o) d_prog_19_method_9_9 rfl (hw _ (List.mem_of_getElem? (i := 35) rfl)) (hw _ (List.mem_of_getElem? (i := 36) rfl)) (hw _ (List.mem_of_getElem? (i := 2) rfl)) (hw _ (List.mem_of_getElem? (i := 37) rfl)) (hw _ (List.mem_of_getElem? (i := 3) rfl)) (hw _ (List.mem_of_getElem? (i := 38) rfl)) (by decide) E_o (c_place Z a0 hw n0 h hZ0 o ky wt aK aO aS aL aR kf of lf rf us un rt ⟨g_o, g_aK, g_aO, g_aS, g_aL, g_aR, ne_o_aK, ne_o_aO, ne_o_aS, ne_o_aL, ne_o_aR, ne_aK_aO, ne_aK_aS, ne_aK_aL, ne_aK_aR, ne_aO_aS, ne_aO_aL, ne_aO_aR, ne_aS_aL, ne_aS_aR, ne_aL_aR⟩ ⟨_, E_o, F_keys, F_own, F_sums, F_left, F_right, F_used, F_unused, F_root, A_aK, A_aO, A_aS, A_aL, A_aR⟩ U hU16 hus hun) rfl rfl (lenOf pd_4 rfl) (by decide) rfl (by decide) (by decide) (by decide) fun r745 h744 qh744 => ?_
    obtain ⟨u746, e2, hzu746, Zh744, Kh744⟩ := qh744
    subst e2
    obtain ⟨sf747, E_o_h744, F_keys_h744, F_own_h744, F_sums_h744, F_left_h744, F_right_h744, F_used_h744, F_unused_h744, F_root_h744, A_aK_h744, A_aO_h744, A_aS_h744, A_aL_h744, A_aR_h744⟩ := Kh744
    show Go K _ _ _ _ _ _ _ _ _ 0 0 h744 12 #[.val (.ref o), .val (.int nx), .val (.long ky), .second, .val (.long wt), .second, .unset] [(.int u746)]
    obtain rfl := own_Tz T (Decidable.not_not.mp c2_617)
    exact Own.ireturnI d_prog_19_method_9_12 rfl (⟨_, _, _, _, _, _, _, _, rfl, Zh744, ⟨_, E_o_h744, F_keys_h744, F_own_h744, F_sums_h744, F_left_h744, F_right_h744, F_used_h744, F_unused_h744, F_root_h744, A_aK_h744, A_aO_h744, A_aS_h744, A_aL_h744, A_aR_h744⟩, own_A_new hU16 hus hzu746⟩) (by decide) (by decide)
set_option maxRecDepth 65536 in
set_option maxHeartbeats 40000000 in
theorem c_add4 (Z : State) (a0 : Array Value) (hw : ∀ d ∈ tables_1, d.before a0 Z = true) (n0 : Nat) (h : Heap) (hZ0 : n0 ≤ h.size) (o : Addr) (nx : Int32) (ky : Int64) (wt : Int64) (aK aO aS aL aR : Addr) (kf of : Nat → Int64) (lf rf : Nat → Int32) (us un rt : Int32) (D : own_D n0 o aK aO aS aL aR) (KK : own_K Z h o aK aO aS aL aR kf of lf rf us un rt) (U : Nat) (ps : List Nat) (T : own_T lf rf nx ps) (hS : own_S (own_c kf of ps)) (hU16 : U < 16) (hus : us.toInt = (U : Int)) (hlt : ∀ p ∈ ps, p < U) (hun : un = -1) (hlen : ps.length ≤ 4) :
    Con Z n0 (⟨"com/example/lowtide/lowtide/compact/KeyedSums", "add", "(IJJ)I"⟩ : MethodName) prog_19_method_9_code 7 (some .int) ({ frames := 6, cells := 0, slots := 0, locals := 98 } : Room) [(.ref o), (.int nx), (.long ky), (.long wt)] h (fun v h' => ∃ z qs kf' of' lf' rf' us' un', v = some (.int z) ∧ n0 ≤ h'.size ∧ own_K Z h' o aK aO aS aL aR kf' of' lf' rf' us' un' rt ∧ own_A kf of lf rf us un U ky wt ps kf' of' lf' rf' us' un' z qs) := by
  refine Own.enter (plainFor_of_name pn_0) (L0 := #[.val (.ref o), .val (.int nx), .val (.long ky), .second, .val (.long wt), .second, .unset]) (fun m => by first | (simp [entryFrame, mkF, argsToLocals, Value.category]; done) | rfl) fun K => ?_
  show Go K _ _ _ _ _ _ "com/example/lowtide/lowtide/compact/KeyedSums" "add" _ 0 0 h 0 #[.val (.ref o), .val (.int nx), .val (.long ky), .second, .val (.long wt), .second, .unset] []
  obtain ⟨g_o, g_aK, g_aO, g_aS, g_aL, g_aR, ne_o_aK, ne_o_aO, ne_o_aS, ne_o_aL, ne_o_aR, ne_aK_aO, ne_aK_aS, ne_aK_aL, ne_aK_aR, ne_aO_aS, ne_aO_aL, ne_aO_aR, ne_aS_aL, ne_aS_aR, ne_aL_aR⟩ := D
  obtain ⟨sf, E_o, F_keys, F_own, F_sums, F_left, F_right, F_used, F_unused, F_root, A_aK, A_aO, A_aS, A_aL, A_aR⟩ := KK
  refine Own.iloadN (pc' := 1) d_prog_19_method_9_0 rfl rfl ?_
  refine Own.iconst (pc' := 2) (v := (-1 : Int32)) d_prog_19_method_9_1 (by decide) rfl ?_
  refine Own.icmp_ne (pc' := 13) (pc2 := 5) d_prog_19_method_9_2 (by decide) (by decide) rfl (fun c2_747 => ?_) (fun c2_747 => ?_)
  · obtain ⟨k0, l, r, hk0, hx, rfl, T4, T5⟩ := own_Tn1 T c2_747
    have hl1 : l.length ≤ 3 ∧ r.length ≤ 3 ∧ l.length + r.length ≤ 3 := by simp only [List.length_append, List.length_cons] at hlen; omega
    refine Own.aloadN (pc' := 14) d_prog_19_method_9_13 rfl rfl rfl ?_
    refine Own.getfield (pc' := 17) d_prog_19_method_9_14 rfl (host := "") (Or.inl (hw _ (List.mem_of_getElem? (i := 15) rfl))) Via.refl F_sums ?_
    refine Own.iloadN (pc' := 18) d_prog_19_method_9_17 rfl rfl ?_
    refine Own.dup2 (pc' := 19) d_prog_19_method_9_18 rfl rfl rfl ?_
    refine Own.laload (pc' := 20) (i := k0) d_prog_19_method_9_19 rfl A_aS hx hk0 ?_
    obtain ⟨v749, hv749⟩ : ∃ z, z = sf k0 := ⟨_, rfl⟩
    rw [← hv749]
    refine Own.lload (pc' := 22) d_prog_19_method_9_20 rfl rfl ?_
    refine Own.ladd (pc' := 23) d_prog_19_method_9_22 rfl fun v750 hv750 => ?_
    refine Own.lastore (pc' := 24) (i := k0) d_prog_19_method_9_23 rfl A_aS g_aS hx hk0 fun h751 Wh751 Ah751 => ?_
    have f752 := F_keys.other Wh751 (Or.inl ne_o_aS)
    have f753 := F_own.other Wh751 (Or.inl ne_o_aS)
    have f754 := F_sums.other Wh751 (Or.inl ne_o_aS)
    have f755 := F_left.other Wh751 (Or.inl ne_o_aS)
    have f756 := F_right.other Wh751 (Or.inl ne_o_aS)
    have f757 := F_used.other Wh751 (Or.inl ne_o_aS)
    have f758 := F_unused.other Wh751 (Or.inl ne_o_aS)
    have f759 := F_root.other Wh751 (Or.inl ne_o_aS)
    have f760 := E_o.wr Wh751
    have f761 := A_aK.other Wh751 ne_aK_aS
    have f762 := A_aO.other Wh751 ne_aO_aS
    have f763 := A_aL.other Wh751 (Ne.symm ne_aS_aL)
    have f764 := A_aR.other Wh751 (Ne.symm ne_aS_aR)
    have Zh751 : n0 ≤ h751.size := by rw [Wh751.size]; exact hZ0
    refine Own.lloadN (pc' := 25) d_prog_19_method_9_24 rfl rfl ?_
    refine Own.aloadN (pc' := 26) d_prog_19_method_9_25 rfl rfl rfl ?_
    refine Own.getfield (pc' := 29) d_prog_19_method_9_26 rfl (host := "") (Or.inl (hw _ (List.mem_of_getElem? (i := 11) rfl))) Via.refl f752 ?_
    refine Own.iloadN (pc' := 30) d_prog_19_method_9_29 rfl rfl ?_
    refine Own.laload (pc' := 31) (i := k0) d_prog_19_method_9_30 rfl f761 hx hk0 ?_
    obtain ⟨v765, hv765⟩ : ∃ z, z = kf k0 := ⟨_, rfl⟩
    rw [← hv765]
    refine Own.lcmp_ne (pc1 := 32) (pc' := 85) (pc2 := 35) d_prog_19_method_9_31 rfl d_prog_19_method_9_32 (by decide) (by decide) rfl (fun c31_765 => ?_) (fun c31_765 => ?_)
    · refine Own.lloadN (pc' := 86) d_prog_19_method_9_85 rfl rfl ?_
      refine Own.aloadN (pc' := 87) d_prog_19_method_9_86 rfl rfl rfl ?_
      refine Own.getfield (pc' := 90) d_prog_19_method_9_87 rfl (host := "") (Or.inl (hw _ (List.mem_of_getElem? (i := 11) rfl))) Via.refl f752 ?_
      refine Own.iloadN (pc' := 91) d_prog_19_method_9_90 rfl rfl ?_
      refine Own.laload (pc' := 92) (i := k0) d_prog_19_method_9_91 rfl f761 hx hk0 ?_
      obtain ⟨v767, hv767⟩ : ∃ z, z = kf k0 := ⟨_, rfl⟩
      rw [← hv767]
      refine Own.lcmp_ge (pc1 := 93) (pc' := 147) (pc2 := 96) d_prog_19_method_9_92 rfl d_prog_19_method_9_93 (by decide) (by decide) rfl (fun c92_767 => ?_) (fun c92_767 => ?_)
      · refine Own.aloadN (pc' := 148) d_prog_19_method_9_147 rfl rfl rfl ?_
        refine Own.aloadN (pc' := 149) d_prog_19_method_9_148 rfl rfl rfl ?_
        refine Own.getfield (pc' := 152) d_prog_19_method_9_149 rfl (host := "") (Or.inl (hw _ (List.mem_of_getElem? (i := 20) rfl))) Via.refl f756 ?_
        refine Own.iloadN (pc' := 153) d_prog_19_method_9_152 rfl rfl ?_
        refine Own.iaload (pc' := 154) (i := k0) d_prog_19_method_9_153 rfl f764 hx hk0 ?_
        obtain ⟨v769, hv769⟩ : ∃ z, z = rf k0 := ⟨_, rfl⟩
        rw [← hv769]
        refine Own.lloadN (pc' := 155) d_prog_19_method_9_154 rfl rfl ?_
        refine Own.lload (pc' := 157) d_prog_19_method_9_155 rfl rfl ?_
        refine Own.privat (pc' := 160) (y := (⟨"com/example/lowtide/lowtide/compact/KeyedSums", "add", "(IJJ)I"⟩ : MethodName)) (rm' := ({ frames := 5, cells := 0, slots := 0, locals := 80 } : Room)) (W := 0) (as := [(.int v769), (.long ky), (.long wt)]) (rest := []) (a := o) d_prog_19_method_9_157 rfl (hw _ (List.mem_of_getElem? (i := 31) rfl)) (hw _ (List.mem_of_getElem? (i := 32) rfl)) (hw _ (List.mem_of_getElem? (i := 2) rfl)) (hw _ (List.mem_of_getElem? (i := 33) rfl)) (hw _ (List.mem_of_getElem? (i := 3) rfl)) (hw _ (List.mem_of_getElem? (i := 34) rfl)) (by decide) f760 (c_add3 Z a0 hw n0 h751 Zh751 o v769 ky wt aK aO aS aL aR kf of lf rf us un rt ⟨g_o, g_aK, g_aO, g_aS, g_aL, g_aR, ne_o_aK, ne_o_aO, ne_o_aS, ne_o_aL, ne_o_aR, ne_aK_aO, ne_aK_aS, ne_aK_aL, ne_aK_aR, ne_aO_aS, ne_aO_aL, ne_aO_aR, ne_aS_aL, ne_aS_aR, ne_aL_aR⟩ ⟨_, f760, f752, f753, f754, f755, f756, f757, f758, f759, f761, f762, Ah751, f763, f764⟩ U r (hv769 ▸ T5) (own_S_mid hS).2.1 hU16 hus (fun p hp => hlt p (by simp [hp])) hun hl1.2.1) rfl rfl (lenOf pd_5 rfl) (by decide) rfl (by decide) (by decide) (by decide) fun r771 h770 qh770 => ?_
        obtain ⟨u772, qs773, kf774, of775, lf776, rf777, us778, un779, e2, Zh770, Kh770, AA⟩ := qh770
        subst e2
        obtain ⟨sf780, E_o_h770, F_keys_h770, F_own_h770, F_sums_h770, F_left_h770, F_right_h770, F_used_h770, F_unused_h770, F_root_h770, A_aK_h770, A_aO_h770, A_aS_h770, A_aL_h770, A_aR_h770⟩ := Kh770
        have AL := own_A_right (x := nx) hk0 hx T4 hS hlt (by rw [← hv767]; exact own_ltne c92_767 (fun e => c31_765 (e.trans (hv767.trans hv765.symm)))) AA
        show Go K _ _ _ _ _ _ _ _ _ 0 0 h770 160 #[.val (.ref o), .val (.int nx), .val (.long ky), .second, .val (.long wt), .second, .unset] [(.int u772)]
        refine Own.istore (pc' := 162) (L1 := #[.val (.ref o), .val (.int nx), .val (.long ky), .second, .val (.long wt), .second, .val (.int u772)]) d_prog_19_method_9_160 rfl rfl ?_
        refine Own.aloadN (pc' := 163) d_prog_19_method_9_162 rfl rfl rfl ?_
        refine Own.getfield (pc' := 166) d_prog_19_method_9_163 rfl (host := "") (Or.inl (hw _ (List.mem_of_getElem? (i := 20) rfl))) Via.refl F_right_h770 ?_
        refine Own.iloadN (pc' := 167) d_prog_19_method_9_166 rfl rfl ?_
        refine Own.iload (pc' := 169) d_prog_19_method_9_167 rfl rfl ?_
        refine Own.iastore (pc' := 170) (i := k0) d_prog_19_method_9_169 rfl A_aR_h770 g_aR hx hk0 fun h781 Wh781 Ah781 => ?_
        have f782 := F_keys_h770.other Wh781 (Or.inl ne_o_aR)
        have f783 := F_own_h770.other Wh781 (Or.inl ne_o_aR)
        have f784 := F_sums_h770.other Wh781 (Or.inl ne_o_aR)
        have f785 := F_left_h770.other Wh781 (Or.inl ne_o_aR)
        have f786 := F_right_h770.other Wh781 (Or.inl ne_o_aR)
        have f787 := F_used_h770.other Wh781 (Or.inl ne_o_aR)
        have f788 := F_unused_h770.other Wh781 (Or.inl ne_o_aR)
        have f789 := F_root_h770.other Wh781 (Or.inl ne_o_aR)
        have f790 := E_o_h770.wr Wh781
        have f791 := A_aK_h770.other Wh781 ne_aK_aR
        have f792 := A_aO_h770.other Wh781 ne_aO_aR
        have f793 := A_aS_h770.other Wh781 ne_aS_aR
        have f794 := A_aL_h770.other Wh781 ne_aL_aR
        have Zh781 : n0 ≤ h781.size := by rw [Wh781.size]; exact Zh770
        refine Own.iload (pc' := 172) d_prog_19_method_9_170 rfl rfl ?_
        refine Own.iconst (pc' := 173) (v := (-1 : Int32)) d_prog_19_method_9_172 (by decide) rfl ?_
        refine Own.icmp_eq (pc' := 196) (pc2 := 176) d_prog_19_method_9_173 (by decide) (by decide) rfl (fun c173_794 => ?_) (fun c173_794 => ?_)
        · refine Own.iloadN (pc' := 197) d_prog_19_method_9_196 rfl rfl ?_
          subst hv749 hv750 hv765 hv767 hv769
          exact Own.ireturnI d_prog_19_method_9_197 rfl (⟨_, _, _, _, _, _, _, _, rfl, Zh781, ⟨_, f790, f782, f783, f784, f785, f786, f787, f788, f789, f791, f792, f793, f794, Ah781⟩, AL⟩) (by decide) (by decide)
        · refine Own.iload (pc' := 178) d_prog_19_method_9_176 rfl rfl ?_
          refine Own.static (pc' := 181) (y := (⟨"com/example/lowtide/lowtide/compact/KeyedSums", "rank", "(I)I"⟩ : MethodName)) (rm' := ({ frames := 0, cells := 0, slots := 0, locals := 0 } : Room)) (W := 0) (as := [(.int u772)]) (rest := []) d_prog_19_method_9_178 rfl (hw _ (List.mem_of_getElem? (i := 55) rfl)) (hw _ (List.mem_of_getElem? (i := 56) rfl)) (hw _ (List.mem_of_getElem? (i := 3) rfl)) (hw _ (List.mem_of_getElem? (i := 57) rfl)) (by decide) (c_rank Z a0 hw n0 h781 Zh781 u772) rfl rfl (lenOf pd_2 rfl) (by decide) rfl (by decide) (by decide) (by decide) fun r797 h796 qh796 => ?_
          obtain ⟨u798, e2, e1⟩ := qh796
          subst e1 e2
          show Go K _ _ _ _ _ _ _ _ _ 0 0 h781 181 #[.val (.ref o), .val (.int nx), .val (.long ky), .second, .val (.long wt), .second, .val (.int u772)] [(.int u798)]
          refine Own.iloadN (pc' := 182) d_prog_19_method_9_181 rfl rfl ?_
          refine Own.static (pc' := 185) (y := (⟨"com/example/lowtide/lowtide/compact/KeyedSums", "rank", "(I)I"⟩ : MethodName)) (rm' := ({ frames := 0, cells := 0, slots := 0, locals := 0 } : Room)) (W := 1) (as := [(.int nx)]) (rest := [(.int u798)]) d_prog_19_method_9_182 rfl (hw _ (List.mem_of_getElem? (i := 55) rfl)) (hw _ (List.mem_of_getElem? (i := 56) rfl)) (hw _ (List.mem_of_getElem? (i := 3) rfl)) (hw _ (List.mem_of_getElem? (i := 57) rfl)) (by decide) (c_rank Z a0 hw n0 h781 Zh781 nx) rfl rfl (lenOf pd_2 rfl) (by decide) rfl (by decide) (by decide) (by decide) fun r800 h799 qh799 => ?_
          obtain ⟨u801, e2, e1⟩ := qh799
          subst e1 e2
          show Go K _ _ _ _ _ _ _ _ _ 0 0 h781 185 #[.val (.ref o), .val (.int nx), .val (.long ky), .second, .val (.long wt), .second, .val (.int u772)] [(.int u801), (.int u798)]
          refine Own.icmp_le (pc' := 196) (pc2 := 188) d_prog_19_method_9_185 (by decide) (by decide) rfl (fun c185_801 => ?_) (fun c185_801 => ?_)
          · refine Own.iloadN (pc' := 197) d_prog_19_method_9_196 rfl rfl ?_
            subst hv749 hv750 hv765 hv767 hv769
            exact Own.ireturnI d_prog_19_method_9_197 rfl (⟨_, _, _, _, _, _, _, _, rfl, Zh781, ⟨_, f790, f782, f783, f784, f785, f786, f787, f788, f789, f791, f792, f793, f794, Ah781⟩, AL⟩) (by decide) (by decide)
          · refine Own.aloadN (pc' := 189) d_prog_19_method_9_188 rfl rfl rfl ?_
            refine Own.iloadN (pc' := 190) d_prog_19_method_9_189 rfl rfl ?_
            obtain ⟨j, hj, -, hlj, hne, V1, V2, V3, TR, eR⟩ := own_rotL AL.1 (AL.nd hS).2 hx (by rw [own_set_eq]; exact c173_794)
            refine Own.privat (pc' := 193) (y := (⟨"com/example/lowtide/lowtide/compact/KeyedSums", "turnLeft", "(I)I"⟩ : MethodName)) (rm' := ({ frames := 2, cells := 0, slots := 0, locals := 30 } : Room)) (W := 0) (as := [(.int nx)]) (rest := []) (a := o) d_prog_19_method_9_190 rfl (hw _ (List.mem_of_getElem? (i := 73) rfl)) (hw _ (List.mem_of_getElem? (i := 74) rfl)) (hw _ (List.mem_of_getElem? (i := 2) rfl)) (hw _ (List.mem_of_getElem? (i := 75) rfl)) (hw _ (List.mem_of_getElem? (i := 3) rfl)) (hw _ (List.mem_of_getElem? (i := 76) rfl)) (by decide) f790 (c_turnLeft Z a0 hw n0 h781 Zh781 o nx aK aO aS aL aR kf774 of775 lf776 (ownSet rf777 k0 u772) us778 un779 rt ⟨g_o, g_aK, g_aO, g_aS, g_aL, g_aR, ne_o_aK, ne_o_aO, ne_o_aS, ne_o_aL, ne_o_aR, ne_aK_aO, ne_aK_aS, ne_aK_aL, ne_aK_aR, ne_aO_aS, ne_aO_aL, ne_aO_aR, ne_aS_aL, ne_aS_aR, ne_aL_aR⟩ ⟨_, f790, f782, f783, f784, f785, f786, f787, f788, f789, f791, f792, f793, f794, Ah781⟩ k0 j hk0 hx hj hlj hne V1 V2 V3) rfl rfl (lenOf pd_2 rfl) (by decide) rfl (by decide) (by decide) (by decide) fun r804 h803 qh803 => ?_
            obtain ⟨v805, e2, hv805, Zh803, Kh803⟩ := qh803
            subst e2
            obtain ⟨sf806, E_o_h803, F_keys_h803, F_own_h803, F_sums_h803, F_left_h803, F_right_h803, F_used_h803, F_unused_h803, F_root_h803, A_aK_h803, A_aO_h803, A_aS_h803, A_aL_h803, A_aR_h803⟩ := Kh803
            show Go K _ _ _ _ _ _ _ _ _ 0 0 h803 193 #[.val (.ref o), .val (.int nx), .val (.long ky), .second, .val (.long wt), .second, .val (.int u772)] [(.int v805)]
            refine Own.goto (pc' := 197) d_prog_19_method_9_193 (by decide) (by decide) ?_
            subst hv749 hv750 hv765 hv767 hv769 hv805
            exact Own.ireturnI d_prog_19_method_9_197 rfl (⟨_, _, _, _, _, _, _, _, rfl, Zh803, ⟨_, E_o_h803, F_keys_h803, F_own_h803, F_sums_h803, F_left_h803, F_right_h803, F_used_h803, F_unused_h803, F_root_h803, A_aK_h803, A_aO_h803, A_aS_h803, A_aL_h803, A_aR_h803⟩, AL.turn TR eR⟩) (by decide) (by decide)
      · refine Own.aloadN (pc' := 97) d_prog_19_method_9_96 rfl rfl rfl ?_
        refine Own.aloadN (pc' := 98) d_prog_19_method_9_97 rfl rfl rfl ?_
        refine Own.getfield (pc' := 101) d_prog_19_method_9_98 rfl (host := "") (Or.inl (hw _ (List.mem_of_getElem? (i := 18) rfl))) Via.refl f755 ?_
        refine Own.iloadN (pc' := 102) d_prog_19_method_9_101 rfl rfl ?_
        refine Own.iaload (pc' := 103) (i := k0) d_prog_19_method_9_102 rfl f763 hx hk0 ?_
        obtain ⟨v807, hv807⟩ : ∃ z, z = lf k0 := ⟨_, rfl⟩
        rw [← hv807]
        refine Own.lloadN (pc' := 104) d_prog_19_method_9_103 rfl rfl ?_
        refine Own.lload (pc' := 106) d_prog_19_method_9_104 rfl rfl ?_
        refine Own.privat (pc' := 109) (y := (⟨"com/example/lowtide/lowtide/compact/KeyedSums", "add", "(IJJ)I"⟩ : MethodName)) (rm' := ({ frames := 5, cells := 0, slots := 0, locals := 80 } : Room)) (W := 0) (as := [(.int v807), (.long ky), (.long wt)]) (rest := []) (a := o) d_prog_19_method_9_106 rfl (hw _ (List.mem_of_getElem? (i := 31) rfl)) (hw _ (List.mem_of_getElem? (i := 32) rfl)) (hw _ (List.mem_of_getElem? (i := 2) rfl)) (hw _ (List.mem_of_getElem? (i := 33) rfl)) (hw _ (List.mem_of_getElem? (i := 3) rfl)) (hw _ (List.mem_of_getElem? (i := 34) rfl)) (by decide) f760 (c_add3 Z a0 hw n0 h751 Zh751 o v807 ky wt aK aO aS aL aR kf of lf rf us un rt ⟨g_o, g_aK, g_aO, g_aS, g_aL, g_aR, ne_o_aK, ne_o_aO, ne_o_aS, ne_o_aL, ne_o_aR, ne_aK_aO, ne_aK_aS, ne_aK_aL, ne_aK_aR, ne_aO_aS, ne_aO_aL, ne_aO_aR, ne_aS_aL, ne_aS_aR, ne_aL_aR⟩ ⟨_, f760, f752, f753, f754, f755, f756, f757, f758, f759, f761, f762, Ah751, f763, f764⟩ U l (hv807 ▸ T4) (own_S_mid hS).1 hU16 hus (fun p hp => hlt p (by simp [hp])) hun hl1.1) rfl rfl (lenOf pd_5 rfl) (by decide) rfl (by decide) (by decide) (by decide) fun r809 h808 qh808 => ?_
        obtain ⟨u810, qs811, kf812, of813, lf814, rf815, us816, un817, e2, Zh808, Kh808, AA⟩ := qh808
        subst e2
        obtain ⟨sf818, E_o_h808, F_keys_h808, F_own_h808, F_sums_h808, F_left_h808, F_right_h808, F_used_h808, F_unused_h808, F_root_h808, A_aK_h808, A_aO_h808, A_aS_h808, A_aL_h808, A_aR_h808⟩ := Kh808
        have AL := own_A_left (x := nx) hk0 hx T5 hS hlt (by rw [← hv767]; exact Int.not_le.mp c92_767) AA
        show Go K _ _ _ _ _ _ _ _ _ 0 0 h808 109 #[.val (.ref o), .val (.int nx), .val (.long ky), .second, .val (.long wt), .second, .unset] [(.int u810)]
        refine Own.istore (pc' := 111) (L1 := #[.val (.ref o), .val (.int nx), .val (.long ky), .second, .val (.long wt), .second, .val (.int u810)]) d_prog_19_method_9_109 rfl rfl ?_
        refine Own.aloadN (pc' := 112) d_prog_19_method_9_111 rfl rfl rfl ?_
        refine Own.getfield (pc' := 115) d_prog_19_method_9_112 rfl (host := "") (Or.inl (hw _ (List.mem_of_getElem? (i := 18) rfl))) Via.refl F_left_h808 ?_
        refine Own.iloadN (pc' := 116) d_prog_19_method_9_115 rfl rfl ?_
        refine Own.iload (pc' := 118) d_prog_19_method_9_116 rfl rfl ?_
        refine Own.iastore (pc' := 119) (i := k0) d_prog_19_method_9_118 rfl A_aL_h808 g_aL hx hk0 fun h819 Wh819 Ah819 => ?_
        have f820 := F_keys_h808.other Wh819 (Or.inl ne_o_aL)
        have f821 := F_own_h808.other Wh819 (Or.inl ne_o_aL)
        have f822 := F_sums_h808.other Wh819 (Or.inl ne_o_aL)
        have f823 := F_left_h808.other Wh819 (Or.inl ne_o_aL)
        have f824 := F_right_h808.other Wh819 (Or.inl ne_o_aL)
        have f825 := F_used_h808.other Wh819 (Or.inl ne_o_aL)
        have f826 := F_unused_h808.other Wh819 (Or.inl ne_o_aL)
        have f827 := F_root_h808.other Wh819 (Or.inl ne_o_aL)
        have f828 := E_o_h808.wr Wh819
        have f829 := A_aK_h808.other Wh819 ne_aK_aL
        have f830 := A_aO_h808.other Wh819 ne_aO_aL
        have f831 := A_aS_h808.other Wh819 ne_aS_aL
        have f832 := A_aR_h808.other Wh819 (Ne.symm ne_aL_aR)
        have Zh819 : n0 ≤ h819.size := by rw [Wh819.size]; exact Zh808
        refine Own.iload (pc' := 121) d_prog_19_method_9_119 rfl rfl ?_
        refine Own.iconst (pc' := 122) (v := (-1 : Int32)) d_prog_19_method_9_121 (by decide) rfl ?_
        refine Own.icmp_eq (pc' := 145) (pc2 := 125) d_prog_19_method_9_122 (by decide) (by decide) rfl (fun c122_832 => ?_) (fun c122_832 => ?_)
        · refine Own.iloadN (pc' := 146) d_prog_19_method_9_145 rfl rfl ?_
          subst hv749 hv750 hv765 hv767 hv807
          exact Own.ireturnI d_prog_19_method_9_146 rfl (⟨_, _, _, _, _, _, _, _, rfl, Zh819, ⟨_, f828, f820, f821, f822, f823, f824, f825, f826, f827, f829, f830, f831, Ah819, f832⟩, AL⟩) (by decide) (by decide)
        · refine Own.iload (pc' := 127) d_prog_19_method_9_125 rfl rfl ?_
          refine Own.static (pc' := 130) (y := (⟨"com/example/lowtide/lowtide/compact/KeyedSums", "rank", "(I)I"⟩ : MethodName)) (rm' := ({ frames := 0, cells := 0, slots := 0, locals := 0 } : Room)) (W := 0) (as := [(.int u810)]) (rest := []) d_prog_19_method_9_127 rfl (hw _ (List.mem_of_getElem? (i := 55) rfl)) (hw _ (List.mem_of_getElem? (i := 56) rfl)) (hw _ (List.mem_of_getElem? (i := 3) rfl)) (hw _ (List.mem_of_getElem? (i := 57) rfl)) (by decide) (c_rank Z a0 hw n0 h819 Zh819 u810) rfl rfl (lenOf pd_2 rfl) (by decide) rfl (by decide) (by decide) (by decide) fun r835 h834 qh834 => ?_
          obtain ⟨u836, e2, e1⟩ := qh834
          subst e1 e2
          show Go K _ _ _ _ _ _ _ _ _ 0 0 h819 130 #[.val (.ref o), .val (.int nx), .val (.long ky), .second, .val (.long wt), .second, .val (.int u810)] [(.int u836)]
          refine Own.iloadN (pc' := 131) d_prog_19_method_9_130 rfl rfl ?_
          refine Own.static (pc' := 134) (y := (⟨"com/example/lowtide/lowtide/compact/KeyedSums", "rank", "(I)I"⟩ : MethodName)) (rm' := ({ frames := 0, cells := 0, slots := 0, locals := 0 } : Room)) (W := 1) (as := [(.int nx)]) (rest := [(.int u836)]) d_prog_19_method_9_131 rfl (hw _ (List.mem_of_getElem? (i := 55) rfl)) (hw _ (List.mem_of_getElem? (i := 56) rfl)) (hw _ (List.mem_of_getElem? (i := 3) rfl)) (hw _ (List.mem_of_getElem? (i := 57) rfl)) (by decide) (c_rank Z a0 hw n0 h819 Zh819 nx) rfl rfl (lenOf pd_2 rfl) (by decide) rfl (by decide) (by decide) (by decide) fun r838 h837 qh837 => ?_
          obtain ⟨u839, e2, e1⟩ := qh837
          subst e1 e2
          show Go K _ _ _ _ _ _ _ _ _ 0 0 h819 134 #[.val (.ref o), .val (.int nx), .val (.long ky), .second, .val (.long wt), .second, .val (.int u810)] [(.int u839), (.int u836)]
          refine Own.icmp_le (pc' := 145) (pc2 := 137) d_prog_19_method_9_134 (by decide) (by decide) rfl (fun c134_839 => ?_) (fun c134_839 => ?_)
          · refine Own.iloadN (pc' := 146) d_prog_19_method_9_145 rfl rfl ?_
            subst hv749 hv750 hv765 hv767 hv807
            exact Own.ireturnI d_prog_19_method_9_146 rfl (⟨_, _, _, _, _, _, _, _, rfl, Zh819, ⟨_, f828, f820, f821, f822, f823, f824, f825, f826, f827, f829, f830, f831, Ah819, f832⟩, AL⟩) (by decide) (by decide)
          · refine Own.aloadN (pc' := 138) d_prog_19_method_9_137 rfl rfl rfl ?_
            refine Own.iloadN (pc' := 139) d_prog_19_method_9_138 rfl rfl ?_
            obtain ⟨j, hj, -, hlj, hne, V1, V2, V3, TR, eR⟩ := own_rotR AL.1 (AL.nd hS).2 hx (by rw [own_set_eq]; exact c122_832)
            refine Own.privat (pc' := 142) (y := (⟨"com/example/lowtide/lowtide/compact/KeyedSums", "turnRight", "(I)I"⟩ : MethodName)) (rm' := ({ frames := 2, cells := 0, slots := 0, locals := 30 } : Room)) (W := 0) (as := [(.int nx)]) (rest := []) (a := o) d_prog_19_method_9_139 rfl (hw _ (List.mem_of_getElem? (i := 61) rfl)) (hw _ (List.mem_of_getElem? (i := 62) rfl)) (hw _ (List.mem_of_getElem? (i := 2) rfl)) (hw _ (List.mem_of_getElem? (i := 63) rfl)) (hw _ (List.mem_of_getElem? (i := 3) rfl)) (hw _ (List.mem_of_getElem? (i := 64) rfl)) (by decide) f828 (c_turnRight Z a0 hw n0 h819 Zh819 o nx aK aO aS aL aR kf812 of813 (ownSet lf814 k0 u810) rf815 us816 un817 rt ⟨g_o, g_aK, g_aO, g_aS, g_aL, g_aR, ne_o_aK, ne_o_aO, ne_o_aS, ne_o_aL, ne_o_aR, ne_aK_aO, ne_aK_aS, ne_aK_aL, ne_aK_aR, ne_aO_aS, ne_aO_aL, ne_aO_aR, ne_aS_aL, ne_aS_aR, ne_aL_aR⟩ ⟨_, f828, f820, f821, f822, f823, f824, f825, f826, f827, f829, f830, f831, Ah819, f832⟩ k0 j hk0 hx hj hlj hne V1 V2 V3) rfl rfl (lenOf pd_2 rfl) (by decide) rfl (by decide) (by decide) (by decide) fun r842 h841 qh841 => ?_
            obtain ⟨v843, e2, hv843, Zh841, Kh841⟩ := qh841
            subst e2
            obtain ⟨sf844, E_o_h841, F_keys_h841, F_own_h841, F_sums_h841, F_left_h841, F_right_h841, F_used_h841, F_unused_h841, F_root_h841, A_aK_h841, A_aO_h841, A_aS_h841, A_aL_h841, A_aR_h841⟩ := Kh841
            show Go K _ _ _ _ _ _ _ _ _ 0 0 h841 142 #[.val (.ref o), .val (.int nx), .val (.long ky), .second, .val (.long wt), .second, .val (.int u810)] [(.int v843)]
            refine Own.goto (pc' := 146) d_prog_19_method_9_142 (by decide) (by decide) ?_
            subst hv749 hv750 hv765 hv767 hv807 hv843
            exact Own.ireturnI d_prog_19_method_9_146 rfl (⟨_, _, _, _, _, _, _, _, rfl, Zh841, ⟨_, E_o_h841, F_keys_h841, F_own_h841, F_sums_h841, F_left_h841, F_right_h841, F_used_h841, F_unused_h841, F_root_h841, A_aK_h841, A_aO_h841, A_aS_h841, A_aL_h841, A_aR_h841⟩, AL.turn TR eR⟩) (by decide) (by decide)
    · refine Own.aloadN (pc' := 36) d_prog_19_method_9_35 rfl rfl rfl ?_
      refine Own.getfield (pc' := 39) d_prog_19_method_9_36 rfl (host := "") (Or.inl (hw _ (List.mem_of_getElem? (i := 13) rfl))) Via.refl f753 ?_
      refine Own.iloadN (pc' := 40) d_prog_19_method_9_39 rfl rfl ?_
      refine Own.dup2 (pc' := 41) d_prog_19_method_9_40 rfl rfl rfl ?_
      refine Own.laload (pc' := 42) (i := k0) d_prog_19_method_9_41 rfl f762 hx hk0 ?_
      obtain ⟨v845, hv845⟩ : ∃ z, z = of k0 := ⟨_, rfl⟩
      rw [← hv845]
      refine Own.lload (pc' := 44) d_prog_19_method_9_42 rfl rfl ?_
      refine Own.ladd (pc' := 45) d_prog_19_method_9_44 rfl fun v846 hv846 => ?_
      refine Own.lastore (pc' := 46) (i := k0) d_prog_19_method_9_45 rfl f762 g_aO hx hk0 fun h847 Wh847 Ah847 => ?_
      have f848 := f752.other Wh847 (Or.inl ne_o_aO)
      have f849 := f753.other Wh847 (Or.inl ne_o_aO)
      have f850 := f754.other Wh847 (Or.inl ne_o_aO)
      have f851 := f755.other Wh847 (Or.inl ne_o_aO)
      have f852 := f756.other Wh847 (Or.inl ne_o_aO)
      have f853 := f757.other Wh847 (Or.inl ne_o_aO)
      have f854 := f758.other Wh847 (Or.inl ne_o_aO)
      have f855 := f759.other Wh847 (Or.inl ne_o_aO)
      have f856 := f760.wr Wh847
      have f857 := f761.other Wh847 ne_aK_aO
      have f858 := Ah751.other Wh847 (Ne.symm ne_aO_aS)
      have f859 := f763.other Wh847 (Ne.symm ne_aO_aL)
      have f860 := f764.other Wh847 (Ne.symm ne_aO_aR)
      have Zh847 : n0 ≤ h847.size := by rw [Wh847.size]; exact Zh751
      refine Own.aloadN (pc' := 47) d_prog_19_method_9_46 rfl rfl rfl ?_
      refine Own.getfield (pc' := 50) d_prog_19_method_9_47 rfl (host := "") (Or.inl (hw _ (List.mem_of_getElem? (i := 13) rfl))) Via.refl f849 ?_
      refine Own.iloadN (pc' := 51) d_prog_19_method_9_50 rfl rfl ?_
      refine Own.laload (pc' := 52) (i := k0) d_prog_19_method_9_51 rfl Ah847 hx hk0 ?_
      obtain ⟨v861, hv861⟩ : ∃ z, z = (ownSet of k0 v846) k0 := ⟨_, rfl⟩
      rw [← hv861]
      refine Own.lconst0 (pc' := 53) d_prog_19_method_9_52 rfl ?_
      refine Own.lcmp_eq (pc1 := 54) (pc' := 59) (pc2 := 57) d_prog_19_method_9_53 rfl d_prog_19_method_9_54 (by decide) (by decide) rfl (fun c53_861 => ?_) (fun c53_861 => ?_)
      · refine Own.aloadN (pc' := 60) d_prog_19_method_9_59 rfl rfl rfl ?_
        refine Own.aloadN (pc' := 61) d_prog_19_method_9_60 rfl rfl rfl ?_
        refine Own.getfield (pc' := 64) d_prog_19_method_9_61 rfl (host := "") (Or.inl (hw _ (List.mem_of_getElem? (i := 18) rfl))) Via.refl f851 ?_
        refine Own.iloadN (pc' := 65) d_prog_19_method_9_64 rfl rfl ?_
        refine Own.iaload (pc' := 66) (i := k0) d_prog_19_method_9_65 rfl f859 hx hk0 ?_
        obtain ⟨v863, hv863⟩ : ∃ z, z = lf k0 := ⟨_, rfl⟩
        rw [← hv863]
        refine Own.aloadN (pc' := 67) d_prog_19_method_9_66 rfl rfl rfl ?_
        refine Own.getfield (pc' := 70) d_prog_19_method_9_67 rfl (host := "") (Or.inl (hw _ (List.mem_of_getElem? (i := 20) rfl))) Via.refl f852 ?_
        refine Own.iloadN (pc' := 71) d_prog_19_method_9_70 rfl rfl ?_
        refine Own.iaload (pc' := 72) (i := k0) d_prog_19_method_9_71 rfl f860 hx hk0 ?_
        obtain ⟨v864, hv864⟩ : ∃ z, z = rf k0 := ⟨_, rfl⟩
        rw [← hv864]
        refine Own.privat (pc' := 75) (y := (⟨"com/example/lowtide/lowtide/compact/KeyedSums", "join", "(II)I"⟩ : MethodName)) (rm' := ({ frames := 3, cells := 0, slots := 0, locals := 46 } : Room)) (W := 0) (as := [(.int v863), (.int v864)]) (rest := []) (a := o) d_prog_19_method_9_72 rfl (hw _ (List.mem_of_getElem? (i := 77) rfl)) (hw _ (List.mem_of_getElem? (i := 78) rfl)) (hw _ (List.mem_of_getElem? (i := 2) rfl)) (hw _ (List.mem_of_getElem? (i := 79) rfl)) (hw _ (List.mem_of_getElem? (i := 3) rfl)) (hw _ (List.mem_of_getElem? (i := 80) rfl)) (by decide) f856 (c_join3 Z a0 hw n0 h847 Zh847 o v863 v864 aK aO aS aL aR kf (ownSet of k0 v846) lf rf us un rt ⟨g_o, g_aK, g_aO, g_aS, g_aL, g_aR, ne_o_aK, ne_o_aO, ne_o_aS, ne_o_aL, ne_o_aR, ne_aK_aO, ne_aK_aS, ne_aK_aL, ne_aK_aR, ne_aO_aS, ne_aO_aL, ne_aO_aR, ne_aS_aL, ne_aS_aR, ne_aL_aR⟩ ⟨_, f856, f848, f849, f850, f851, f852, f853, f854, f855, f857, Ah847, f858, f859, f860⟩ l r (hv863 ▸ T4) (hv864 ▸ T5) (own_nd_mid (own_S_nd hS)).2.2.2.2.2 hl1.2.2) rfl rfl (lenOf pd_3 rfl) (by decide) rfl (by decide) (by decide) (by decide) fun r866 h865 qh865 => ?_
        obtain ⟨u867, lf868, rf869, e2, Zh865, Kh865, TT, ee⟩ := qh865
        subst e2
        obtain ⟨sf870, E_o_h865, F_keys_h865, F_own_h865, F_sums_h865, F_left_h865, F_right_h865, F_used_h865, F_unused_h865, F_root_h865, A_aK_h865, A_aO_h865, A_aS_h865, A_aL_h865, A_aR_h865⟩ := Kh865
        show Go K _ _ _ _ _ _ _ _ _ 0 0 h865 75 #[.val (.ref o), .val (.int nx), .val (.long ky), .second, .val (.long wt), .second, .unset] [(.int u867)]
        refine Own.istore (pc' := 77) (L1 := #[.val (.ref o), .val (.int nx), .val (.long ky), .second, .val (.long wt), .second, .val (.int u867)]) d_prog_19_method_9_75 rfl rfl ?_
        refine Own.aloadN (pc' := 78) d_prog_19_method_9_77 rfl rfl rfl ?_
        refine Own.iloadN (pc' := 79) d_prog_19_method_9_78 rfl rfl ?_
        refine Own.privat (pc' := 82) (y := (⟨"com/example/lowtide/lowtide/compact/KeyedSums", "release", "(I)V"⟩ : MethodName)) (rm' := ({ frames := 0, cells := 0, slots := 0, locals := 0 } : Room)) (W := 0) (as := [(.int nx)]) (rest := []) (a := o) d_prog_19_method_9_79 rfl (hw _ (List.mem_of_getElem? (i := 81) rfl)) (hw _ (List.mem_of_getElem? (i := 82) rfl)) (hw _ (List.mem_of_getElem? (i := 2) rfl)) (hw _ (List.mem_of_getElem? (i := 83) rfl)) (hw _ (List.mem_of_getElem? (i := 3) rfl)) (hw _ (List.mem_of_getElem? (i := 84) rfl)) (by decide) E_o_h865 (c_release Z a0 hw n0 h865 Zh865 o nx aK aO aS aL aR kf (ownSet of k0 v846) lf868 rf869 us un rt ⟨g_o, g_aK, g_aO, g_aS, g_aL, g_aR, ne_o_aK, ne_o_aO, ne_o_aS, ne_o_aL, ne_o_aR, ne_aK_aO, ne_aK_aS, ne_aK_aL, ne_aK_aR, ne_aO_aS, ne_aO_aL, ne_aO_aR, ne_aS_aL, ne_aS_aR, ne_aL_aR⟩ ⟨_, E_o_h865, F_keys_h865, F_own_h865, F_sums_h865, F_left_h865, F_right_h865, F_used_h865, F_unused_h865, F_root_h865, A_aK_h865, A_aO_h865, A_aS_h865, A_aL_h865, A_aR_h865⟩ k0 hk0 hx) rfl rfl (lenOf pd_1 rfl) (by decide) rfl (by decide) (by decide) (by decide) fun r872 h871 qh871 => ?_
        obtain ⟨e2, Zh871, Kh871⟩ := qh871
        subst e2
        obtain ⟨sf873, E_o_h871, F_keys_h871, F_own_h871, F_sums_h871, F_left_h871, F_right_h871, F_used_h871, F_unused_h871, F_root_h871, A_aK_h871, A_aO_h871, A_aS_h871, A_aL_h871, A_aR_h871⟩ := Kh871
        show Go K _ _ _ _ _ _ _ _ _ 0 0 h871 82 #[.val (.ref o), .val (.int nx), .val (.long ky), .second, .val (.long wt), .second, .val (.int u867)] []
        refine Own.iload (pc' := 84) d_prog_19_method_9_82 rfl rfl ?_
        have hke := Decidable.not_not.mp c31_765
        rw [hv861, own_set_eq] at c53_861
        subst hv861
        subst hv749 hv750 hv765 hv845 hv846 hv863 hv864
        exact Own.ireturnI d_prog_19_method_9_84 rfl (⟨_, _, _, _, _, _, _, _, rfl, Zh871, ⟨_, E_o_h871, F_keys_h871, F_own_h871, F_sums_h871, F_left_h871, F_right_h871, F_used_h871, F_unused_h871, F_root_h871, A_aK_h871, A_aO_h871, A_aS_h871, A_aL_h871, A_aR_h871⟩, own_A_go TT ee hS hke c53_861⟩) (by decide) (by decide)
      · refine Own.iloadN (pc' := 58) d_prog_19_method_9_57 rfl rfl ?_
        have hke := Decidable.not_not.mp c31_765
        rw [hv861, own_set_eq] at c53_861
        subst hv861
        subst hv749 hv750 hv765 hv845 hv846
        exact Own.ireturnI d_prog_19_method_9_58 rfl (⟨_, _, _, _, _, _, _, _, rfl, Zh847, ⟨_, f856, f848, f849, f850, f851, f852, f853, f854, f855, f857, Ah847, f858, f859, f860⟩, own_A_stay T hS hke c53_861⟩) (by decide) (by decide)
  · refine Own.aloadN (pc' := 6) d_prog_19_method_9_5 rfl rfl rfl ?_
    refine Own.lloadN (pc' := 7) d_prog_19_method_9_6 rfl rfl ?_
    refine Own.lload (pc' := 9) d_prog_19_method_9_7 rfl rfl ?_
    refine Own.privat (pc' := 12) (y := (⟨"com/example/lowtide/lowtide/compact/KeyedSums", "place", "(JJ)I"⟩ : MethodName)) (rm' := ({ frames := 0, cells := 0, slots := 0, locals := 0 } : Room)) (W := 0) (as := [(.long ky), (.long wt)]) (rest := []) (a := o) d_prog_19_method_9_9 rfl (hw _ (List.mem_of_getElem? (i := 35) rfl)) (hw _ (List.mem_of_getElem? (i := 36) rfl)) (hw _ (List.mem_of_getElem? (i := 2) rfl)) (hw _ (List.mem_of_getElem? (i := 37) rfl)) (hw _ (List.mem_of_getElem? (i := 3) rfl)) (hw _ (List.mem_of_getElem? (i := 38) rfl)) (by decide) E_o (c_place Z a0 hw n0 h hZ0 o ky wt aK aO aS aL aR kf of lf rf us un rt ⟨g_o, g_aK, g_aO, g_aS, g_aL, g_aR, ne_o_aK, ne_o_aO, ne_o_aS, ne_o_aL, ne_o_aR, ne_aK_aO, ne_aK_aS, ne_aK_aL, ne_aK_aR, ne_aO_aS, ne_aO_aL, ne_aO_aR, ne_aS_aL, ne_aS_aR, ne_aL_aR⟩ ⟨_, E_o, F_keys, F_own, F_sums, F_left, F_right, F_used, F_unused, F_root, A_aK, A_aO, A_aS, A_aL, A_aR⟩ U hU16 hus hun) rfl rfl (lenOf pd_4 rfl) (by decide) rfl (by decide) (by decide) (by decide) fun r875 h874 qh874 => ?_
    obtain ⟨u876, e2, hzu876, Zh874, Kh874⟩ := qh874
    subst e2
    obtain ⟨sf877, E_o_h874, F_keys_h874, F_own_h874, F_sums_h874, F_left_h874, F_right_h874, F_used_h874, F_unused_h874, F_root_h874, A_aK_h874, A_aO_h874, A_aS_h874, A_aL_h874, A_aR_h874⟩ := Kh874
    show Go K _ _ _ _ _ _ _ _ _ 0 0 h874 12 #[.val (.ref o), .val (.int nx), .val (.long ky), .second, .val (.long wt), .second, .unset] [(.int u876)]
    obtain rfl := own_Tz T (Decidable.not_not.mp c2_747)
    exact Own.ireturnI d_prog_19_method_9_12 rfl (⟨_, _, _, _, _, _, _, _, rfl, Zh874, ⟨_, E_o_h874, F_keys_h874, F_own_h874, F_sums_h874, F_left_h874, F_right_h874, F_used_h874, F_unused_h874, F_root_h874, A_aK_h874, A_aO_h874, A_aS_h874, A_aL_h874, A_aR_h874⟩, own_A_new hU16 hus hzu876⟩) (by decide) (by decide)
set_option maxRecDepth 65536 in
set_option maxHeartbeats 40000000 in
theorem c_addV (Z : State) (a0 : Array Value) (hw : ∀ d ∈ tables_1, d.before a0 Z = true) (n0 : Nat) (h : Heap) (hZ0 : n0 ≤ h.size) (o : Addr) (ky : Int64) (wt : Int64) (aK aO aS aL aR : Addr) (kf of : Nat → Int64) (lf rf : Nat → Int32) (us un rt : Int32) (D : own_D n0 o aK aO aS aL aR) (KK : own_K Z h o aK aO aS aL aR kf of lf rf us un rt) (hky : 0 ≤ ky.toInt) (hwt : wt ≠ 0) (U : Nat) (ps : List Nat) (T : own_T lf rf rt ps) (hS : own_S (own_c kf of ps)) (hU16 : U < 16) (hus : us.toInt = (U : Int)) (hlt : ∀ p ∈ ps, p < U) (hun : un = -1) (hlen : ps.length ≤ 4) :
    Con Z n0 (⟨"com/example/lowtide/lowtide/compact/KeyedSums", "add", "(JJ)V"⟩ : MethodName) prog_19_method_2_code 5 none ({ frames := 7, cells := 0, slots := 0, locals := 117 } : Room) [(.ref o), (.long ky), (.long wt)] h (fun v h' => ∃ z qs kf' of' lf' rf' us' un', v = none ∧ n0 ≤ h'.size ∧ own_K Z h' o aK aO aS aL aR kf' of' lf' rf' us' un' z ∧ own_A kf of lf rf us un U ky wt ps kf' of' lf' rf' us' un' z qs) := by
  refine Own.enter (plainFor_of_name pn_0) (L0 := #[.val (.ref o), .val (.long ky), .second, .val (.long wt), .second]) (fun m => by first | (simp [entryFrame, mkF, argsToLocals, Value.category]; done) | rfl) fun K => ?_
  show Go K _ _ _ _ _ _ "com/example/lowtide/lowtide/compact/KeyedSums" "add" _ 0 0 h 0 #[.val (.ref o), .val (.long ky), .second, .val (.long wt), .second] []
  obtain ⟨g_o, g_aK, g_aO, g_aS, g_aL, g_aR, ne_o_aK, ne_o_aO, ne_o_aS, ne_o_aL, ne_o_aR, ne_aK_aO, ne_aK_aS, ne_aK_aL, ne_aK_aR, ne_aO_aS, ne_aO_aL, ne_aO_aR, ne_aS_aL, ne_aS_aR, ne_aL_aR⟩ := D
  obtain ⟨sf, E_o, F_keys, F_own, F_sums, F_left, F_right, F_used, F_unused, F_root, A_aK, A_aO, A_aS, A_aL, A_aR⟩ := KK
  refine Own.lloadN (pc' := 1) d_prog_19_method_2_0 rfl rfl ?_
  refine Own.lconst0 (pc' := 2) d_prog_19_method_2_1 rfl ?_
  refine Own.lcmp_ge (pc1 := 3) (pc' := 20) (pc2 := 6) d_prog_19_method_2_2 rfl d_prog_19_method_2_3 (by decide) (by decide) rfl (fun c2_877 => ?_) (fun c2_877 => False.elim (by exact c2_877 hky))
  refine Own.lloadN (pc' := 21) d_prog_19_method_2_20 rfl rfl ?_
  refine Own.lconst0 (pc' := 22) d_prog_19_method_2_21 rfl ?_
  refine Own.lcmp_eq (pc1 := 23) (pc' := 40) (pc2 := 26) d_prog_19_method_2_22 rfl d_prog_19_method_2_23 (by decide) (by decide) rfl (fun c22_878 => False.elim (by exact hwt c22_878)) (fun c22_878 => ?_)
  refine Own.aloadN (pc' := 27) d_prog_19_method_2_26 rfl rfl rfl ?_
  refine Own.aloadN (pc' := 28) d_prog_19_method_2_27 rfl rfl rfl ?_
  refine Own.aloadN (pc' := 29) d_prog_19_method_2_28 rfl rfl rfl ?_
  refine Own.getfield (pc' := 32) d_prog_19_method_2_29 rfl (host := "") (Or.inl (hw _ (List.mem_of_getElem? (i := 24) rfl))) Via.refl F_root ?_
  refine Own.lloadN (pc' := 33) d_prog_19_method_2_32 rfl rfl ?_
  refine Own.lloadN (pc' := 34) d_prog_19_method_2_33 rfl rfl ?_
  refine Own.privat (pc' := 37) (y := (⟨"com/example/lowtide/lowtide/compact/KeyedSums", "add", "(IJJ)I"⟩ : MethodName)) (rm' := ({ frames := 6, cells := 0, slots := 0, locals := 98 } : Room)) (W := 1) (as := [(.int rt), (.long ky), (.long wt)]) (rest := [(.ref o)]) (a := o) d_prog_19_method_2_34 rfl (hw _ (List.mem_of_getElem? (i := 31) rfl)) (hw _ (List.mem_of_getElem? (i := 32) rfl)) (hw _ (List.mem_of_getElem? (i := 2) rfl)) (hw _ (List.mem_of_getElem? (i := 33) rfl)) (hw _ (List.mem_of_getElem? (i := 3) rfl)) (hw _ (List.mem_of_getElem? (i := 34) rfl)) (by decide) E_o (c_add4 Z a0 hw n0 h hZ0 o rt ky wt aK aO aS aL aR kf of lf rf us un rt ⟨g_o, g_aK, g_aO, g_aS, g_aL, g_aR, ne_o_aK, ne_o_aO, ne_o_aS, ne_o_aL, ne_o_aR, ne_aK_aO, ne_aK_aS, ne_aK_aL, ne_aK_aR, ne_aO_aS, ne_aO_aL, ne_aO_aR, ne_aS_aL, ne_aS_aR, ne_aL_aR⟩ ⟨_, E_o, F_keys, F_own, F_sums, F_left, F_right, F_used, F_unused, F_root, A_aK, A_aO, A_aS, A_aL, A_aR⟩ U ps T hS hU16 hus hlt hun hlen) rfl rfl (lenOf pd_5 rfl) (by decide) rfl (by decide) (by decide) (by decide) fun r881 h880 qh880 => ?_
  obtain ⟨u882, qs883, kf884, of885, lf886, rf887, us888, un889, e2, Zh880, Kh880, AA⟩ := qh880
  subst e2
  obtain ⟨sf890, E_o_h880, F_keys_h880, F_own_h880, F_sums_h880, F_left_h880, F_right_h880, F_used_h880, F_unused_h880, F_root_h880, A_aK_h880, A_aO_h880, A_aS_h880, A_aL_h880, A_aR_h880⟩ := Kh880
  show Go K _ _ _ _ _ _ _ _ _ 0 0 h880 37 #[.val (.ref o), .val (.long ky), .second, .val (.long wt), .second] [(.int u882), (.ref o)]
  refine Own.putfield (pc' := 40) d_prog_19_method_2_37 rfl (host := "") (Or.inl (hw _ (List.mem_of_getElem? (i := 24) rfl))) Via.refl F_root_h880 E_o_h880 (Or.inl (hw _ (List.mem_of_getElem? (i := 25) rfl))) (hw _ (List.mem_of_getElem? (i := 2) rfl)) (ty := .int) (by decide) rfl rfl g_o fun h891 Wh891 => ?_
  have f892 := F_keys_h880.other Wh891 (Or.inr (slot_ne (Or.inl (hw _ (List.mem_of_getElem? (i := 12) rfl))) (Or.inl (hw _ (List.mem_of_getElem? (i := 25) rfl))) (by decide) (t := (.array .long)) (t' := .int) (by decide) (by decide)))
  have f893 := F_own_h880.other Wh891 (Or.inr (slot_ne (Or.inl (hw _ (List.mem_of_getElem? (i := 14) rfl))) (Or.inl (hw _ (List.mem_of_getElem? (i := 25) rfl))) (by decide) (t := (.array .long)) (t' := .int) (by decide) (by decide)))
  have f894 := F_sums_h880.other Wh891 (Or.inr (slot_ne (Or.inl (hw _ (List.mem_of_getElem? (i := 16) rfl))) (Or.inl (hw _ (List.mem_of_getElem? (i := 25) rfl))) (by decide) (t := (.array .long)) (t' := .int) (by decide) (by decide)))
  have f895 := F_left_h880.other Wh891 (Or.inr (slot_ne (Or.inl (hw _ (List.mem_of_getElem? (i := 19) rfl))) (Or.inl (hw _ (List.mem_of_getElem? (i := 25) rfl))) (by decide) (t := (.array .int)) (t' := .int) (by decide) (by decide)))
  have f896 := F_right_h880.other Wh891 (Or.inr (slot_ne (Or.inl (hw _ (List.mem_of_getElem? (i := 21) rfl))) (Or.inl (hw _ (List.mem_of_getElem? (i := 25) rfl))) (by decide) (t := (.array .int)) (t' := .int) (by decide) (by decide)))
  have f897 := F_used_h880.other Wh891 (Or.inr (slot_ne (Or.inl (hw _ (List.mem_of_getElem? (i := 40) rfl))) (Or.inl (hw _ (List.mem_of_getElem? (i := 25) rfl))) (by decide) (t := .int) (t' := .int) (by decide) (by decide)))
  have f898 := F_unused_h880.other Wh891 (Or.inr (slot_ne (Or.inl (hw _ (List.mem_of_getElem? (i := 23) rfl))) (Or.inl (hw _ (List.mem_of_getElem? (i := 25) rfl))) (by decide) (t := .int) (t' := .int) (by decide) (by decide)))
  have f899 := F_root_h880.same Wh891
  have f900 := E_o_h880.wr Wh891
  have f901 := A_aK_h880.other Wh891 (Ne.symm ne_o_aK)
  have f902 := A_aO_h880.other Wh891 (Ne.symm ne_o_aO)
  have f903 := A_aS_h880.other Wh891 (Ne.symm ne_o_aS)
  have f904 := A_aL_h880.other Wh891 (Ne.symm ne_o_aL)
  have f905 := A_aR_h880.other Wh891 (Ne.symm ne_o_aR)
  have Zh891 : n0 ≤ h891.size := by rw [Wh891.size]; exact Zh880
  exact Own.vreturn d_prog_19_method_2_40 rfl (⟨_, _, _, _, _, _, _, _, rfl, Zh891, ⟨_, f900, f892, f893, f894, f895, f896, f897, f898, f899, f901, f902, f903, f904, f905⟩, AA⟩) (by decide) (by decide)
set_option maxRecDepth 65536 in
set_option maxHeartbeats 40000000 in
theorem own_afl (Z : State) (a0 : Array Value) (hw : ∀ d ∈ tables_1, d.before a0 Z = true) (n0 : Nat) (K : Ctx) (h : Heap) (o : Addr) (aq : Int64) (Q : Option Value → Heap → Prop) (aK aO aS aL aR : Addr) (kf of : Nat → Int64) (lf rf : Nat → Int32) (us un rt : Int32) (D : own_D n0 o aK aO aS aL aR) (KK : own_K Z h o aK aO aS aL aR kf of lf rf us un rt) :
    ∀ (n : Nat) (ps : List Nat) (nx : Int32) (bs : Int64), ps.length ≤ n → own_T lf rf nx ps → own_S (own_c kf of ps) → Q (some (.long (own_aft (own_c kf of ps) aq bs))) h → Go K ({ frames := 0, cells := 0, slots := 0, locals := 0 } : Room) Z n0 prog_19_method_6_code 6 (some .long) "com/example/lowtide/lowtide/compact/KeyedSums" "after" Q 0 0 h 10 #[.val (.ref o), .val (.long aq), .second, .val (.long bs), .second, .val (.int nx)] [] := by
  obtain ⟨g_o, g_aK, g_aO, g_aS, g_aL, g_aR, ne_o_aK, ne_o_aO, ne_o_aS, ne_o_aL, ne_o_aR, ne_aK_aO, ne_aK_aS, ne_aK_aL, ne_aK_aR, ne_aO_aS, ne_aO_aL, ne_aO_aR, ne_aS_aL, ne_aS_aR, ne_aL_aR⟩ := D
  obtain ⟨sf, E_o, F_keys, F_own, F_sums, F_left, F_right, F_used, F_unused, F_root, A_aK, A_aO, A_aS, A_aL, A_aR⟩ := KK
  intro n
  induction n with
  | zero =>
    intro ps nx bs hlen T hS hQ
    obtain rfl := List.length_eq_zero_iff.mp (Nat.le_zero.mp hlen)
    have hx0 : nx = -1 := by
      rcases own_Tc T with ⟨e, -⟩ | ⟨k, l, r, -, -, e, -⟩
      · exact e
      · simp at e
    refine Own.iload (pc' := 12) d_prog_19_method_6_10 rfl rfl ?_
    refine Own.iconst (pc' := 13) (v := (-1 : Int32)) d_prog_19_method_6_12 (by decide) rfl ?_
    refine Own.icmp_eq (pc' := 60) (pc2 := 16) d_prog_19_method_6_13 (by decide) (by decide) rfl (fun c13_905 => ?_) (fun c13_905 => False.elim (by exact c13_905 hx0))
    refine Own.lloadN (pc' := 61) d_prog_19_method_6_60 rfl rfl ?_
    exact Own.lreturn d_prog_19_method_6_61 rfl (hQ) (by decide) (by decide)
  | succ n ih =>
    intro ps nx bs hlen T hS hQ
    refine Own.iload (pc' := 12) d_prog_19_method_6_10 rfl rfl ?_
    refine Own.iconst (pc' := 13) (v := (-1 : Int32)) d_prog_19_method_6_12 (by decide) rfl ?_
    refine Own.icmp_eq (pc' := 60) (pc2 := 16) d_prog_19_method_6_13 (by decide) (by decide) rfl (fun c13_906 => ?_) (fun c13_906 => ?_)
    · refine Own.lloadN (pc' := 61) d_prog_19_method_6_60 rfl rfl ?_
      obtain rfl := own_Tz T c13_906
      exact Own.lreturn d_prog_19_method_6_61 rfl (hQ) (by decide) (by decide)
    · obtain ⟨k0, l, r, hk0, hx, rfl, T4, T5⟩ := own_Tn1 T c13_906
      simp only [List.length_append, List.length_cons] at hlen
      refine Own.aloadN (pc' := 17) d_prog_19_method_6_16 rfl rfl rfl ?_
      refine Own.getfield (pc' := 20) d_prog_19_method_6_17 rfl (host := "") (Or.inl (hw _ (List.mem_of_getElem? (i := 11) rfl))) Via.refl F_keys ?_
      refine Own.iload (pc' := 22) d_prog_19_method_6_20 rfl rfl ?_
      refine Own.laload (pc' := 23) (i := k0) d_prog_19_method_6_22 rfl A_aK hx hk0 ?_
      obtain ⟨v908, hv908⟩ : ∃ z, z = kf k0 := ⟨_, rfl⟩
      rw [← hv908]
      refine Own.lloadN (pc' := 24) d_prog_19_method_6_23 rfl rfl ?_
      refine Own.lcmp_le (pc1 := 25) (pc' := 48) (pc2 := 28) d_prog_19_method_6_24 rfl d_prog_19_method_6_25 (by decide) (by decide) rfl (fun c24_908 => ?_) (fun c24_908 => ?_)
      · refine Own.aloadN (pc' := 49) d_prog_19_method_6_48 rfl rfl rfl ?_
        refine Own.getfield (pc' := 52) d_prog_19_method_6_49 rfl (host := "") (Or.inl (hw _ (List.mem_of_getElem? (i := 20) rfl))) Via.refl F_right ?_
        refine Own.iload (pc' := 54) d_prog_19_method_6_52 rfl rfl ?_
        refine Own.iaload (pc' := 55) (i := k0) d_prog_19_method_6_54 rfl A_aR hx hk0 ?_
        obtain ⟨v910, hv910⟩ : ∃ z, z = rf k0 := ⟨_, rfl⟩
        rw [← hv910]
        refine Own.istore (pc' := 57) (L1 := #[.val (.ref o), .val (.long aq), .second, .val (.long bs), .second, .val (.int v910)]) d_prog_19_method_6_55 rfl rfl ?_
        refine Own.goto (pc' := 10) d_prog_19_method_6_57 (by decide) (by decide) ?_
        subst hv908 hv910
        exact ih r _ _ (by omega) T5 (own_S_mid hS).2.1 (by rw [← own_aft_r hS (Int.not_lt.mpr c24_908)]; exact hQ)
      · refine Own.aloadN (pc' := 29) d_prog_19_method_6_28 rfl rfl rfl ?_
        refine Own.getfield (pc' := 32) d_prog_19_method_6_29 rfl (host := "") (Or.inl (hw _ (List.mem_of_getElem? (i := 11) rfl))) Via.refl F_keys ?_
        refine Own.iload (pc' := 34) d_prog_19_method_6_32 rfl rfl ?_
        refine Own.laload (pc' := 35) (i := k0) d_prog_19_method_6_34 rfl A_aK hx hk0 ?_
        obtain ⟨v911, hv911⟩ : ∃ z, z = kf k0 := ⟨_, rfl⟩
        rw [← hv911]
        refine Own.lstoreN (pc' := 36) (L1 := #[.val (.ref o), .val (.long aq), .second, .val (.long v911), .second, .val (.int nx)]) d_prog_19_method_6_35 rfl rfl ?_
        refine Own.aloadN (pc' := 37) d_prog_19_method_6_36 rfl rfl rfl ?_
        refine Own.getfield (pc' := 40) d_prog_19_method_6_37 rfl (host := "") (Or.inl (hw _ (List.mem_of_getElem? (i := 18) rfl))) Via.refl F_left ?_
        refine Own.iload (pc' := 42) d_prog_19_method_6_40 rfl rfl ?_
        refine Own.iaload (pc' := 43) (i := k0) d_prog_19_method_6_42 rfl A_aL hx hk0 ?_
        obtain ⟨v912, hv912⟩ : ∃ z, z = lf k0 := ⟨_, rfl⟩
        rw [← hv912]
        refine Own.istore (pc' := 45) (L1 := #[.val (.ref o), .val (.long aq), .second, .val (.long v911), .second, .val (.int v912)]) d_prog_19_method_6_43 rfl rfl ?_
        refine Own.goto (pc' := 10) d_prog_19_method_6_45 (by decide) (by decide) ?_
        subst hv908 hv911 hv912
        exact ih l _ _ (by omega) T4 (own_S_mid hS).1 (by rw [← own_aft_l (r := r) (d := bs) (Int.not_le.mp c24_908)]; exact hQ)
set_option maxRecDepth 65536 in
set_option maxHeartbeats 40000000 in
theorem c_after (Z : State) (a0 : Array Value) (hw : ∀ d ∈ tables_1, d.before a0 Z = true) (n0 : Nat) (h : Heap) (hZ0 : n0 ≤ h.size) (o : Addr) (aq : Int64) (aK aO aS aL aR : Addr) (kf of : Nat → Int64) (lf rf : Nat → Int32) (us un rt : Int32) (D : own_D n0 o aK aO aS aL aR) (KK : own_K Z h o aK aO aS aL aR kf of lf rf us un rt) (ps : List Nat) (T : own_T lf rf rt ps) (hS : own_S (own_c kf of ps)) :
    Con Z n0 (⟨"com/example/lowtide/lowtide/compact/KeyedSums", "after", "(J)J"⟩ : MethodName) prog_19_method_6_code 6 (some .long) ({ frames := 0, cells := 0, slots := 0, locals := 0 } : Room) [(.ref o), (.long aq)] h (fun v h' => v = some (.long (own_aft (own_c kf of ps) aq (-1))) ∧ h = h') := by
  refine Own.enter (plainFor_of_name pn_0) (L0 := #[.val (.ref o), .val (.long aq), .second, .unset, .unset, .unset]) (fun m => by first | (simp [entryFrame, mkF, argsToLocals, Value.category]; done) | rfl) fun K => ?_
  show Go K _ _ _ _ _ _ "com/example/lowtide/lowtide/compact/KeyedSums" "after" _ 0 0 h 0 #[.val (.ref o), .val (.long aq), .second, .unset, .unset, .unset] []
  obtain ⟨g_o, g_aK, g_aO, g_aS, g_aL, g_aR, ne_o_aK, ne_o_aO, ne_o_aS, ne_o_aL, ne_o_aR, ne_aK_aO, ne_aK_aS, ne_aK_aL, ne_aK_aR, ne_aO_aS, ne_aO_aL, ne_aO_aR, ne_aS_aL, ne_aS_aR, ne_aL_aR⟩ := D
  obtain ⟨sf, E_o, F_keys, F_own, F_sums, F_left, F_right, F_used, F_unused, F_root, A_aK, A_aO, A_aS, A_aL, A_aR⟩ := KK
  refine Own.ldc2Long (pc' := 3) (v := (-1 : Int64)) d_prog_19_method_6_0 (hw _ (List.mem_of_getElem? (i := 46) rfl)) rfl ?_
  refine Own.lstoreN (pc' := 4) (L1 := #[.val (.ref o), .val (.long aq), .second, .val (.long (-1 : Int64)), .second, .unset]) d_prog_19_method_6_3 rfl rfl ?_
  refine Own.aloadN (pc' := 5) d_prog_19_method_6_4 rfl rfl rfl ?_
  refine Own.getfield (pc' := 8) d_prog_19_method_6_5 rfl (host := "") (Or.inl (hw _ (List.mem_of_getElem? (i := 24) rfl))) Via.refl F_root ?_
  refine Own.istore (pc' := 10) (L1 := #[.val (.ref o), .val (.long aq), .second, .val (.long (-1 : Int64)), .second, .val (.int rt)]) d_prog_19_method_6_8 rfl rfl ?_
  exact own_afl Z a0 hw n0 K h o aq _ aK aO aS aL aR kf of lf rf us un rt ⟨g_o, g_aK, g_aO, g_aS, g_aL, g_aR, ne_o_aK, ne_o_aO, ne_o_aS, ne_o_aL, ne_o_aR, ne_aK_aO, ne_aK_aS, ne_aK_aL, ne_aK_aR, ne_aO_aS, ne_aO_aL, ne_aO_aR, ne_aS_aL, ne_aS_aR, ne_aL_aR⟩ ⟨_, E_o, F_keys, F_own, F_sums, F_left, F_right, F_used, F_unused, F_root, A_aK, A_aO, A_aS, A_aL, A_aR⟩ _ ps rt (-1) (Nat.le_refl _) T hS ⟨rfl, rfl⟩
set_option maxRecDepth 65536 in
set_option maxHeartbeats 40000000 in
theorem c_net (Z : State) (a0 : Array Value) (hw : ∀ d ∈ tables_1, d.before a0 Z = true) (n0 : Nat) (h : Heap) (hZ0 : n0 ≤ h.size) (ky : Int64) (ka : Int64) (kb : Int64) (kd1 : Int64) (kd2 : Int64) (t1 : Int32) (t2 : Int32) (t3 : Int32) (t4 : Int32) (t5 : Int32)  :
    Con Z n0 (⟨"com/example/lowtide/lowtide/compact/KeyedSumsAfterPinLaw", "net", "(JJJJJZZZZZ)I"⟩ : MethodName) method_3_code 16 (some .int) ({ frames := 0, cells := 0, slots := 0, locals := 0 } : Room) [(.long ky), (.long ka), (.long kb), (.long kd1), (.long kd2), (.int t1), (.int t2), (.int t3), (.int t4), (.int t5)] h (fun v h' => h = h' ∧ v = some (.int (own_net ky ka kb kd1 kd2 t1 t2 t3 t4 t5))) := by
  refine Own.enter (plainFor_of_name pn_1) (L0 := #[.val (.long ky), .second, .val (.long ka), .second, .val (.long kb), .second, .val (.long kd1), .second, .val (.long kd2), .second, .val (.int t1), .val (.int t2), .val (.int t3), .val (.int t4), .val (.int t5), .unset]) (fun m => by first | (simp [entryFrame, mkF, argsToLocals, Value.category]; done) | rfl) fun K => ?_
  show Go K _ _ _ _ _ _ "com/example/lowtide/lowtide/compact/KeyedSumsAfterPinLaw" "net" _ 0 0 h 0 #[.val (.long ky), .second, .val (.long ka), .second, .val (.long kb), .second, .val (.long kd1), .second, .val (.long kd2), .second, .val (.int t1), .val (.int t2), .val (.int t3), .val (.int t4), .val (.int t5), .unset] []
  refine Own.iconst (pc' := 1) (v := (0 : Int32)) d_method_3_0 (by decide) rfl ?_
  refine Own.istore (pc' := 3) (L1 := #[.val (.long ky), .second, .val (.long ka), .second, .val (.long kb), .second, .val (.long kd1), .second, .val (.long kd2), .second, .val (.int t1), .val (.int t2), .val (.int t3), .val (.int t4), .val (.int t5), .val (.int (0 : Int32))]) d_method_3_1 rfl rfl ?_
  refine Own.iload (pc' := 5) d_method_3_3 rfl rfl ?_
  obtain ⟨w919, hw919⟩ : ∃ w : Int32, w = (if t1 = 0 then (0 : Int32) else (if ka ≠ ky then (0 : Int32) else ((0 : Int32) + (1 : Int32)))) := ⟨_, rfl⟩
  refine Own.join (pc2 := 20) (L2 := #[.val (.long ky), .second, .val (.long ka), .second, .val (.long kb), .second, .val (.long kd1), .second, .val (.long kd2), .second, .val (.int t1), .val (.int t2), .val (.int t3), .val (.int t4), .val (.int t5), .val (.int w919)]) (S2 := []) (fun J920 => ?_) ?_
  · refine Own.if_eq (pc' := 20) (pc2 := 8) d_method_3_5 (by decide) (by decide) rfl (fun c5_912 => ?_) (fun c5_912 => ?_)
    · try rw [if_pos c5_912] at hw919
      subst hw919
      exact J920
    · refine Own.lloadN (pc' := 9) d_method_3_8 rfl rfl ?_
      refine Own.lloadN (pc' := 10) d_method_3_9 rfl rfl ?_
      obtain ⟨w923, hw923⟩ : ∃ w : Int32, w = (if ka ≠ ky then (0 : Int32) else ((0 : Int32) + (1 : Int32))) := ⟨_, rfl⟩
      refine Own.join (pc2 := 20) (L2 := #[.val (.long ky), .second, .val (.long ka), .second, .val (.long kb), .second, .val (.long kd1), .second, .val (.long kd2), .second, .val (.int t1), .val (.int t2), .val (.int t3), .val (.int t4), .val (.int t5), .val (.int w923)]) (S2 := []) (fun J924 => ?_) ?_
      · refine Own.lcmp_ne (pc1 := 11) (pc' := 20) (pc2 := 14) d_method_3_10 rfl d_method_3_11 (by decide) (by decide) rfl (fun c10_920 => ?_) (fun c10_920 => ?_)
        · try rw [if_pos c10_920] at hw923
          subst hw923
          exact J924
        · refine Own.iload (pc' := 16) d_method_3_14 rfl rfl ?_
          refine Own.iconst (pc' := 17) (v := (1 : Int32)) d_method_3_16 (by decide) rfl ?_
          refine Own.iadd (pc' := 18) d_method_3_17 rfl fun v925 hv925 => ?_
          refine Own.istore (pc' := 20) (L1 := #[.val (.long ky), .second, .val (.long ka), .second, .val (.long kb), .second, .val (.long kd1), .second, .val (.long kd2), .second, .val (.int t1), .val (.int t2), .val (.int t3), .val (.int t4), .val (.int t5), .val (.int v925)]) d_method_3_18 rfl rfl ?_
          subst hv925
          try rw [if_neg c10_920] at hw923
          subst hw923
          exact J924
      subst hw923
      try rw [if_neg c5_912] at hw919
      subst hw919
      exact J920
  refine Own.iload (pc' := 22) d_method_3_20 rfl rfl ?_
  obtain ⟨w932, hw932⟩ : ∃ w : Int32, w = (if t2 = 0 then w919 else (if kb ≠ ky then w919 else (w919 + (1 : Int32)))) := ⟨_, rfl⟩
  refine Own.join (pc2 := 38) (L2 := #[.val (.long ky), .second, .val (.long ka), .second, .val (.long kb), .second, .val (.long kd1), .second, .val (.long kd2), .second, .val (.int t1), .val (.int t2), .val (.int t3), .val (.int t4), .val (.int t5), .val (.int w932)]) (S2 := []) (fun J933 => ?_) ?_
  · refine Own.if_eq (pc' := 38) (pc2 := 25) d_method_3_22 (by decide) (by decide) rfl (fun c22_925 => ?_) (fun c22_925 => ?_)
    · try rw [if_pos c22_925] at hw932
      subst hw932
      exact J933
    · refine Own.lload (pc' := 27) d_method_3_25 rfl rfl ?_
      refine Own.lloadN (pc' := 28) d_method_3_27 rfl rfl ?_
      obtain ⟨w936, hw936⟩ : ∃ w : Int32, w = (if kb ≠ ky then w919 else (w919 + (1 : Int32))) := ⟨_, rfl⟩
      refine Own.join (pc2 := 38) (L2 := #[.val (.long ky), .second, .val (.long ka), .second, .val (.long kb), .second, .val (.long kd1), .second, .val (.long kd2), .second, .val (.int t1), .val (.int t2), .val (.int t3), .val (.int t4), .val (.int t5), .val (.int w936)]) (S2 := []) (fun J937 => ?_) ?_
      · refine Own.lcmp_ne (pc1 := 29) (pc' := 38) (pc2 := 32) d_method_3_28 rfl d_method_3_29 (by decide) (by decide) rfl (fun c28_933 => ?_) (fun c28_933 => ?_)
        · try rw [if_pos c28_933] at hw936
          subst hw936
          exact J937
        · refine Own.iload (pc' := 34) d_method_3_32 rfl rfl ?_
          refine Own.iconst (pc' := 35) (v := (1 : Int32)) d_method_3_34 (by decide) rfl ?_
          refine Own.iadd (pc' := 36) d_method_3_35 rfl fun v938 hv938 => ?_
          refine Own.istore (pc' := 38) (L1 := #[.val (.long ky), .second, .val (.long ka), .second, .val (.long kb), .second, .val (.long kd1), .second, .val (.long kd2), .second, .val (.int t1), .val (.int t2), .val (.int t3), .val (.int t4), .val (.int t5), .val (.int v938)]) d_method_3_36 rfl rfl ?_
          subst hv938
          try rw [if_neg c28_933] at hw936
          subst hw936
          exact J937
      subst hw936
      try rw [if_neg c22_925] at hw932
      subst hw932
      exact J933
  refine Own.iload (pc' := 40) d_method_3_38 rfl rfl ?_
  obtain ⟨w945, hw945⟩ : ∃ w : Int32, w = (if t3 = 0 then w932 else (if kd1 ≠ ky then w932 else (w932 + (1 : Int32)))) := ⟨_, rfl⟩
  refine Own.join (pc2 := 56) (L2 := #[.val (.long ky), .second, .val (.long ka), .second, .val (.long kb), .second, .val (.long kd1), .second, .val (.long kd2), .second, .val (.int t1), .val (.int t2), .val (.int t3), .val (.int t4), .val (.int t5), .val (.int w945)]) (S2 := []) (fun J946 => ?_) ?_
  · refine Own.if_eq (pc' := 56) (pc2 := 43) d_method_3_40 (by decide) (by decide) rfl (fun c40_938 => ?_) (fun c40_938 => ?_)
    · try rw [if_pos c40_938] at hw945
      subst hw945
      exact J946
    · refine Own.lload (pc' := 45) d_method_3_43 rfl rfl ?_
      refine Own.lloadN (pc' := 46) d_method_3_45 rfl rfl ?_
      obtain ⟨w949, hw949⟩ : ∃ w : Int32, w = (if kd1 ≠ ky then w932 else (w932 + (1 : Int32))) := ⟨_, rfl⟩
      refine Own.join (pc2 := 56) (L2 := #[.val (.long ky), .second, .val (.long ka), .second, .val (.long kb), .second, .val (.long kd1), .second, .val (.long kd2), .second, .val (.int t1), .val (.int t2), .val (.int t3), .val (.int t4), .val (.int t5), .val (.int w949)]) (S2 := []) (fun J950 => ?_) ?_
      · refine Own.lcmp_ne (pc1 := 47) (pc' := 56) (pc2 := 50) d_method_3_46 rfl d_method_3_47 (by decide) (by decide) rfl (fun c46_946 => ?_) (fun c46_946 => ?_)
        · try rw [if_pos c46_946] at hw949
          subst hw949
          exact J950
        · refine Own.iload (pc' := 52) d_method_3_50 rfl rfl ?_
          refine Own.iconst (pc' := 53) (v := (1 : Int32)) d_method_3_52 (by decide) rfl ?_
          refine Own.iadd (pc' := 54) d_method_3_53 rfl fun v951 hv951 => ?_
          refine Own.istore (pc' := 56) (L1 := #[.val (.long ky), .second, .val (.long ka), .second, .val (.long kb), .second, .val (.long kd1), .second, .val (.long kd2), .second, .val (.int t1), .val (.int t2), .val (.int t3), .val (.int t4), .val (.int t5), .val (.int v951)]) d_method_3_54 rfl rfl ?_
          subst hv951
          try rw [if_neg c46_946] at hw949
          subst hw949
          exact J950
      subst hw949
      try rw [if_neg c40_938] at hw945
      subst hw945
      exact J946
  refine Own.iload (pc' := 58) d_method_3_56 rfl rfl ?_
  obtain ⟨w958, hw958⟩ : ∃ w : Int32, w = (if t4 = 0 then w945 else (if kd2 ≠ ky then w945 else (w945 + (1 : Int32)))) := ⟨_, rfl⟩
  refine Own.join (pc2 := 74) (L2 := #[.val (.long ky), .second, .val (.long ka), .second, .val (.long kb), .second, .val (.long kd1), .second, .val (.long kd2), .second, .val (.int t1), .val (.int t2), .val (.int t3), .val (.int t4), .val (.int t5), .val (.int w958)]) (S2 := []) (fun J959 => ?_) ?_
  · refine Own.if_eq (pc' := 74) (pc2 := 61) d_method_3_58 (by decide) (by decide) rfl (fun c58_951 => ?_) (fun c58_951 => ?_)
    · try rw [if_pos c58_951] at hw958
      subst hw958
      exact J959
    · refine Own.lload (pc' := 63) d_method_3_61 rfl rfl ?_
      refine Own.lloadN (pc' := 64) d_method_3_63 rfl rfl ?_
      obtain ⟨w962, hw962⟩ : ∃ w : Int32, w = (if kd2 ≠ ky then w945 else (w945 + (1 : Int32))) := ⟨_, rfl⟩
      refine Own.join (pc2 := 74) (L2 := #[.val (.long ky), .second, .val (.long ka), .second, .val (.long kb), .second, .val (.long kd1), .second, .val (.long kd2), .second, .val (.int t1), .val (.int t2), .val (.int t3), .val (.int t4), .val (.int t5), .val (.int w962)]) (S2 := []) (fun J963 => ?_) ?_
      · refine Own.lcmp_ne (pc1 := 65) (pc' := 74) (pc2 := 68) d_method_3_64 rfl d_method_3_65 (by decide) (by decide) rfl (fun c64_959 => ?_) (fun c64_959 => ?_)
        · try rw [if_pos c64_959] at hw962
          subst hw962
          exact J963
        · refine Own.iload (pc' := 70) d_method_3_68 rfl rfl ?_
          refine Own.iconst (pc' := 71) (v := (1 : Int32)) d_method_3_70 (by decide) rfl ?_
          refine Own.iadd (pc' := 72) d_method_3_71 rfl fun v964 hv964 => ?_
          refine Own.istore (pc' := 74) (L1 := #[.val (.long ky), .second, .val (.long ka), .second, .val (.long kb), .second, .val (.long kd1), .second, .val (.long kd2), .second, .val (.int t1), .val (.int t2), .val (.int t3), .val (.int t4), .val (.int t5), .val (.int v964)]) d_method_3_72 rfl rfl ?_
          subst hv964
          try rw [if_neg c64_959] at hw962
          subst hw962
          exact J963
      subst hw962
      try rw [if_neg c58_951] at hw958
      subst hw958
      exact J959
  refine Own.iload (pc' := 76) d_method_3_74 rfl rfl ?_
  obtain ⟨w971, hw971⟩ : ∃ w : Int32, w = (if t5 = 0 then w958 else (if ka ≠ ky then w958 else (w958 - (1 : Int32)))) := ⟨_, rfl⟩
  refine Own.join (pc2 := 91) (L2 := #[.val (.long ky), .second, .val (.long ka), .second, .val (.long kb), .second, .val (.long kd1), .second, .val (.long kd2), .second, .val (.int t1), .val (.int t2), .val (.int t3), .val (.int t4), .val (.int t5), .val (.int w971)]) (S2 := []) (fun J972 => ?_) ?_
  · refine Own.if_eq (pc' := 91) (pc2 := 79) d_method_3_76 (by decide) (by decide) rfl (fun c76_964 => ?_) (fun c76_964 => ?_)
    · try rw [if_pos c76_964] at hw971
      subst hw971
      exact J972
    · refine Own.lloadN (pc' := 80) d_method_3_79 rfl rfl ?_
      refine Own.lloadN (pc' := 81) d_method_3_80 rfl rfl ?_
      obtain ⟨w975, hw975⟩ : ∃ w : Int32, w = (if ka ≠ ky then w958 else (w958 - (1 : Int32))) := ⟨_, rfl⟩
      refine Own.join (pc2 := 91) (L2 := #[.val (.long ky), .second, .val (.long ka), .second, .val (.long kb), .second, .val (.long kd1), .second, .val (.long kd2), .second, .val (.int t1), .val (.int t2), .val (.int t3), .val (.int t4), .val (.int t5), .val (.int w975)]) (S2 := []) (fun J976 => ?_) ?_
      · refine Own.lcmp_ne (pc1 := 82) (pc' := 91) (pc2 := 85) d_method_3_81 rfl d_method_3_82 (by decide) (by decide) rfl (fun c81_972 => ?_) (fun c81_972 => ?_)
        · try rw [if_pos c81_972] at hw975
          subst hw975
          exact J976
        · refine Own.iload (pc' := 87) d_method_3_85 rfl rfl ?_
          refine Own.iconst (pc' := 88) (v := (1 : Int32)) d_method_3_87 (by decide) rfl ?_
          refine Own.isub (pc' := 89) d_method_3_88 rfl fun v977 hv977 => ?_
          refine Own.istore (pc' := 91) (L1 := #[.val (.long ky), .second, .val (.long ka), .second, .val (.long kb), .second, .val (.long kd1), .second, .val (.long kd2), .second, .val (.int t1), .val (.int t2), .val (.int t3), .val (.int t4), .val (.int t5), .val (.int v977)]) d_method_3_89 rfl rfl ?_
          subst hv977
          try rw [if_neg c81_972] at hw975
          subst hw975
          exact J976
      subst hw975
      try rw [if_neg c76_964] at hw971
      subst hw971
      exact J972
  refine Own.iload (pc' := 93) d_method_3_91 rfl rfl ?_
  exact Own.ireturnI d_method_3_93 rfl (⟨rfl, by rw [hw971, hw958, hw945, hw932, hw919]; rfl⟩) (by decide) (by decide)
set_option maxRecDepth 65536 in
set_option maxHeartbeats 40000000 in
theorem c_pick (Z : State) (a0 : Array Value) (hw : ∀ d ∈ tables_1, d.before a0 Z = true) (n0 : Nat) (h : Heap) (hZ0 : n0 ≤ h.size) (bs : Int64) (ky : Int64) (t1 : Int32) (aq : Int64)  :
    Con Z n0 (⟨"com/example/lowtide/lowtide/compact/KeyedSumsAfterPinLaw", "pick", "(JJZJ)J"⟩ : MethodName) method_4_code 7 (some .long) ({ frames := 0, cells := 0, slots := 0, locals := 0 } : Room) [(.long bs), (.long ky), (.int t1), (.long aq)] h (fun v h' => h = h' ∧ v = some (.long (own_pick bs ky t1 aq))) := by
  refine Own.enter (plainFor_of_name pn_1) (L0 := #[.val (.long bs), .second, .val (.long ky), .second, .val (.int t1), .val (.long aq), .second]) (fun m => by first | (simp [entryFrame, mkF, argsToLocals, Value.category]; done) | rfl) fun K => ?_
  show Go K _ _ _ _ _ _ "com/example/lowtide/lowtide/compact/KeyedSumsAfterPinLaw" "pick" _ 0 0 h 0 #[.val (.long bs), .second, .val (.long ky), .second, .val (.int t1), .val (.long aq), .second] []
  refine Own.iload (pc' := 2) d_method_4_0 rfl rfl ?_
  refine Own.if_eq (pc' := 26) (pc2 := 5) d_method_4_2 (by decide) (by decide) rfl (fun c2_977 => ?_) (fun c2_977 => ?_)
  · refine Own.lloadN (pc' := 27) d_method_4_26 rfl rfl ?_
    exact Own.lreturn d_method_4_27 rfl (⟨rfl, by show _ = some (Value.long (own_pick bs ky t1 aq)); unfold own_pick; rw [if_pos c2_977]⟩) (by decide) (by decide)
  · refine Own.lloadN (pc' := 6) d_method_4_5 rfl rfl ?_
    refine Own.lload (pc' := 8) d_method_4_6 rfl rfl ?_
    refine Own.lcmp_le (pc1 := 9) (pc' := 26) (pc2 := 12) d_method_4_8 rfl d_method_4_9 (by decide) (by decide) rfl (fun c8_978 => ?_) (fun c8_978 => ?_)
    · refine Own.lloadN (pc' := 27) d_method_4_26 rfl rfl ?_
      exact Own.lreturn d_method_4_27 rfl (⟨rfl, by show _ = some (Value.long (own_pick bs ky t1 aq)); unfold own_pick; rw [if_neg c2_977]; rw [if_pos c8_978]⟩) (by decide) (by decide)
    · refine Own.lloadN (pc' := 13) d_method_4_12 rfl rfl ?_
      refine Own.lconst0 (pc' := 14) d_method_4_13 rfl ?_
      refine Own.lcmp_lt (pc1 := 15) (pc' := 24) (pc2 := 18) d_method_4_14 rfl d_method_4_15 (by decide) (by decide) rfl (fun c14_979 => ?_) (fun c14_979 => ?_)
      · refine Own.lloadN (pc' := 25) d_method_4_24 rfl rfl ?_
        exact Own.lreturn d_method_4_25 rfl (⟨rfl, by show _ = some (Value.long (own_pick bs ky t1 aq)); unfold own_pick; rw [if_neg c2_977]; rw [if_neg c8_978]; rw [if_pos (show bs.toInt < 0 from c14_979)]⟩) (by decide) (by decide)
      · refine Own.lloadN (pc' := 19) d_method_4_18 rfl rfl ?_
        refine Own.lloadN (pc' := 20) d_method_4_19 rfl rfl ?_
        refine Own.lcmp_ge (pc1 := 21) (pc' := 26) (pc2 := 24) d_method_4_20 rfl d_method_4_21 (by decide) (by decide) rfl (fun c20_980 => ?_) (fun c20_980 => ?_)
        · refine Own.lloadN (pc' := 27) d_method_4_26 rfl rfl ?_
          exact Own.lreturn d_method_4_27 rfl (⟨rfl, by show _ = some (Value.long (own_pick bs ky t1 aq)); unfold own_pick; rw [if_neg c2_977]; rw [if_neg c8_978]; rw [if_neg (show ¬ bs.toInt < 0 from c14_979)]; rw [if_pos c20_980]⟩) (by decide) (by decide)
        · refine Own.lloadN (pc' := 25) d_method_4_24 rfl rfl ?_
          exact Own.lreturn d_method_4_25 rfl (⟨rfl, by show _ = some (Value.long (own_pick bs ky t1 aq)); unfold own_pick; rw [if_neg c2_977]; rw [if_neg c8_978]; rw [if_neg (show ¬ bs.toInt < 0 from c14_979)]; rw [if_neg c20_980]⟩) (by decide) (by decide)
set_option maxRecDepth 65536 in
set_option maxHeartbeats 40000000 in
theorem c_init (Z : State) (a0 : Array Value) (hw : ∀ d ∈ tables_1, d.before a0 Z = true) (n0 : Nat) (h : Heap) (hZ0 : n0 ≤ h.size) (o : Addr) (E_o : Exa Z h o "com/example/lowtide/lowtide/compact/KeyedSums") (F_keys : Fld Z h o "com/example/lowtide/lowtide/compact/KeyedSums" "keys" "[J" .null) (F_own : Fld Z h o "com/example/lowtide/lowtide/compact/KeyedSums" "own" "[J" .null) (F_sums : Fld Z h o "com/example/lowtide/lowtide/compact/KeyedSums" "sums" "[J" .null) (F_left : Fld Z h o "com/example/lowtide/lowtide/compact/KeyedSums" "left" "[I" .null) (F_right : Fld Z h o "com/example/lowtide/lowtide/compact/KeyedSums" "right" "[I" .null) (F_used : Fld Z h o "com/example/lowtide/lowtide/compact/KeyedSums" "used" "I" (.int (0 : Int32))) (F_unused : Fld Z h o "com/example/lowtide/lowtide/compact/KeyedSums" "unused" "I" (.int (0 : Int32))) (F_root : Fld Z h o "com/example/lowtide/lowtide/compact/KeyedSums" "root" "I" (.int (0 : Int32))) (g_o : n0 ≤ o) :
    Con Z n0 (⟨"com/example/lowtide/lowtide/compact/KeyedSums", "<init>", "()V"⟩ : MethodName) prog_19_method_1_code 1 none ({ frames := 1, cells := 5, slots := 80, locals := 12 } : Room) [(.ref o)] h (fun v h' => ∃ aK aO aS aL aR, v = none ∧ n0 ≤ h'.size ∧ own_D n0 o aK aO aS aL aR ∧ own_K Z h' o aK aO aS aL aR (fun _ => 0) (fun _ => 0) (fun _ => 0) (fun _ => 0) 0 (-1) (-1)) := by
  refine Own.enter (plainFor_of_name pn_0) (L0 := #[.val (.ref o)]) (fun m => by first | (simp [entryFrame, mkF, argsToLocals, Value.category]; done) | rfl) fun K => ?_
  show Go K _ _ _ _ _ _ "com/example/lowtide/lowtide/compact/KeyedSums" "<init>" _ 0 0 h 0 #[.val (.ref o)] []
  refine Own.aloadN (pc' := 1) d_prog_19_method_1_0 rfl rfl rfl ?_
  refine Own.objinit (pc' := 4) d_prog_19_method_1_1 rfl (hw _ (List.mem_of_getElem? (i := 7) rfl)) (hw _ (List.mem_of_getElem? (i := 8) rfl)) (hw _ (List.mem_of_getElem? (i := 9) rfl)) rfl (by decide) (W := 0) rfl (by decide) ?_
  refine Own.aloadN (pc' := 5) d_prog_19_method_1_4 rfl rfl rfl ?_
  refine Own.bipush (pc' := 7) (v := (16 : Int32)) d_prog_19_method_1_5 (by decide) rfl ?_
  refine Own.newJ (pc' := 9) (n := 16) (cap := 16) d_prog_19_method_1_7 rfl (hw _ (List.mem_of_getElem? (i := 10) rfl)) (by decide) (by decide) (by decide) (by decide) (by decide) fun a982 h983 ga982 Eh983 Aa982 => ?_
  have ne_o_a982 : o ≠ a982 := Nat.ne_of_lt (ga982 ▸ (E_o).lt)
  have Ga982 : n0 ≤ a982 := by rw [ga982]; exact hZ0
  have Zh983 : n0 ≤ h983.size := Nat.le_trans hZ0 Eh983.1
  have f984 := F_keys.ext Eh983
  have f985 := F_own.ext Eh983
  have f986 := F_sums.ext Eh983
  have f987 := F_left.ext Eh983
  have f988 := F_right.ext Eh983
  have f989 := F_used.ext Eh983
  have f990 := F_unused.ext Eh983
  have f991 := F_root.ext Eh983
  have f992 := E_o.ext Eh983
  show Go K _ _ _ _ _ _ _ _ _ 1 16 h983 9 #[.val (.ref o)] [(.ref a982), (.ref o)]
  refine Own.putfield (pc' := 12) d_prog_19_method_1_9 rfl (host := "") (Or.inl (hw _ (List.mem_of_getElem? (i := 11) rfl))) Via.refl f984 f992 (Or.inl (hw _ (List.mem_of_getElem? (i := 12) rfl))) (hw _ (List.mem_of_getElem? (i := 2) rfl)) (ty := (.array .long)) (by decide) rfl rfl g_o fun h993 Wh993 => ?_
  have f994 := f984.same Wh993
  have f995 := f985.other Wh993 (Or.inr (slot_ne (Or.inl (hw _ (List.mem_of_getElem? (i := 14) rfl))) (Or.inl (hw _ (List.mem_of_getElem? (i := 12) rfl))) (by decide) (t := (.array .long)) (t' := (.array .long)) (by decide) (by decide)))
  have f996 := f986.other Wh993 (Or.inr (slot_ne (Or.inl (hw _ (List.mem_of_getElem? (i := 16) rfl))) (Or.inl (hw _ (List.mem_of_getElem? (i := 12) rfl))) (by decide) (t := (.array .long)) (t' := (.array .long)) (by decide) (by decide)))
  have f997 := f987.other Wh993 (Or.inr (slot_ne (Or.inl (hw _ (List.mem_of_getElem? (i := 19) rfl))) (Or.inl (hw _ (List.mem_of_getElem? (i := 12) rfl))) (by decide) (t := (.array .int)) (t' := (.array .long)) (by decide) (by decide)))
  have f998 := f988.other Wh993 (Or.inr (slot_ne (Or.inl (hw _ (List.mem_of_getElem? (i := 21) rfl))) (Or.inl (hw _ (List.mem_of_getElem? (i := 12) rfl))) (by decide) (t := (.array .int)) (t' := (.array .long)) (by decide) (by decide)))
  have f999 := f989.other Wh993 (Or.inr (slot_ne (Or.inl (hw _ (List.mem_of_getElem? (i := 40) rfl))) (Or.inl (hw _ (List.mem_of_getElem? (i := 12) rfl))) (by decide) (t := .int) (t' := (.array .long)) (by decide) (by decide)))
  have f1000 := f990.other Wh993 (Or.inr (slot_ne (Or.inl (hw _ (List.mem_of_getElem? (i := 23) rfl))) (Or.inl (hw _ (List.mem_of_getElem? (i := 12) rfl))) (by decide) (t := .int) (t' := (.array .long)) (by decide) (by decide)))
  have f1001 := f991.other Wh993 (Or.inr (slot_ne (Or.inl (hw _ (List.mem_of_getElem? (i := 25) rfl))) (Or.inl (hw _ (List.mem_of_getElem? (i := 12) rfl))) (by decide) (t := .int) (t' := (.array .long)) (by decide) (by decide)))
  have f1002 := f992.wr Wh993
  have f1003 := Aa982.other Wh993 (Ne.symm ne_o_a982)
  have Zh993 : n0 ≤ h993.size := by rw [Wh993.size]; exact Zh983
  refine Own.aloadN (pc' := 13) d_prog_19_method_1_12 rfl rfl rfl ?_
  refine Own.bipush (pc' := 15) (v := (16 : Int32)) d_prog_19_method_1_13 (by decide) rfl ?_
  refine Own.newJ (pc' := 17) (n := 16) (cap := 16) d_prog_19_method_1_15 rfl (hw _ (List.mem_of_getElem? (i := 10) rfl)) (by decide) (by decide) (by decide) (by decide) (by decide) fun a1004 h1005 ga1004 Eh1005 Aa1004 => ?_
  have ne_o_a1004 : o ≠ a1004 := Nat.ne_of_lt (ga1004 ▸ (f1002).lt)
  have ne_a982_a1004 : a982 ≠ a1004 := Nat.ne_of_lt (ga1004 ▸ (f1003).lt)
  have Ga1004 : n0 ≤ a1004 := by rw [ga1004]; exact Zh993
  have Zh1005 : n0 ≤ h1005.size := Nat.le_trans Zh993 Eh1005.1
  have f1006 := f994.ext Eh1005
  have f1007 := f995.ext Eh1005
  have f1008 := f996.ext Eh1005
  have f1009 := f997.ext Eh1005
  have f1010 := f998.ext Eh1005
  have f1011 := f999.ext Eh1005
  have f1012 := f1000.ext Eh1005
  have f1013 := f1001.ext Eh1005
  have f1014 := f1002.ext Eh1005
  have f1015 := f1003.ext Eh1005
  show Go K _ _ _ _ _ _ _ _ _ 2 32 h1005 17 #[.val (.ref o)] [(.ref a1004), (.ref o)]
  refine Own.putfield (pc' := 20) d_prog_19_method_1_17 rfl (host := "") (Or.inl (hw _ (List.mem_of_getElem? (i := 13) rfl))) Via.refl f1007 f1014 (Or.inl (hw _ (List.mem_of_getElem? (i := 14) rfl))) (hw _ (List.mem_of_getElem? (i := 2) rfl)) (ty := (.array .long)) (by decide) rfl rfl g_o fun h1016 Wh1016 => ?_
  have f1017 := f1006.other Wh1016 (Or.inr (slot_ne (Or.inl (hw _ (List.mem_of_getElem? (i := 12) rfl))) (Or.inl (hw _ (List.mem_of_getElem? (i := 14) rfl))) (by decide) (t := (.array .long)) (t' := (.array .long)) (by decide) (by decide)))
  have f1018 := f1007.same Wh1016
  have f1019 := f1008.other Wh1016 (Or.inr (slot_ne (Or.inl (hw _ (List.mem_of_getElem? (i := 16) rfl))) (Or.inl (hw _ (List.mem_of_getElem? (i := 14) rfl))) (by decide) (t := (.array .long)) (t' := (.array .long)) (by decide) (by decide)))
  have f1020 := f1009.other Wh1016 (Or.inr (slot_ne (Or.inl (hw _ (List.mem_of_getElem? (i := 19) rfl))) (Or.inl (hw _ (List.mem_of_getElem? (i := 14) rfl))) (by decide) (t := (.array .int)) (t' := (.array .long)) (by decide) (by decide)))
  have f1021 := f1010.other Wh1016 (Or.inr (slot_ne (Or.inl (hw _ (List.mem_of_getElem? (i := 21) rfl))) (Or.inl (hw _ (List.mem_of_getElem? (i := 14) rfl))) (by decide) (t := (.array .int)) (t' := (.array .long)) (by decide) (by decide)))
  have f1022 := f1011.other Wh1016 (Or.inr (slot_ne (Or.inl (hw _ (List.mem_of_getElem? (i := 40) rfl))) (Or.inl (hw _ (List.mem_of_getElem? (i := 14) rfl))) (by decide) (t := .int) (t' := (.array .long)) (by decide) (by decide)))
  have f1023 := f1012.other Wh1016 (Or.inr (slot_ne (Or.inl (hw _ (List.mem_of_getElem? (i := 23) rfl))) (Or.inl (hw _ (List.mem_of_getElem? (i := 14) rfl))) (by decide) (t := .int) (t' := (.array .long)) (by decide) (by decide)))
  have f1024 := f1013.other Wh1016 (Or.inr (slot_ne (Or.inl (hw _ (List.mem_of_getElem? (i := 25) rfl))) (Or.inl (hw _ (List.mem_of_getElem? (i := 14) rfl))) (by decide) (t := .int) (t' := (.array .long)) (by decide) (by decide)))
  have f1025 := f1014.wr Wh1016
  have f1026 := f1015.other Wh1016 (Ne.symm ne_o_a982)
  have f1027 := Aa1004.other Wh1016 (Ne.symm ne_o_a1004)
  have Zh1016 : n0 ≤ h1016.size := by rw [Wh1016.size]; exact Zh1005
  refine Own.aloadN (pc' := 21) d_prog_19_method_1_20 rfl rfl rfl ?_
  refine Own.bipush (pc' := 23) (v := (16 : Int32)) d_prog_19_method_1_21 (by decide) rfl ?_
  refine Own.newJ (pc' := 25) (n := 16) (cap := 16) d_prog_19_method_1_23 rfl (hw _ (List.mem_of_getElem? (i := 10) rfl)) (by decide) (by decide) (by decide) (by decide) (by decide) fun a1028 h1029 ga1028 Eh1029 Aa1028 => ?_
  have ne_o_a1028 : o ≠ a1028 := Nat.ne_of_lt (ga1028 ▸ (f1025).lt)
  have ne_a982_a1028 : a982 ≠ a1028 := Nat.ne_of_lt (ga1028 ▸ (f1026).lt)
  have ne_a1004_a1028 : a1004 ≠ a1028 := Nat.ne_of_lt (ga1028 ▸ (f1027).lt)
  have Ga1028 : n0 ≤ a1028 := by rw [ga1028]; exact Zh1016
  have Zh1029 : n0 ≤ h1029.size := Nat.le_trans Zh1016 Eh1029.1
  have f1030 := f1017.ext Eh1029
  have f1031 := f1018.ext Eh1029
  have f1032 := f1019.ext Eh1029
  have f1033 := f1020.ext Eh1029
  have f1034 := f1021.ext Eh1029
  have f1035 := f1022.ext Eh1029
  have f1036 := f1023.ext Eh1029
  have f1037 := f1024.ext Eh1029
  have f1038 := f1025.ext Eh1029
  have f1039 := f1026.ext Eh1029
  have f1040 := f1027.ext Eh1029
  show Go K _ _ _ _ _ _ _ _ _ 3 48 h1029 25 #[.val (.ref o)] [(.ref a1028), (.ref o)]
  refine Own.putfield (pc' := 28) d_prog_19_method_1_25 rfl (host := "") (Or.inl (hw _ (List.mem_of_getElem? (i := 15) rfl))) Via.refl f1032 f1038 (Or.inl (hw _ (List.mem_of_getElem? (i := 16) rfl))) (hw _ (List.mem_of_getElem? (i := 2) rfl)) (ty := (.array .long)) (by decide) rfl rfl g_o fun h1041 Wh1041 => ?_
  have f1042 := f1030.other Wh1041 (Or.inr (slot_ne (Or.inl (hw _ (List.mem_of_getElem? (i := 12) rfl))) (Or.inl (hw _ (List.mem_of_getElem? (i := 16) rfl))) (by decide) (t := (.array .long)) (t' := (.array .long)) (by decide) (by decide)))
  have f1043 := f1031.other Wh1041 (Or.inr (slot_ne (Or.inl (hw _ (List.mem_of_getElem? (i := 14) rfl))) (Or.inl (hw _ (List.mem_of_getElem? (i := 16) rfl))) (by decide) (t := (.array .long)) (t' := (.array .long)) (by decide) (by decide)))
  have f1044 := f1032.same Wh1041
  have f1045 := f1033.other Wh1041 (Or.inr (slot_ne (Or.inl (hw _ (List.mem_of_getElem? (i := 19) rfl))) (Or.inl (hw _ (List.mem_of_getElem? (i := 16) rfl))) (by decide) (t := (.array .int)) (t' := (.array .long)) (by decide) (by decide)))
  have f1046 := f1034.other Wh1041 (Or.inr (slot_ne (Or.inl (hw _ (List.mem_of_getElem? (i := 21) rfl))) (Or.inl (hw _ (List.mem_of_getElem? (i := 16) rfl))) (by decide) (t := (.array .int)) (t' := (.array .long)) (by decide) (by decide)))
  have f1047 := f1035.other Wh1041 (Or.inr (slot_ne (Or.inl (hw _ (List.mem_of_getElem? (i := 40) rfl))) (Or.inl (hw _ (List.mem_of_getElem? (i := 16) rfl))) (by decide) (t := .int) (t' := (.array .long)) (by decide) (by decide)))
  have f1048 := f1036.other Wh1041 (Or.inr (slot_ne (Or.inl (hw _ (List.mem_of_getElem? (i := 23) rfl))) (Or.inl (hw _ (List.mem_of_getElem? (i := 16) rfl))) (by decide) (t := .int) (t' := (.array .long)) (by decide) (by decide)))
  have f1049 := f1037.other Wh1041 (Or.inr (slot_ne (Or.inl (hw _ (List.mem_of_getElem? (i := 25) rfl))) (Or.inl (hw _ (List.mem_of_getElem? (i := 16) rfl))) (by decide) (t := .int) (t' := (.array .long)) (by decide) (by decide)))
  have f1050 := f1038.wr Wh1041
  have f1051 := f1039.other Wh1041 (Ne.symm ne_o_a982)
  have f1052 := f1040.other Wh1041 (Ne.symm ne_o_a1004)
  have f1053 := Aa1028.other Wh1041 (Ne.symm ne_o_a1028)
  have Zh1041 : n0 ≤ h1041.size := by rw [Wh1041.size]; exact Zh1029
  refine Own.aloadN (pc' := 29) d_prog_19_method_1_28 rfl rfl rfl ?_
  refine Own.bipush (pc' := 31) (v := (16 : Int32)) d_prog_19_method_1_29 (by decide) rfl ?_
  refine Own.newI (pc' := 33) (n := 16) (cap := 16) d_prog_19_method_1_31 rfl (hw _ (List.mem_of_getElem? (i := 17) rfl)) (by decide) (by decide) (by decide) (by decide) (by decide) fun a1054 h1055 ga1054 Eh1055 Aa1054 => ?_
  have ne_o_a1054 : o ≠ a1054 := Nat.ne_of_lt (ga1054 ▸ (f1050).lt)
  have ne_a982_a1054 : a982 ≠ a1054 := Nat.ne_of_lt (ga1054 ▸ (f1051).lt)
  have ne_a1004_a1054 : a1004 ≠ a1054 := Nat.ne_of_lt (ga1054 ▸ (f1052).lt)
  have ne_a1028_a1054 : a1028 ≠ a1054 := Nat.ne_of_lt (ga1054 ▸ (f1053).lt)
  have Ga1054 : n0 ≤ a1054 := by rw [ga1054]; exact Zh1041
  have Zh1055 : n0 ≤ h1055.size := Nat.le_trans Zh1041 Eh1055.1
  have f1056 := f1042.ext Eh1055
  have f1057 := f1043.ext Eh1055
  have f1058 := f1044.ext Eh1055
  have f1059 := f1045.ext Eh1055
  have f1060 := f1046.ext Eh1055
  have f1061 := f1047.ext Eh1055
  have f1062 := f1048.ext Eh1055
  have f1063 := f1049.ext Eh1055
  have f1064 := f1050.ext Eh1055
  have f1065 := f1051.ext Eh1055
  have f1066 := f1052.ext Eh1055
  have f1067 := f1053.ext Eh1055
  show Go K _ _ _ _ _ _ _ _ _ 4 64 h1055 33 #[.val (.ref o)] [(.ref a1054), (.ref o)]
  refine Own.putfield (pc' := 36) d_prog_19_method_1_33 rfl (host := "") (Or.inl (hw _ (List.mem_of_getElem? (i := 18) rfl))) Via.refl f1059 f1064 (Or.inl (hw _ (List.mem_of_getElem? (i := 19) rfl))) (hw _ (List.mem_of_getElem? (i := 2) rfl)) (ty := (.array .int)) (by decide) rfl rfl g_o fun h1068 Wh1068 => ?_
  have f1069 := f1056.other Wh1068 (Or.inr (slot_ne (Or.inl (hw _ (List.mem_of_getElem? (i := 12) rfl))) (Or.inl (hw _ (List.mem_of_getElem? (i := 19) rfl))) (by decide) (t := (.array .long)) (t' := (.array .int)) (by decide) (by decide)))
  have f1070 := f1057.other Wh1068 (Or.inr (slot_ne (Or.inl (hw _ (List.mem_of_getElem? (i := 14) rfl))) (Or.inl (hw _ (List.mem_of_getElem? (i := 19) rfl))) (by decide) (t := (.array .long)) (t' := (.array .int)) (by decide) (by decide)))
  have f1071 := f1058.other Wh1068 (Or.inr (slot_ne (Or.inl (hw _ (List.mem_of_getElem? (i := 16) rfl))) (Or.inl (hw _ (List.mem_of_getElem? (i := 19) rfl))) (by decide) (t := (.array .long)) (t' := (.array .int)) (by decide) (by decide)))
  have f1072 := f1059.same Wh1068
  have f1073 := f1060.other Wh1068 (Or.inr (slot_ne (Or.inl (hw _ (List.mem_of_getElem? (i := 21) rfl))) (Or.inl (hw _ (List.mem_of_getElem? (i := 19) rfl))) (by decide) (t := (.array .int)) (t' := (.array .int)) (by decide) (by decide)))
  have f1074 := f1061.other Wh1068 (Or.inr (slot_ne (Or.inl (hw _ (List.mem_of_getElem? (i := 40) rfl))) (Or.inl (hw _ (List.mem_of_getElem? (i := 19) rfl))) (by decide) (t := .int) (t' := (.array .int)) (by decide) (by decide)))
  have f1075 := f1062.other Wh1068 (Or.inr (slot_ne (Or.inl (hw _ (List.mem_of_getElem? (i := 23) rfl))) (Or.inl (hw _ (List.mem_of_getElem? (i := 19) rfl))) (by decide) (t := .int) (t' := (.array .int)) (by decide) (by decide)))
  have f1076 := f1063.other Wh1068 (Or.inr (slot_ne (Or.inl (hw _ (List.mem_of_getElem? (i := 25) rfl))) (Or.inl (hw _ (List.mem_of_getElem? (i := 19) rfl))) (by decide) (t := .int) (t' := (.array .int)) (by decide) (by decide)))
  have f1077 := f1064.wr Wh1068
  have f1078 := f1065.other Wh1068 (Ne.symm ne_o_a982)
  have f1079 := f1066.other Wh1068 (Ne.symm ne_o_a1004)
  have f1080 := f1067.other Wh1068 (Ne.symm ne_o_a1028)
  have f1081 := Aa1054.other Wh1068 (Ne.symm ne_o_a1054)
  have Zh1068 : n0 ≤ h1068.size := by rw [Wh1068.size]; exact Zh1055
  refine Own.aloadN (pc' := 37) d_prog_19_method_1_36 rfl rfl rfl ?_
  refine Own.bipush (pc' := 39) (v := (16 : Int32)) d_prog_19_method_1_37 (by decide) rfl ?_
  refine Own.newI (pc' := 41) (n := 16) (cap := 16) d_prog_19_method_1_39 rfl (hw _ (List.mem_of_getElem? (i := 17) rfl)) (by decide) (by decide) (by decide) (by decide) (by decide) fun a1082 h1083 ga1082 Eh1083 Aa1082 => ?_
  have ne_o_a1082 : o ≠ a1082 := Nat.ne_of_lt (ga1082 ▸ (f1077).lt)
  have ne_a982_a1082 : a982 ≠ a1082 := Nat.ne_of_lt (ga1082 ▸ (f1078).lt)
  have ne_a1004_a1082 : a1004 ≠ a1082 := Nat.ne_of_lt (ga1082 ▸ (f1079).lt)
  have ne_a1028_a1082 : a1028 ≠ a1082 := Nat.ne_of_lt (ga1082 ▸ (f1080).lt)
  have ne_a1054_a1082 : a1054 ≠ a1082 := Nat.ne_of_lt (ga1082 ▸ (f1081).lt)
  have Ga1082 : n0 ≤ a1082 := by rw [ga1082]; exact Zh1068
  have Zh1083 : n0 ≤ h1083.size := Nat.le_trans Zh1068 Eh1083.1
  have f1084 := f1069.ext Eh1083
  have f1085 := f1070.ext Eh1083
  have f1086 := f1071.ext Eh1083
  have f1087 := f1072.ext Eh1083
  have f1088 := f1073.ext Eh1083
  have f1089 := f1074.ext Eh1083
  have f1090 := f1075.ext Eh1083
  have f1091 := f1076.ext Eh1083
  have f1092 := f1077.ext Eh1083
  have f1093 := f1078.ext Eh1083
  have f1094 := f1079.ext Eh1083
  have f1095 := f1080.ext Eh1083
  have f1096 := f1081.ext Eh1083
  show Go K _ _ _ _ _ _ _ _ _ 5 80 h1083 41 #[.val (.ref o)] [(.ref a1082), (.ref o)]
  refine Own.putfield (pc' := 44) d_prog_19_method_1_41 rfl (host := "") (Or.inl (hw _ (List.mem_of_getElem? (i := 20) rfl))) Via.refl f1088 f1092 (Or.inl (hw _ (List.mem_of_getElem? (i := 21) rfl))) (hw _ (List.mem_of_getElem? (i := 2) rfl)) (ty := (.array .int)) (by decide) rfl rfl g_o fun h1097 Wh1097 => ?_
  have f1098 := f1084.other Wh1097 (Or.inr (slot_ne (Or.inl (hw _ (List.mem_of_getElem? (i := 12) rfl))) (Or.inl (hw _ (List.mem_of_getElem? (i := 21) rfl))) (by decide) (t := (.array .long)) (t' := (.array .int)) (by decide) (by decide)))
  have f1099 := f1085.other Wh1097 (Or.inr (slot_ne (Or.inl (hw _ (List.mem_of_getElem? (i := 14) rfl))) (Or.inl (hw _ (List.mem_of_getElem? (i := 21) rfl))) (by decide) (t := (.array .long)) (t' := (.array .int)) (by decide) (by decide)))
  have f1100 := f1086.other Wh1097 (Or.inr (slot_ne (Or.inl (hw _ (List.mem_of_getElem? (i := 16) rfl))) (Or.inl (hw _ (List.mem_of_getElem? (i := 21) rfl))) (by decide) (t := (.array .long)) (t' := (.array .int)) (by decide) (by decide)))
  have f1101 := f1087.other Wh1097 (Or.inr (slot_ne (Or.inl (hw _ (List.mem_of_getElem? (i := 19) rfl))) (Or.inl (hw _ (List.mem_of_getElem? (i := 21) rfl))) (by decide) (t := (.array .int)) (t' := (.array .int)) (by decide) (by decide)))
  have f1102 := f1088.same Wh1097
  have f1103 := f1089.other Wh1097 (Or.inr (slot_ne (Or.inl (hw _ (List.mem_of_getElem? (i := 40) rfl))) (Or.inl (hw _ (List.mem_of_getElem? (i := 21) rfl))) (by decide) (t := .int) (t' := (.array .int)) (by decide) (by decide)))
  have f1104 := f1090.other Wh1097 (Or.inr (slot_ne (Or.inl (hw _ (List.mem_of_getElem? (i := 23) rfl))) (Or.inl (hw _ (List.mem_of_getElem? (i := 21) rfl))) (by decide) (t := .int) (t' := (.array .int)) (by decide) (by decide)))
  have f1105 := f1091.other Wh1097 (Or.inr (slot_ne (Or.inl (hw _ (List.mem_of_getElem? (i := 25) rfl))) (Or.inl (hw _ (List.mem_of_getElem? (i := 21) rfl))) (by decide) (t := .int) (t' := (.array .int)) (by decide) (by decide)))
  have f1106 := f1092.wr Wh1097
  have f1107 := f1093.other Wh1097 (Ne.symm ne_o_a982)
  have f1108 := f1094.other Wh1097 (Ne.symm ne_o_a1004)
  have f1109 := f1095.other Wh1097 (Ne.symm ne_o_a1028)
  have f1110 := f1096.other Wh1097 (Ne.symm ne_o_a1054)
  have f1111 := Aa1082.other Wh1097 (Ne.symm ne_o_a1082)
  have Zh1097 : n0 ≤ h1097.size := by rw [Wh1097.size]; exact Zh1083
  refine Own.aloadN (pc' := 45) d_prog_19_method_1_44 rfl rfl rfl ?_
  refine Own.iconst (pc' := 46) (v := (-1 : Int32)) d_prog_19_method_1_45 (by decide) rfl ?_
  refine Own.putfield (pc' := 49) d_prog_19_method_1_46 rfl (host := "") (Or.inl (hw _ (List.mem_of_getElem? (i := 22) rfl))) Via.refl f1104 f1106 (Or.inl (hw _ (List.mem_of_getElem? (i := 23) rfl))) (hw _ (List.mem_of_getElem? (i := 2) rfl)) (ty := .int) (by decide) rfl rfl g_o fun h1112 Wh1112 => ?_
  have f1113 := f1098.other Wh1112 (Or.inr (slot_ne (Or.inl (hw _ (List.mem_of_getElem? (i := 12) rfl))) (Or.inl (hw _ (List.mem_of_getElem? (i := 23) rfl))) (by decide) (t := (.array .long)) (t' := .int) (by decide) (by decide)))
  have f1114 := f1099.other Wh1112 (Or.inr (slot_ne (Or.inl (hw _ (List.mem_of_getElem? (i := 14) rfl))) (Or.inl (hw _ (List.mem_of_getElem? (i := 23) rfl))) (by decide) (t := (.array .long)) (t' := .int) (by decide) (by decide)))
  have f1115 := f1100.other Wh1112 (Or.inr (slot_ne (Or.inl (hw _ (List.mem_of_getElem? (i := 16) rfl))) (Or.inl (hw _ (List.mem_of_getElem? (i := 23) rfl))) (by decide) (t := (.array .long)) (t' := .int) (by decide) (by decide)))
  have f1116 := f1101.other Wh1112 (Or.inr (slot_ne (Or.inl (hw _ (List.mem_of_getElem? (i := 19) rfl))) (Or.inl (hw _ (List.mem_of_getElem? (i := 23) rfl))) (by decide) (t := (.array .int)) (t' := .int) (by decide) (by decide)))
  have f1117 := f1102.other Wh1112 (Or.inr (slot_ne (Or.inl (hw _ (List.mem_of_getElem? (i := 21) rfl))) (Or.inl (hw _ (List.mem_of_getElem? (i := 23) rfl))) (by decide) (t := (.array .int)) (t' := .int) (by decide) (by decide)))
  have f1118 := f1103.other Wh1112 (Or.inr (slot_ne (Or.inl (hw _ (List.mem_of_getElem? (i := 40) rfl))) (Or.inl (hw _ (List.mem_of_getElem? (i := 23) rfl))) (by decide) (t := .int) (t' := .int) (by decide) (by decide)))
  have f1119 := f1104.same Wh1112
  have f1120 := f1105.other Wh1112 (Or.inr (slot_ne (Or.inl (hw _ (List.mem_of_getElem? (i := 25) rfl))) (Or.inl (hw _ (List.mem_of_getElem? (i := 23) rfl))) (by decide) (t := .int) (t' := .int) (by decide) (by decide)))
  have f1121 := f1106.wr Wh1112
  have f1122 := f1107.other Wh1112 (Ne.symm ne_o_a982)
  have f1123 := f1108.other Wh1112 (Ne.symm ne_o_a1004)
  have f1124 := f1109.other Wh1112 (Ne.symm ne_o_a1028)
  have f1125 := f1110.other Wh1112 (Ne.symm ne_o_a1054)
  have f1126 := f1111.other Wh1112 (Ne.symm ne_o_a1082)
  have Zh1112 : n0 ≤ h1112.size := by rw [Wh1112.size]; exact Zh1097
  refine Own.aloadN (pc' := 50) d_prog_19_method_1_49 rfl rfl rfl ?_
  refine Own.iconst (pc' := 51) (v := (-1 : Int32)) d_prog_19_method_1_50 (by decide) rfl ?_
  refine Own.putfield (pc' := 54) d_prog_19_method_1_51 rfl (host := "") (Or.inl (hw _ (List.mem_of_getElem? (i := 24) rfl))) Via.refl f1120 f1121 (Or.inl (hw _ (List.mem_of_getElem? (i := 25) rfl))) (hw _ (List.mem_of_getElem? (i := 2) rfl)) (ty := .int) (by decide) rfl rfl g_o fun h1127 Wh1127 => ?_
  have f1128 := f1113.other Wh1127 (Or.inr (slot_ne (Or.inl (hw _ (List.mem_of_getElem? (i := 12) rfl))) (Or.inl (hw _ (List.mem_of_getElem? (i := 25) rfl))) (by decide) (t := (.array .long)) (t' := .int) (by decide) (by decide)))
  have f1129 := f1114.other Wh1127 (Or.inr (slot_ne (Or.inl (hw _ (List.mem_of_getElem? (i := 14) rfl))) (Or.inl (hw _ (List.mem_of_getElem? (i := 25) rfl))) (by decide) (t := (.array .long)) (t' := .int) (by decide) (by decide)))
  have f1130 := f1115.other Wh1127 (Or.inr (slot_ne (Or.inl (hw _ (List.mem_of_getElem? (i := 16) rfl))) (Or.inl (hw _ (List.mem_of_getElem? (i := 25) rfl))) (by decide) (t := (.array .long)) (t' := .int) (by decide) (by decide)))
  have f1131 := f1116.other Wh1127 (Or.inr (slot_ne (Or.inl (hw _ (List.mem_of_getElem? (i := 19) rfl))) (Or.inl (hw _ (List.mem_of_getElem? (i := 25) rfl))) (by decide) (t := (.array .int)) (t' := .int) (by decide) (by decide)))
  have f1132 := f1117.other Wh1127 (Or.inr (slot_ne (Or.inl (hw _ (List.mem_of_getElem? (i := 21) rfl))) (Or.inl (hw _ (List.mem_of_getElem? (i := 25) rfl))) (by decide) (t := (.array .int)) (t' := .int) (by decide) (by decide)))
  have f1133 := f1118.other Wh1127 (Or.inr (slot_ne (Or.inl (hw _ (List.mem_of_getElem? (i := 40) rfl))) (Or.inl (hw _ (List.mem_of_getElem? (i := 25) rfl))) (by decide) (t := .int) (t' := .int) (by decide) (by decide)))
  have f1134 := f1119.other Wh1127 (Or.inr (slot_ne (Or.inl (hw _ (List.mem_of_getElem? (i := 23) rfl))) (Or.inl (hw _ (List.mem_of_getElem? (i := 25) rfl))) (by decide) (t := .int) (t' := .int) (by decide) (by decide)))
  have f1135 := f1120.same Wh1127
  have f1136 := f1121.wr Wh1127
  have f1137 := f1122.other Wh1127 (Ne.symm ne_o_a982)
  have f1138 := f1123.other Wh1127 (Ne.symm ne_o_a1004)
  have f1139 := f1124.other Wh1127 (Ne.symm ne_o_a1028)
  have f1140 := f1125.other Wh1127 (Ne.symm ne_o_a1054)
  have f1141 := f1126.other Wh1127 (Ne.symm ne_o_a1082)
  have Zh1127 : n0 ≤ h1127.size := by rw [Wh1127.size]; exact Zh1112
  exact Own.vreturn d_prog_19_method_1_54 rfl (⟨_, _, _, _, _, rfl, Zh1127, ⟨g_o, Ga982, Ga1004, Ga1028, Ga1054, Ga1082, ne_o_a982, ne_o_a1004, ne_o_a1028, ne_o_a1054, ne_o_a1082, ne_a982_a1004, ne_a982_a1028, ne_a982_a1054, ne_a982_a1082, ne_a1004_a1028, ne_a1004_a1054, ne_a1004_a1082, ne_a1028_a1054, ne_a1028_a1082, ne_a1054_a1082⟩, ⟨_, f1136, f1128, f1129, f1130, f1131, f1132, f1133, f1134, f1135, f1137, f1138, f1139, f1140, f1141⟩⟩) (by decide) (by decide)
set_option maxRecDepth 65536 in
set_option maxHeartbeats 40000000 in
theorem own_s183 (Z : State) (a0 : Array Value) (hw : ∀ d ∈ tables_1, d.before a0 Z = true) (n0 : Nat) (K : Ctx) (h : Heap) (hZ0 : n0 ≤ h.size) (p0 p1 p2 p3 p4 : Int64) (p5 : Int32) (k1 k2 k3 k4 : Int64) (t1 t2 t3 t4 t5 : Int32) (o aK aO aS aL aR : Addr) (D : own_D n0 o aK aO aS aL aR) (g1 : 0 ≤ k1.toInt) (g2 : 0 ≤ k2.toInt) (g3 : 0 ≤ k3.toInt) (g4 : 0 ≤ k4.toInt) (h5 : t5 ≠ 0 → t1 ≠ 0) (EE : own_E Z h o aK aO aS aL aR (own_c5 k1 k2 k3 k4 t1 t2 t3 t4 t5)) :
    Go K room_1 Z n0 code 29 (some .boolean) "com/example/lowtide/lowtide/compact/KeyedSumsAfterPinLaw" "law" (fun v _ => v = some (.int 1)) 6 88 h 183 #[.val (.long p0), .second, .val (.long p1), .second, .val (.long p2), .second, .val (.long p3), .second, .val (.long p4), .second, .val (.int p5), .val (.long k1), .second, .val (.long k2), .second, .val (.long k3), .second, .val (.long k4), .second, .val (.int t1), .val (.int t2), .val (.int t3), .val (.int t4), .val (.int t5), .val (.ref o), .unset, .unset, .unset, .unset] [] := by
  obtain ⟨kf, of, lf, rf, us, un, rt, ps, KK, T, ec⟩ := EE
  obtain ⟨g_o, g_aK, g_aO, g_aS, g_aL, g_aR, ne_o_aK, ne_o_aO, ne_o_aS, ne_o_aL, ne_o_aR, ne_aK_aO, ne_aK_aS, ne_aK_aL, ne_aK_aR, ne_aO_aS, ne_aO_aL, ne_aO_aR, ne_aS_aL, ne_aS_aR, ne_aL_aR⟩ := D
  obtain ⟨sf, E_o, F_keys, F_own, F_sums, F_left, F_right, F_used, F_unused, F_root, A_aK, A_aO, A_aS, A_aL, A_aR⟩ := KK
  refine Own.aload (pc' := 185) at_183 rfl rfl rfl ?_
  refine Own.lload (pc' := 187) at_185 rfl rfl ?_
  refine Own.virtual (pc' := 190) (y := (⟨"com/example/lowtide/lowtide/compact/KeyedSums", "after", "(J)J"⟩ : MethodName)) (rm' := ({ frames := 0, cells := 0, slots := 0, locals := 0 } : Room)) (W := 0) (as := [(.long p4)]) (rest := []) (a := o) at_187 rfl (hw _ (List.mem_of_getElem? (i := 41) rfl)) (hw _ (List.mem_of_getElem? (i := 42) rfl)) (hw _ (List.mem_of_getElem? (i := 44) rfl)) (hw _ (List.mem_of_getElem? (i := 43) rfl)) (hw _ (List.mem_of_getElem? (i := 3) rfl)) (hw _ (List.mem_of_getElem? (i := 45) rfl)) (by decide) E_o (c_after Z a0 hw n0 h hZ0 o p4 aK aO aS aL aR kf of lf rf us un rt ⟨g_o, g_aK, g_aO, g_aS, g_aL, g_aR, ne_o_aK, ne_o_aO, ne_o_aS, ne_o_aL, ne_o_aR, ne_aK_aO, ne_aK_aS, ne_aK_aL, ne_aK_aR, ne_aO_aS, ne_aO_aL, ne_aO_aR, ne_aS_aL, ne_aS_aR, ne_aL_aR⟩ ⟨_, E_o, F_keys, F_own, F_sums, F_left, F_right, F_used, F_unused, F_root, A_aK, A_aO, A_aS, A_aL, A_aR⟩ ps T (by rw [ec]; exact own_c5_I.1)) rfl rfl (lenOf pd_6 rfl) (by decide) rfl (by decide) (by decide) (by decide) fun r1143 h1142 qh1142 => ?_
  obtain ⟨e2, e1⟩ := qh1142
  subst e1 e2
  obtain ⟨v1144, hv1144⟩ : ∃ z, z = own_aft (own_c kf of ps) p4 (-1) := ⟨_, rfl⟩
  rw [← hv1144]
  show Go K _ _ _ _ _ _ _ _ _ 6 88 h 190 #[.val (.long p0), .second, .val (.long p1), .second, .val (.long p2), .second, .val (.long p3), .second, .val (.long p4), .second, .val (.int p5), .val (.long k1), .second, .val (.long k2), .second, .val (.long k3), .second, .val (.long k4), .second, .val (.int t1), .val (.int t2), .val (.int t3), .val (.int t4), .val (.int t5), .val (.ref o), .unset, .unset, .unset, .unset] [(.long v1144)]
  refine Own.lstore (pc' := 192) (L1 := #[.val (.long p0), .second, .val (.long p1), .second, .val (.long p2), .second, .val (.long p3), .second, .val (.long p4), .second, .val (.int p5), .val (.long k1), .second, .val (.long k2), .second, .val (.long k3), .second, .val (.long k4), .second, .val (.int t1), .val (.int t2), .val (.int t3), .val (.int t4), .val (.int t5), .val (.ref o), .val (.long v1144), .second, .unset, .unset]) at_190 rfl rfl ?_
  refine Own.ldc2Long (pc' := 195) (v := (-1 : Int64)) at_192 (hw _ (List.mem_of_getElem? (i := 47) rfl)) rfl ?_
  refine Own.lstore (pc' := 197) (L1 := #[.val (.long p0), .second, .val (.long p1), .second, .val (.long p2), .second, .val (.long p3), .second, .val (.long p4), .second, .val (.int p5), .val (.long k1), .second, .val (.long k2), .second, .val (.long k3), .second, .val (.long k4), .second, .val (.int t1), .val (.int t2), .val (.int t3), .val (.int t4), .val (.int t5), .val (.ref o), .val (.long v1144), .second, .val (.long (-1 : Int64)), .second]) at_195 rfl rfl ?_
  refine Own.lload (pc' := 199) at_197 rfl rfl ?_
  refine Own.lload (pc' := 201) at_199 rfl rfl ?_
  refine Own.lload (pc' := 203) at_201 rfl rfl ?_
  refine Own.lload (pc' := 205) at_203 rfl rfl ?_
  refine Own.lload (pc' := 207) at_205 rfl rfl ?_
  refine Own.lload (pc' := 209) at_207 rfl rfl ?_
  refine Own.lload (pc' := 211) at_209 rfl rfl ?_
  refine Own.iload (pc' := 213) at_211 rfl rfl ?_
  refine Own.iload (pc' := 215) at_213 rfl rfl ?_
  refine Own.iload (pc' := 217) at_215 rfl rfl ?_
  refine Own.iload (pc' := 219) at_217 rfl rfl ?_
  refine Own.iload (pc' := 221) at_219 rfl rfl ?_
  refine Own.static (pc' := 224) (y := (⟨"com/example/lowtide/lowtide/compact/KeyedSumsAfterPinLaw", "net", "(JJJJJZZZZZ)I"⟩ : MethodName)) (rm' := ({ frames := 0, cells := 0, slots := 0, locals := 0 } : Room)) (W := 4) (as := [(.long k1), (.long k1), (.long k2), (.long k3), (.long k4), (.int t1), (.int t2), (.int t3), (.int t4), (.int t5)]) (rest := [(.long k1), (.long (-1 : Int64))]) at_221 rfl (hw _ (List.mem_of_getElem? (i := 48) rfl)) (hw _ (List.mem_of_getElem? (i := 49) rfl)) (hw _ (List.mem_of_getElem? (i := 50) rfl)) (hw _ (List.mem_of_getElem? (i := 51) rfl)) (by decide) (c_net Z a0 hw n0 h hZ0 k1 k1 k2 k3 k4 t1 t2 t3 t4 t5) rfl rfl (lenOf pd_7 rfl) (by decide) rfl (by decide) (by decide) (by decide) fun r1146 h1145 qh1145 => ?_
  obtain ⟨e1, e2⟩ := qh1145
  subst e1 e2
  obtain ⟨v1147, hv1147⟩ : ∃ z, z = own_net k1 k1 k2 k3 k4 t1 t2 t3 t4 t5 := ⟨_, rfl⟩
  rw [← hv1147]
  show Go K _ _ _ _ _ _ _ _ _ 6 88 h 224 #[.val (.long p0), .second, .val (.long p1), .second, .val (.long p2), .second, .val (.long p3), .second, .val (.long p4), .second, .val (.int p5), .val (.long k1), .second, .val (.long k2), .second, .val (.long k3), .second, .val (.long k4), .second, .val (.int t1), .val (.int t2), .val (.int t3), .val (.int t4), .val (.int t5), .val (.ref o), .val (.long v1144), .second, .val (.long (-1 : Int64)), .second] [(.int v1147), (.long k1), (.long (-1 : Int64))]
  obtain ⟨w1149, hw1149⟩ : ∃ w : Int32, w = (if v1147.toInt ≤ 0 then (0 : Int32) else (1 : Int32)) := ⟨_, rfl⟩
  refine Own.join (pc2 := 232) (L2 := #[.val (.long p0), .second, .val (.long p1), .second, .val (.long p2), .second, .val (.long p3), .second, .val (.long p4), .second, .val (.int p5), .val (.long k1), .second, .val (.long k2), .second, .val (.long k3), .second, .val (.long k4), .second, .val (.int t1), .val (.int t2), .val (.int t3), .val (.int t4), .val (.int t5), .val (.ref o), .val (.long v1144), .second, .val (.long (-1 : Int64)), .second]) (S2 := [(.int w1149), (.long k1), (.long (-1 : Int64))]) (fun J1150 => ?_) ?_
  · refine Own.if_le (pc' := 231) (pc2 := 227) at_224 (by decide) (by decide) rfl (fun c224_1147 => ?_) (fun c224_1147 => ?_)
    · refine Own.iconst (pc' := 232) (v := (0 : Int32)) at_231 (by decide) rfl ?_
      try rw [if_pos c224_1147] at hw1149
      subst hw1149
      exact J1150
    · refine Own.iconst (pc' := 228) (v := (1 : Int32)) at_227 (by decide) rfl ?_
      refine Own.goto (pc' := 232) at_228 (by decide) (by decide) ?_
      try rw [if_neg c224_1147] at hw1149
      subst hw1149
      exact J1150
  refine Own.lload (pc' := 234) at_232 rfl rfl ?_
  refine Own.static (pc' := 237) (y := (⟨"com/example/lowtide/lowtide/compact/KeyedSumsAfterPinLaw", "pick", "(JJZJ)J"⟩ : MethodName)) (rm' := ({ frames := 0, cells := 0, slots := 0, locals := 0 } : Room)) (W := 0) (as := [(.long (-1 : Int64)), (.long k1), (.int w1149), (.long p4)]) (rest := []) at_234 rfl (hw _ (List.mem_of_getElem? (i := 52) rfl)) (hw _ (List.mem_of_getElem? (i := 53) rfl)) (hw _ (List.mem_of_getElem? (i := 50) rfl)) (hw _ (List.mem_of_getElem? (i := 54) rfl)) (by decide) (c_pick Z a0 hw n0 h hZ0 (-1 : Int64) k1 w1149 p4) rfl rfl (lenOf pd_8 rfl) (by decide) rfl (by decide) (by decide) (by decide) fun r1152 h1151 qh1151 => ?_
  obtain ⟨e1, e2⟩ := qh1151
  subst e1 e2
  obtain ⟨v1153, hv1153⟩ : ∃ z, z = own_pick (-1 : Int64) k1 w1149 p4 := ⟨_, rfl⟩
  rw [← hv1153]
  show Go K _ _ _ _ _ _ _ _ _ 6 88 h 237 #[.val (.long p0), .second, .val (.long p1), .second, .val (.long p2), .second, .val (.long p3), .second, .val (.long p4), .second, .val (.int p5), .val (.long k1), .second, .val (.long k2), .second, .val (.long k3), .second, .val (.long k4), .second, .val (.int t1), .val (.int t2), .val (.int t3), .val (.int t4), .val (.int t5), .val (.ref o), .val (.long v1144), .second, .val (.long (-1 : Int64)), .second] [(.long v1153)]
  refine Own.lstore (pc' := 239) (L1 := #[.val (.long p0), .second, .val (.long p1), .second, .val (.long p2), .second, .val (.long p3), .second, .val (.long p4), .second, .val (.int p5), .val (.long k1), .second, .val (.long k2), .second, .val (.long k3), .second, .val (.long k4), .second, .val (.int t1), .val (.int t2), .val (.int t3), .val (.int t4), .val (.int t5), .val (.ref o), .val (.long v1144), .second, .val (.long v1153), .second]) at_237 rfl rfl ?_
  refine Own.lload (pc' := 241) at_239 rfl rfl ?_
  refine Own.lload (pc' := 243) at_241 rfl rfl ?_
  refine Own.lload (pc' := 245) at_243 rfl rfl ?_
  refine Own.lload (pc' := 247) at_245 rfl rfl ?_
  refine Own.lload (pc' := 249) at_247 rfl rfl ?_
  refine Own.lload (pc' := 251) at_249 rfl rfl ?_
  refine Own.lload (pc' := 253) at_251 rfl rfl ?_
  refine Own.iload (pc' := 255) at_253 rfl rfl ?_
  refine Own.iload (pc' := 257) at_255 rfl rfl ?_
  refine Own.iload (pc' := 259) at_257 rfl rfl ?_
  refine Own.iload (pc' := 261) at_259 rfl rfl ?_
  refine Own.iload (pc' := 263) at_261 rfl rfl ?_
  refine Own.static (pc' := 266) (y := (⟨"com/example/lowtide/lowtide/compact/KeyedSumsAfterPinLaw", "net", "(JJJJJZZZZZ)I"⟩ : MethodName)) (rm' := ({ frames := 0, cells := 0, slots := 0, locals := 0 } : Room)) (W := 4) (as := [(.long k2), (.long k1), (.long k2), (.long k3), (.long k4), (.int t1), (.int t2), (.int t3), (.int t4), (.int t5)]) (rest := [(.long k2), (.long v1153)]) at_263 rfl (hw _ (List.mem_of_getElem? (i := 48) rfl)) (hw _ (List.mem_of_getElem? (i := 49) rfl)) (hw _ (List.mem_of_getElem? (i := 50) rfl)) (hw _ (List.mem_of_getElem? (i := 51) rfl)) (by decide) (c_net Z a0 hw n0 h hZ0 k2 k1 k2 k3 k4 t1 t2 t3 t4 t5) rfl rfl (lenOf pd_7 rfl) (by decide) rfl (by decide) (by decide) (by decide) fun r1155 h1154 qh1154 => ?_
  obtain ⟨e1, e2⟩ := qh1154
  subst e1 e2
  obtain ⟨v1156, hv1156⟩ : ∃ z, z = own_net k2 k1 k2 k3 k4 t1 t2 t3 t4 t5 := ⟨_, rfl⟩
  rw [← hv1156]
  show Go K _ _ _ _ _ _ _ _ _ 6 88 h 266 #[.val (.long p0), .second, .val (.long p1), .second, .val (.long p2), .second, .val (.long p3), .second, .val (.long p4), .second, .val (.int p5), .val (.long k1), .second, .val (.long k2), .second, .val (.long k3), .second, .val (.long k4), .second, .val (.int t1), .val (.int t2), .val (.int t3), .val (.int t4), .val (.int t5), .val (.ref o), .val (.long v1144), .second, .val (.long v1153), .second] [(.int v1156), (.long k2), (.long v1153)]
  obtain ⟨w1158, hw1158⟩ : ∃ w : Int32, w = (if v1156.toInt ≤ 0 then (0 : Int32) else (1 : Int32)) := ⟨_, rfl⟩
  refine Own.join (pc2 := 274) (L2 := #[.val (.long p0), .second, .val (.long p1), .second, .val (.long p2), .second, .val (.long p3), .second, .val (.long p4), .second, .val (.int p5), .val (.long k1), .second, .val (.long k2), .second, .val (.long k3), .second, .val (.long k4), .second, .val (.int t1), .val (.int t2), .val (.int t3), .val (.int t4), .val (.int t5), .val (.ref o), .val (.long v1144), .second, .val (.long v1153), .second]) (S2 := [(.int w1158), (.long k2), (.long v1153)]) (fun J1159 => ?_) ?_
  · refine Own.if_le (pc' := 273) (pc2 := 269) at_266 (by decide) (by decide) rfl (fun c266_1156 => ?_) (fun c266_1156 => ?_)
    · refine Own.iconst (pc' := 274) (v := (0 : Int32)) at_273 (by decide) rfl ?_
      try rw [if_pos c266_1156] at hw1158
      subst hw1158
      exact J1159
    · refine Own.iconst (pc' := 270) (v := (1 : Int32)) at_269 (by decide) rfl ?_
      refine Own.goto (pc' := 274) at_270 (by decide) (by decide) ?_
      try rw [if_neg c266_1156] at hw1158
      subst hw1158
      exact J1159
  refine Own.lload (pc' := 276) at_274 rfl rfl ?_
  refine Own.static (pc' := 279) (y := (⟨"com/example/lowtide/lowtide/compact/KeyedSumsAfterPinLaw", "pick", "(JJZJ)J"⟩ : MethodName)) (rm' := ({ frames := 0, cells := 0, slots := 0, locals := 0 } : Room)) (W := 0) (as := [(.long v1153), (.long k2), (.int w1158), (.long p4)]) (rest := []) at_276 rfl (hw _ (List.mem_of_getElem? (i := 52) rfl)) (hw _ (List.mem_of_getElem? (i := 53) rfl)) (hw _ (List.mem_of_getElem? (i := 50) rfl)) (hw _ (List.mem_of_getElem? (i := 54) rfl)) (by decide) (c_pick Z a0 hw n0 h hZ0 v1153 k2 w1158 p4) rfl rfl (lenOf pd_8 rfl) (by decide) rfl (by decide) (by decide) (by decide) fun r1161 h1160 qh1160 => ?_
  obtain ⟨e1, e2⟩ := qh1160
  subst e1 e2
  obtain ⟨v1162, hv1162⟩ : ∃ z, z = own_pick v1153 k2 w1158 p4 := ⟨_, rfl⟩
  rw [← hv1162]
  show Go K _ _ _ _ _ _ _ _ _ 6 88 h 279 #[.val (.long p0), .second, .val (.long p1), .second, .val (.long p2), .second, .val (.long p3), .second, .val (.long p4), .second, .val (.int p5), .val (.long k1), .second, .val (.long k2), .second, .val (.long k3), .second, .val (.long k4), .second, .val (.int t1), .val (.int t2), .val (.int t3), .val (.int t4), .val (.int t5), .val (.ref o), .val (.long v1144), .second, .val (.long v1153), .second] [(.long v1162)]
  refine Own.lstore (pc' := 281) (L1 := #[.val (.long p0), .second, .val (.long p1), .second, .val (.long p2), .second, .val (.long p3), .second, .val (.long p4), .second, .val (.int p5), .val (.long k1), .second, .val (.long k2), .second, .val (.long k3), .second, .val (.long k4), .second, .val (.int t1), .val (.int t2), .val (.int t3), .val (.int t4), .val (.int t5), .val (.ref o), .val (.long v1144), .second, .val (.long v1162), .second]) at_279 rfl rfl ?_
  refine Own.lload (pc' := 283) at_281 rfl rfl ?_
  refine Own.lload (pc' := 285) at_283 rfl rfl ?_
  refine Own.lload (pc' := 287) at_285 rfl rfl ?_
  refine Own.lload (pc' := 289) at_287 rfl rfl ?_
  refine Own.lload (pc' := 291) at_289 rfl rfl ?_
  refine Own.lload (pc' := 293) at_291 rfl rfl ?_
  refine Own.lload (pc' := 295) at_293 rfl rfl ?_
  refine Own.iload (pc' := 297) at_295 rfl rfl ?_
  refine Own.iload (pc' := 299) at_297 rfl rfl ?_
  refine Own.iload (pc' := 301) at_299 rfl rfl ?_
  refine Own.iload (pc' := 303) at_301 rfl rfl ?_
  refine Own.iload (pc' := 305) at_303 rfl rfl ?_
  refine Own.static (pc' := 308) (y := (⟨"com/example/lowtide/lowtide/compact/KeyedSumsAfterPinLaw", "net", "(JJJJJZZZZZ)I"⟩ : MethodName)) (rm' := ({ frames := 0, cells := 0, slots := 0, locals := 0 } : Room)) (W := 4) (as := [(.long k3), (.long k1), (.long k2), (.long k3), (.long k4), (.int t1), (.int t2), (.int t3), (.int t4), (.int t5)]) (rest := [(.long k3), (.long v1162)]) at_305 rfl (hw _ (List.mem_of_getElem? (i := 48) rfl)) (hw _ (List.mem_of_getElem? (i := 49) rfl)) (hw _ (List.mem_of_getElem? (i := 50) rfl)) (hw _ (List.mem_of_getElem? (i := 51) rfl)) (by decide) (c_net Z a0 hw n0 h hZ0 k3 k1 k2 k3 k4 t1 t2 t3 t4 t5) rfl rfl (lenOf pd_7 rfl) (by decide) rfl (by decide) (by decide) (by decide) fun r1164 h1163 qh1163 => ?_
  obtain ⟨e1, e2⟩ := qh1163
  subst e1 e2
  obtain ⟨v1165, hv1165⟩ : ∃ z, z = own_net k3 k1 k2 k3 k4 t1 t2 t3 t4 t5 := ⟨_, rfl⟩
  rw [← hv1165]
  show Go K _ _ _ _ _ _ _ _ _ 6 88 h 308 #[.val (.long p0), .second, .val (.long p1), .second, .val (.long p2), .second, .val (.long p3), .second, .val (.long p4), .second, .val (.int p5), .val (.long k1), .second, .val (.long k2), .second, .val (.long k3), .second, .val (.long k4), .second, .val (.int t1), .val (.int t2), .val (.int t3), .val (.int t4), .val (.int t5), .val (.ref o), .val (.long v1144), .second, .val (.long v1162), .second] [(.int v1165), (.long k3), (.long v1162)]
  obtain ⟨w1167, hw1167⟩ : ∃ w : Int32, w = (if v1165.toInt ≤ 0 then (0 : Int32) else (1 : Int32)) := ⟨_, rfl⟩
  refine Own.join (pc2 := 316) (L2 := #[.val (.long p0), .second, .val (.long p1), .second, .val (.long p2), .second, .val (.long p3), .second, .val (.long p4), .second, .val (.int p5), .val (.long k1), .second, .val (.long k2), .second, .val (.long k3), .second, .val (.long k4), .second, .val (.int t1), .val (.int t2), .val (.int t3), .val (.int t4), .val (.int t5), .val (.ref o), .val (.long v1144), .second, .val (.long v1162), .second]) (S2 := [(.int w1167), (.long k3), (.long v1162)]) (fun J1168 => ?_) ?_
  · refine Own.if_le (pc' := 315) (pc2 := 311) at_308 (by decide) (by decide) rfl (fun c308_1165 => ?_) (fun c308_1165 => ?_)
    · refine Own.iconst (pc' := 316) (v := (0 : Int32)) at_315 (by decide) rfl ?_
      try rw [if_pos c308_1165] at hw1167
      subst hw1167
      exact J1168
    · refine Own.iconst (pc' := 312) (v := (1 : Int32)) at_311 (by decide) rfl ?_
      refine Own.goto (pc' := 316) at_312 (by decide) (by decide) ?_
      try rw [if_neg c308_1165] at hw1167
      subst hw1167
      exact J1168
  refine Own.lload (pc' := 318) at_316 rfl rfl ?_
  refine Own.static (pc' := 321) (y := (⟨"com/example/lowtide/lowtide/compact/KeyedSumsAfterPinLaw", "pick", "(JJZJ)J"⟩ : MethodName)) (rm' := ({ frames := 0, cells := 0, slots := 0, locals := 0 } : Room)) (W := 0) (as := [(.long v1162), (.long k3), (.int w1167), (.long p4)]) (rest := []) at_318 rfl (hw _ (List.mem_of_getElem? (i := 52) rfl)) (hw _ (List.mem_of_getElem? (i := 53) rfl)) (hw _ (List.mem_of_getElem? (i := 50) rfl)) (hw _ (List.mem_of_getElem? (i := 54) rfl)) (by decide) (c_pick Z a0 hw n0 h hZ0 v1162 k3 w1167 p4) rfl rfl (lenOf pd_8 rfl) (by decide) rfl (by decide) (by decide) (by decide) fun r1170 h1169 qh1169 => ?_
  obtain ⟨e1, e2⟩ := qh1169
  subst e1 e2
  obtain ⟨v1171, hv1171⟩ : ∃ z, z = own_pick v1162 k3 w1167 p4 := ⟨_, rfl⟩
  rw [← hv1171]
  show Go K _ _ _ _ _ _ _ _ _ 6 88 h 321 #[.val (.long p0), .second, .val (.long p1), .second, .val (.long p2), .second, .val (.long p3), .second, .val (.long p4), .second, .val (.int p5), .val (.long k1), .second, .val (.long k2), .second, .val (.long k3), .second, .val (.long k4), .second, .val (.int t1), .val (.int t2), .val (.int t3), .val (.int t4), .val (.int t5), .val (.ref o), .val (.long v1144), .second, .val (.long v1162), .second] [(.long v1171)]
  refine Own.lstore (pc' := 323) (L1 := #[.val (.long p0), .second, .val (.long p1), .second, .val (.long p2), .second, .val (.long p3), .second, .val (.long p4), .second, .val (.int p5), .val (.long k1), .second, .val (.long k2), .second, .val (.long k3), .second, .val (.long k4), .second, .val (.int t1), .val (.int t2), .val (.int t3), .val (.int t4), .val (.int t5), .val (.ref o), .val (.long v1144), .second, .val (.long v1171), .second]) at_321 rfl rfl ?_
  refine Own.lload (pc' := 325) at_323 rfl rfl ?_
  refine Own.lload (pc' := 327) at_325 rfl rfl ?_
  refine Own.lload (pc' := 329) at_327 rfl rfl ?_
  refine Own.lload (pc' := 331) at_329 rfl rfl ?_
  refine Own.lload (pc' := 333) at_331 rfl rfl ?_
  refine Own.lload (pc' := 335) at_333 rfl rfl ?_
  refine Own.lload (pc' := 337) at_335 rfl rfl ?_
  refine Own.iload (pc' := 339) at_337 rfl rfl ?_
  refine Own.iload (pc' := 341) at_339 rfl rfl ?_
  refine Own.iload (pc' := 343) at_341 rfl rfl ?_
  refine Own.iload (pc' := 345) at_343 rfl rfl ?_
  refine Own.iload (pc' := 347) at_345 rfl rfl ?_
  refine Own.static (pc' := 350) (y := (⟨"com/example/lowtide/lowtide/compact/KeyedSumsAfterPinLaw", "net", "(JJJJJZZZZZ)I"⟩ : MethodName)) (rm' := ({ frames := 0, cells := 0, slots := 0, locals := 0 } : Room)) (W := 4) (as := [(.long k4), (.long k1), (.long k2), (.long k3), (.long k4), (.int t1), (.int t2), (.int t3), (.int t4), (.int t5)]) (rest := [(.long k4), (.long v1171)]) at_347 rfl (hw _ (List.mem_of_getElem? (i := 48) rfl)) (hw _ (List.mem_of_getElem? (i := 49) rfl)) (hw _ (List.mem_of_getElem? (i := 50) rfl)) (hw _ (List.mem_of_getElem? (i := 51) rfl)) (by decide) (c_net Z a0 hw n0 h hZ0 k4 k1 k2 k3 k4 t1 t2 t3 t4 t5) rfl rfl (lenOf pd_7 rfl) (by decide) rfl (by decide) (by decide) (by decide) fun r1173 h1172 qh1172 => ?_
  obtain ⟨e1, e2⟩ := qh1172
  subst e1 e2
  obtain ⟨v1174, hv1174⟩ : ∃ z, z = own_net k4 k1 k2 k3 k4 t1 t2 t3 t4 t5 := ⟨_, rfl⟩
  rw [← hv1174]
  show Go K _ _ _ _ _ _ _ _ _ 6 88 h 350 #[.val (.long p0), .second, .val (.long p1), .second, .val (.long p2), .second, .val (.long p3), .second, .val (.long p4), .second, .val (.int p5), .val (.long k1), .second, .val (.long k2), .second, .val (.long k3), .second, .val (.long k4), .second, .val (.int t1), .val (.int t2), .val (.int t3), .val (.int t4), .val (.int t5), .val (.ref o), .val (.long v1144), .second, .val (.long v1171), .second] [(.int v1174), (.long k4), (.long v1171)]
  obtain ⟨w1176, hw1176⟩ : ∃ w : Int32, w = (if v1174.toInt ≤ 0 then (0 : Int32) else (1 : Int32)) := ⟨_, rfl⟩
  refine Own.join (pc2 := 358) (L2 := #[.val (.long p0), .second, .val (.long p1), .second, .val (.long p2), .second, .val (.long p3), .second, .val (.long p4), .second, .val (.int p5), .val (.long k1), .second, .val (.long k2), .second, .val (.long k3), .second, .val (.long k4), .second, .val (.int t1), .val (.int t2), .val (.int t3), .val (.int t4), .val (.int t5), .val (.ref o), .val (.long v1144), .second, .val (.long v1171), .second]) (S2 := [(.int w1176), (.long k4), (.long v1171)]) (fun J1177 => ?_) ?_
  · refine Own.if_le (pc' := 357) (pc2 := 353) at_350 (by decide) (by decide) rfl (fun c350_1174 => ?_) (fun c350_1174 => ?_)
    · refine Own.iconst (pc' := 358) (v := (0 : Int32)) at_357 (by decide) rfl ?_
      try rw [if_pos c350_1174] at hw1176
      subst hw1176
      exact J1177
    · refine Own.iconst (pc' := 354) (v := (1 : Int32)) at_353 (by decide) rfl ?_
      refine Own.goto (pc' := 358) at_354 (by decide) (by decide) ?_
      try rw [if_neg c350_1174] at hw1176
      subst hw1176
      exact J1177
  refine Own.lload (pc' := 360) at_358 rfl rfl ?_
  refine Own.static (pc' := 363) (y := (⟨"com/example/lowtide/lowtide/compact/KeyedSumsAfterPinLaw", "pick", "(JJZJ)J"⟩ : MethodName)) (rm' := ({ frames := 0, cells := 0, slots := 0, locals := 0 } : Room)) (W := 0) (as := [(.long v1171), (.long k4), (.int w1176), (.long p4)]) (rest := []) at_360 rfl (hw _ (List.mem_of_getElem? (i := 52) rfl)) (hw _ (List.mem_of_getElem? (i := 53) rfl)) (hw _ (List.mem_of_getElem? (i := 50) rfl)) (hw _ (List.mem_of_getElem? (i := 54) rfl)) (by decide) (c_pick Z a0 hw n0 h hZ0 v1171 k4 w1176 p4) rfl rfl (lenOf pd_8 rfl) (by decide) rfl (by decide) (by decide) (by decide) fun r1179 h1178 qh1178 => ?_
  obtain ⟨e1, e2⟩ := qh1178
  subst e1 e2
  obtain ⟨v1180, hv1180⟩ : ∃ z, z = own_pick v1171 k4 w1176 p4 := ⟨_, rfl⟩
  rw [← hv1180]
  show Go K _ _ _ _ _ _ _ _ _ 6 88 h 363 #[.val (.long p0), .second, .val (.long p1), .second, .val (.long p2), .second, .val (.long p3), .second, .val (.long p4), .second, .val (.int p5), .val (.long k1), .second, .val (.long k2), .second, .val (.long k3), .second, .val (.long k4), .second, .val (.int t1), .val (.int t2), .val (.int t3), .val (.int t4), .val (.int t5), .val (.ref o), .val (.long v1144), .second, .val (.long v1171), .second] [(.long v1180)]
  refine Own.lstore (pc' := 365) (L1 := #[.val (.long p0), .second, .val (.long p1), .second, .val (.long p2), .second, .val (.long p3), .second, .val (.long p4), .second, .val (.int p5), .val (.long k1), .second, .val (.long k2), .second, .val (.long k3), .second, .val (.long k4), .second, .val (.int t1), .val (.int t2), .val (.int t3), .val (.int t4), .val (.int t5), .val (.ref o), .val (.long v1144), .second, .val (.long v1180), .second]) at_363 rfl rfl ?_
  refine Own.lload (pc' := 367) at_365 rfl rfl ?_
  refine Own.lload (pc' := 369) at_367 rfl rfl ?_
  refine Own.lcmp_ne (pc1 := 370) (pc' := 377) (pc2 := 373) at_369 rfl at_370 (by decide) (by decide) rfl (fun c369_1180 => False.elim (by exact c369_1180 (by rw [hv1144, ec, hv1180, hv1171, hv1162, hv1153]; exact own_final h5 g1 g2 g3 g4 (own_sel hw1149 hv1147) (own_sel hw1158 hv1156) (own_sel hw1167 hv1165) (own_sel hw1176 hv1174)))) (fun c369_1180 => ?_)
  refine Own.iconst (pc' := 374) (v := (1 : Int32)) at_373 (by decide) rfl ?_
  refine Own.goto (pc' := 378) at_374 (by decide) (by decide) ?_
  exact Own.ireturnZ (z' := (1 : Int32)) at_378 rfl (by decide) (rfl) (by decide) (by decide)
set_option maxRecDepth 65536 in
set_option maxHeartbeats 40000000 in
theorem own_s168 (Z : State) (a0 : Array Value) (hw : ∀ d ∈ tables_1, d.before a0 Z = true) (n0 : Nat) (K : Ctx) (h : Heap) (hZ0 : n0 ≤ h.size) (p0 p1 p2 p3 p4 : Int64) (p5 : Int32) (k1 k2 k3 k4 : Int64) (t1 t2 t3 t4 t5 : Int32) (o aK aO aS aL aR : Addr) (D : own_D n0 o aK aO aS aL aR) (g1 : 0 ≤ k1.toInt) (g2 : 0 ≤ k2.toInt) (g3 : 0 ≤ k3.toInt) (g4 : 0 ≤ k4.toInt) (h5 : t5 ≠ 0 → t1 ≠ 0) (W : own_W Z h o aK aO aS aL aR 4 (own_opt t4 (own_opt t3 (own_opt t2 (own_opt t1 [] k1 1) k2 1) k3 1) k4 1)) :
    Go K room_1 Z n0 code 29 (some .boolean) "com/example/lowtide/lowtide/compact/KeyedSumsAfterPinLaw" "law" (fun v _ => v = some (.int 1)) 6 88 h 168 #[.val (.long p0), .second, .val (.long p1), .second, .val (.long p2), .second, .val (.long p3), .second, .val (.long p4), .second, .val (.int p5), .val (.long k1), .second, .val (.long k2), .second, .val (.long k3), .second, .val (.long k4), .second, .val (.int t1), .val (.int t2), .val (.int t3), .val (.int t4), .val (.int t5), .val (.ref o), .unset, .unset, .unset, .unset] [] := by
  have WW := W
  have DD := D
  obtain ⟨kf, of, lf, rf, us, un, rt, ps, U, KK, T, ec, hus, hU, hlt, hun⟩ := W
  obtain ⟨g_o, g_aK, g_aO, g_aS, g_aL, g_aR, ne_o_aK, ne_o_aO, ne_o_aS, ne_o_aL, ne_o_aR, ne_aK_aO, ne_aK_aS, ne_aK_aL, ne_aK_aR, ne_aO_aS, ne_aO_aL, ne_aO_aR, ne_aS_aL, ne_aS_aR, ne_aL_aR⟩ := DD
  obtain ⟨sf, E_o, F_keys, F_own, F_sums, F_left, F_right, F_used, F_unused, F_root, A_aK, A_aO, A_aS, A_aL, A_aR⟩ := KK
  refine Own.iload (pc' := 170) at_168 rfl rfl ?_
  refine Own.if_eq (pc' := 183) (pc2 := 173) at_170 (by decide) (by decide) rfl (fun c170_1181 => ?_) (fun c170_1181 => ?_)
  · exact own_s183 Z a0 hw n0 K h hZ0 p0 p1 p2 p3 p4 p5 k1 k2 k3 k4 t1 t2 t3 t4 t5 o aK aO aS aL aR D g1 g2 g3 g4 h5 (WW.toE c170_1181)
  · refine Own.aload (pc' := 175) at_173 rfl rfl rfl ?_
    refine Own.lload (pc' := 177) at_175 rfl rfl ?_
    refine Own.ldc2Long (pc' := 180) (v := (-1 : Int64)) at_177 (hw _ (List.mem_of_getElem? (i := 47) rfl)) rfl ?_
    refine Own.virtual (pc' := 183) (y := (⟨"com/example/lowtide/lowtide/compact/KeyedSums", "add", "(JJ)V"⟩ : MethodName)) (rm' := ({ frames := 7, cells := 0, slots := 0, locals := 117 } : Room)) (W := 0) (as := [(.long k1), (.long (-1 : Int64))]) (rest := []) (a := o) at_180 rfl (hw _ (List.mem_of_getElem? (i := 26) rfl)) (hw _ (List.mem_of_getElem? (i := 27) rfl)) (hw _ (List.mem_of_getElem? (i := 29) rfl)) (hw _ (List.mem_of_getElem? (i := 28) rfl)) (hw _ (List.mem_of_getElem? (i := 3) rfl)) (hw _ (List.mem_of_getElem? (i := 30) rfl)) (by decide) E_o (c_addV Z a0 hw n0 h hZ0 o k1 (-1 : Int64) aK aO aS aL aR kf of lf rf us un rt ⟨g_o, g_aK, g_aO, g_aS, g_aL, g_aR, ne_o_aK, ne_o_aO, ne_o_aS, ne_o_aL, ne_o_aR, ne_aK_aO, ne_aK_aS, ne_aK_aL, ne_aK_aR, ne_aO_aS, ne_aO_aL, ne_aO_aR, ne_aS_aL, ne_aS_aR, ne_aL_aR⟩ ⟨_, E_o, F_keys, F_own, F_sums, F_left, F_right, F_used, F_unused, F_root, A_aK, A_aO, A_aS, A_aL, A_aR⟩ g1 (by decide) U ps T (by rw [ec]; exact (own_I.opt (t := t4) (k := k4) (by decide) (own_I.opt (t := t3) (k := k3) (by decide) (own_I.opt (t := t2) (k := k2) (by decide) (own_I.opt (t := t1) (k := k1) (by decide) own_I0)))).1) (by omega) hus hlt hun (own_len ec (own_I.opt (t := t4) (k := k4) (by decide) (own_I.opt (t := t3) (k := k3) (by decide) (own_I.opt (t := t2) (k := k2) (by decide) (own_I.opt (t := t1) (k := k1) (by decide) own_I0)))) (by decide))) rfl rfl (lenOf pd_9 rfl) (by decide) rfl (by decide) (by decide) (by decide) fun r1184 h1183 qh1183 => ?_
    obtain ⟨u1185, qs1186, kf1187, of1188, lf1189, rf1190, us1191, un1192, e2, Zh1183, Kh1183, AA⟩ := qh1183
    subst e2
    show Go K _ _ _ _ _ _ _ _ _ 6 88 h1183 183 #[.val (.long p0), .second, .val (.long p1), .second, .val (.long p2), .second, .val (.long p3), .second, .val (.long p4), .second, .val (.int p5), .val (.long k1), .second, .val (.long k2), .second, .val (.long k3), .second, .val (.long k4), .second, .val (.int t1), .val (.int t2), .val (.int t3), .val (.int t4), .val (.int t5), .val (.ref o), .unset, .unset, .unset, .unset] []
    exact own_s183 Z a0 hw n0 K h1183 Zh1183 p0 p1 p2 p3 p4 p5 k1 k2 k3 k4 t1 t2 t3 t4 t5 o aK aO aS aL aR D g1 g2 g3 g4 h5 (own_E_add c170_1181 ec Kh1183 AA)
set_option maxRecDepth 65536 in
set_option maxHeartbeats 40000000 in
theorem own_s155 (Z : State) (a0 : Array Value) (hw : ∀ d ∈ tables_1, d.before a0 Z = true) (n0 : Nat) (K : Ctx) (h : Heap) (hZ0 : n0 ≤ h.size) (p0 p1 p2 p3 p4 : Int64) (p5 : Int32) (k1 k2 k3 k4 : Int64) (t1 t2 t3 t4 t5 : Int32) (o aK aO aS aL aR : Addr) (D : own_D n0 o aK aO aS aL aR) (g1 : 0 ≤ k1.toInt) (g2 : 0 ≤ k2.toInt) (g3 : 0 ≤ k3.toInt) (g4 : 0 ≤ k4.toInt) (h5 : t5 ≠ 0 → t1 ≠ 0) (W : own_W Z h o aK aO aS aL aR 3 (own_opt t3 (own_opt t2 (own_opt t1 [] k1 1) k2 1) k3 1)) :
    Go K room_1 Z n0 code 29 (some .boolean) "com/example/lowtide/lowtide/compact/KeyedSumsAfterPinLaw" "law" (fun v _ => v = some (.int 1)) 6 88 h 155 #[.val (.long p0), .second, .val (.long p1), .second, .val (.long p2), .second, .val (.long p3), .second, .val (.long p4), .second, .val (.int p5), .val (.long k1), .second, .val (.long k2), .second, .val (.long k3), .second, .val (.long k4), .second, .val (.int t1), .val (.int t2), .val (.int t3), .val (.int t4), .val (.int t5), .val (.ref o), .unset, .unset, .unset, .unset] [] := by
  have WW := W
  have DD := D
  obtain ⟨kf, of, lf, rf, us, un, rt, ps, U, KK, T, ec, hus, hU, hlt, hun⟩ := W
  obtain ⟨g_o, g_aK, g_aO, g_aS, g_aL, g_aR, ne_o_aK, ne_o_aO, ne_o_aS, ne_o_aL, ne_o_aR, ne_aK_aO, ne_aK_aS, ne_aK_aL, ne_aK_aR, ne_aO_aS, ne_aO_aL, ne_aO_aR, ne_aS_aL, ne_aS_aR, ne_aL_aR⟩ := DD
  obtain ⟨sf, E_o, F_keys, F_own, F_sums, F_left, F_right, F_used, F_unused, F_root, A_aK, A_aO, A_aS, A_aL, A_aR⟩ := KK
  refine Own.iload (pc' := 157) at_155 rfl rfl ?_
  refine Own.if_eq (pc' := 168) (pc2 := 160) at_157 (by decide) (by decide) rfl (fun c157_1192 => ?_) (fun c157_1192 => ?_)
  · exact own_s168 Z a0 hw n0 K h hZ0 p0 p1 p2 p3 p4 p5 k1 k2 k3 k4 t1 t2 t3 t4 t5 o aK aO aS aL aR D g1 g2 g3 g4 h5 (WW.keep c157_1192)
  · refine Own.aload (pc' := 162) at_160 rfl rfl rfl ?_
    refine Own.lload (pc' := 164) at_162 rfl rfl ?_
    refine Own.lconst1 (pc' := 165) at_164 rfl ?_
    refine Own.virtual (pc' := 168) (y := (⟨"com/example/lowtide/lowtide/compact/KeyedSums", "add", "(JJ)V"⟩ : MethodName)) (rm' := ({ frames := 7, cells := 0, slots := 0, locals := 117 } : Room)) (W := 0) (as := [(.long k4), (.long (1 : Int64))]) (rest := []) (a := o) at_165 rfl (hw _ (List.mem_of_getElem? (i := 26) rfl)) (hw _ (List.mem_of_getElem? (i := 27) rfl)) (hw _ (List.mem_of_getElem? (i := 29) rfl)) (hw _ (List.mem_of_getElem? (i := 28) rfl)) (hw _ (List.mem_of_getElem? (i := 3) rfl)) (hw _ (List.mem_of_getElem? (i := 30) rfl)) (by decide) E_o (c_addV Z a0 hw n0 h hZ0 o k4 (1 : Int64) aK aO aS aL aR kf of lf rf us un rt ⟨g_o, g_aK, g_aO, g_aS, g_aL, g_aR, ne_o_aK, ne_o_aO, ne_o_aS, ne_o_aL, ne_o_aR, ne_aK_aO, ne_aK_aS, ne_aK_aL, ne_aK_aR, ne_aO_aS, ne_aO_aL, ne_aO_aR, ne_aS_aL, ne_aS_aR, ne_aL_aR⟩ ⟨_, E_o, F_keys, F_own, F_sums, F_left, F_right, F_used, F_unused, F_root, A_aK, A_aO, A_aS, A_aL, A_aR⟩ g4 (by decide) U ps T (by rw [ec]; exact (own_I.opt (t := t3) (k := k3) (by decide) (own_I.opt (t := t2) (k := k2) (by decide) (own_I.opt (t := t1) (k := k1) (by decide) own_I0))).1) (by omega) hus hlt hun (own_len ec (own_I.opt (t := t3) (k := k3) (by decide) (own_I.opt (t := t2) (k := k2) (by decide) (own_I.opt (t := t1) (k := k1) (by decide) own_I0))) (by decide))) rfl rfl (lenOf pd_9 rfl) (by decide) rfl (by decide) (by decide) (by decide) fun r1195 h1194 qh1194 => ?_
    obtain ⟨u1196, qs1197, kf1198, of1199, lf1200, rf1201, us1202, un1203, e2, Zh1194, Kh1194, AA⟩ := qh1194
    subst e2
    show Go K _ _ _ _ _ _ _ _ _ 6 88 h1194 168 #[.val (.long p0), .second, .val (.long p1), .second, .val (.long p2), .second, .val (.long p3), .second, .val (.long p4), .second, .val (.int p5), .val (.long k1), .second, .val (.long k2), .second, .val (.long k3), .second, .val (.long k4), .second, .val (.int t1), .val (.int t2), .val (.int t3), .val (.int t4), .val (.int t5), .val (.ref o), .unset, .unset, .unset, .unset] []
    exact own_s168 Z a0 hw n0 K h1194 Zh1194 p0 p1 p2 p3 p4 p5 k1 k2 k3 k4 t1 t2 t3 t4 t5 o aK aO aS aL aR D g1 g2 g3 g4 h5 (own_W_add (by decide) (own_I.opt (t := t3) (k := k3) (by decide) (own_I.opt (t := t2) (k := k2) (by decide) (own_I.opt (t := t1) (k := k1) (by decide) own_I0))) c157_1192 ec hus hU hlt hun Kh1194 AA)
set_option maxRecDepth 65536 in
set_option maxHeartbeats 40000000 in
theorem own_s142 (Z : State) (a0 : Array Value) (hw : ∀ d ∈ tables_1, d.before a0 Z = true) (n0 : Nat) (K : Ctx) (h : Heap) (hZ0 : n0 ≤ h.size) (p0 p1 p2 p3 p4 : Int64) (p5 : Int32) (k1 k2 k3 k4 : Int64) (t1 t2 t3 t4 t5 : Int32) (o aK aO aS aL aR : Addr) (D : own_D n0 o aK aO aS aL aR) (g1 : 0 ≤ k1.toInt) (g2 : 0 ≤ k2.toInt) (g3 : 0 ≤ k3.toInt) (g4 : 0 ≤ k4.toInt) (h5 : t5 ≠ 0 → t1 ≠ 0) (W : own_W Z h o aK aO aS aL aR 2 (own_opt t2 (own_opt t1 [] k1 1) k2 1)) :
    Go K room_1 Z n0 code 29 (some .boolean) "com/example/lowtide/lowtide/compact/KeyedSumsAfterPinLaw" "law" (fun v _ => v = some (.int 1)) 6 88 h 142 #[.val (.long p0), .second, .val (.long p1), .second, .val (.long p2), .second, .val (.long p3), .second, .val (.long p4), .second, .val (.int p5), .val (.long k1), .second, .val (.long k2), .second, .val (.long k3), .second, .val (.long k4), .second, .val (.int t1), .val (.int t2), .val (.int t3), .val (.int t4), .val (.int t5), .val (.ref o), .unset, .unset, .unset, .unset] [] := by
  have WW := W
  have DD := D
  obtain ⟨kf, of, lf, rf, us, un, rt, ps, U, KK, T, ec, hus, hU, hlt, hun⟩ := W
  obtain ⟨g_o, g_aK, g_aO, g_aS, g_aL, g_aR, ne_o_aK, ne_o_aO, ne_o_aS, ne_o_aL, ne_o_aR, ne_aK_aO, ne_aK_aS, ne_aK_aL, ne_aK_aR, ne_aO_aS, ne_aO_aL, ne_aO_aR, ne_aS_aL, ne_aS_aR, ne_aL_aR⟩ := DD
  obtain ⟨sf, E_o, F_keys, F_own, F_sums, F_left, F_right, F_used, F_unused, F_root, A_aK, A_aO, A_aS, A_aL, A_aR⟩ := KK
  refine Own.iload (pc' := 144) at_142 rfl rfl ?_
  refine Own.if_eq (pc' := 155) (pc2 := 147) at_144 (by decide) (by decide) rfl (fun c144_1203 => ?_) (fun c144_1203 => ?_)
  · exact own_s155 Z a0 hw n0 K h hZ0 p0 p1 p2 p3 p4 p5 k1 k2 k3 k4 t1 t2 t3 t4 t5 o aK aO aS aL aR D g1 g2 g3 g4 h5 (WW.keep c144_1203)
  · refine Own.aload (pc' := 149) at_147 rfl rfl rfl ?_
    refine Own.lload (pc' := 151) at_149 rfl rfl ?_
    refine Own.lconst1 (pc' := 152) at_151 rfl ?_
    refine Own.virtual (pc' := 155) (y := (⟨"com/example/lowtide/lowtide/compact/KeyedSums", "add", "(JJ)V"⟩ : MethodName)) (rm' := ({ frames := 7, cells := 0, slots := 0, locals := 117 } : Room)) (W := 0) (as := [(.long k3), (.long (1 : Int64))]) (rest := []) (a := o) at_152 rfl (hw _ (List.mem_of_getElem? (i := 26) rfl)) (hw _ (List.mem_of_getElem? (i := 27) rfl)) (hw _ (List.mem_of_getElem? (i := 29) rfl)) (hw _ (List.mem_of_getElem? (i := 28) rfl)) (hw _ (List.mem_of_getElem? (i := 3) rfl)) (hw _ (List.mem_of_getElem? (i := 30) rfl)) (by decide) E_o (c_addV Z a0 hw n0 h hZ0 o k3 (1 : Int64) aK aO aS aL aR kf of lf rf us un rt ⟨g_o, g_aK, g_aO, g_aS, g_aL, g_aR, ne_o_aK, ne_o_aO, ne_o_aS, ne_o_aL, ne_o_aR, ne_aK_aO, ne_aK_aS, ne_aK_aL, ne_aK_aR, ne_aO_aS, ne_aO_aL, ne_aO_aR, ne_aS_aL, ne_aS_aR, ne_aL_aR⟩ ⟨_, E_o, F_keys, F_own, F_sums, F_left, F_right, F_used, F_unused, F_root, A_aK, A_aO, A_aS, A_aL, A_aR⟩ g3 (by decide) U ps T (by rw [ec]; exact (own_I.opt (t := t2) (k := k2) (by decide) (own_I.opt (t := t1) (k := k1) (by decide) own_I0)).1) (by omega) hus hlt hun (own_len ec (own_I.opt (t := t2) (k := k2) (by decide) (own_I.opt (t := t1) (k := k1) (by decide) own_I0)) (by decide))) rfl rfl (lenOf pd_9 rfl) (by decide) rfl (by decide) (by decide) (by decide) fun r1206 h1205 qh1205 => ?_
    obtain ⟨u1207, qs1208, kf1209, of1210, lf1211, rf1212, us1213, un1214, e2, Zh1205, Kh1205, AA⟩ := qh1205
    subst e2
    show Go K _ _ _ _ _ _ _ _ _ 6 88 h1205 155 #[.val (.long p0), .second, .val (.long p1), .second, .val (.long p2), .second, .val (.long p3), .second, .val (.long p4), .second, .val (.int p5), .val (.long k1), .second, .val (.long k2), .second, .val (.long k3), .second, .val (.long k4), .second, .val (.int t1), .val (.int t2), .val (.int t3), .val (.int t4), .val (.int t5), .val (.ref o), .unset, .unset, .unset, .unset] []
    exact own_s155 Z a0 hw n0 K h1205 Zh1205 p0 p1 p2 p3 p4 p5 k1 k2 k3 k4 t1 t2 t3 t4 t5 o aK aO aS aL aR D g1 g2 g3 g4 h5 (own_W_add (by decide) (own_I.opt (t := t2) (k := k2) (by decide) (own_I.opt (t := t1) (k := k1) (by decide) own_I0)) c144_1203 ec hus hU hlt hun Kh1205 AA)
set_option maxRecDepth 65536 in
set_option maxHeartbeats 40000000 in
theorem own_s129 (Z : State) (a0 : Array Value) (hw : ∀ d ∈ tables_1, d.before a0 Z = true) (n0 : Nat) (K : Ctx) (h : Heap) (hZ0 : n0 ≤ h.size) (p0 p1 p2 p3 p4 : Int64) (p5 : Int32) (k1 k2 k3 k4 : Int64) (t1 t2 t3 t4 t5 : Int32) (o aK aO aS aL aR : Addr) (D : own_D n0 o aK aO aS aL aR) (g1 : 0 ≤ k1.toInt) (g2 : 0 ≤ k2.toInt) (g3 : 0 ≤ k3.toInt) (g4 : 0 ≤ k4.toInt) (h5 : t5 ≠ 0 → t1 ≠ 0) (W : own_W Z h o aK aO aS aL aR 1 (own_opt t1 [] k1 1)) :
    Go K room_1 Z n0 code 29 (some .boolean) "com/example/lowtide/lowtide/compact/KeyedSumsAfterPinLaw" "law" (fun v _ => v = some (.int 1)) 6 88 h 129 #[.val (.long p0), .second, .val (.long p1), .second, .val (.long p2), .second, .val (.long p3), .second, .val (.long p4), .second, .val (.int p5), .val (.long k1), .second, .val (.long k2), .second, .val (.long k3), .second, .val (.long k4), .second, .val (.int t1), .val (.int t2), .val (.int t3), .val (.int t4), .val (.int t5), .val (.ref o), .unset, .unset, .unset, .unset] [] := by
  have WW := W
  have DD := D
  obtain ⟨kf, of, lf, rf, us, un, rt, ps, U, KK, T, ec, hus, hU, hlt, hun⟩ := W
  obtain ⟨g_o, g_aK, g_aO, g_aS, g_aL, g_aR, ne_o_aK, ne_o_aO, ne_o_aS, ne_o_aL, ne_o_aR, ne_aK_aO, ne_aK_aS, ne_aK_aL, ne_aK_aR, ne_aO_aS, ne_aO_aL, ne_aO_aR, ne_aS_aL, ne_aS_aR, ne_aL_aR⟩ := DD
  obtain ⟨sf, E_o, F_keys, F_own, F_sums, F_left, F_right, F_used, F_unused, F_root, A_aK, A_aO, A_aS, A_aL, A_aR⟩ := KK
  refine Own.iload (pc' := 131) at_129 rfl rfl ?_
  refine Own.if_eq (pc' := 142) (pc2 := 134) at_131 (by decide) (by decide) rfl (fun c131_1214 => ?_) (fun c131_1214 => ?_)
  · exact own_s142 Z a0 hw n0 K h hZ0 p0 p1 p2 p3 p4 p5 k1 k2 k3 k4 t1 t2 t3 t4 t5 o aK aO aS aL aR D g1 g2 g3 g4 h5 (WW.keep c131_1214)
  · refine Own.aload (pc' := 136) at_134 rfl rfl rfl ?_
    refine Own.lload (pc' := 138) at_136 rfl rfl ?_
    refine Own.lconst1 (pc' := 139) at_138 rfl ?_
    refine Own.virtual (pc' := 142) (y := (⟨"com/example/lowtide/lowtide/compact/KeyedSums", "add", "(JJ)V"⟩ : MethodName)) (rm' := ({ frames := 7, cells := 0, slots := 0, locals := 117 } : Room)) (W := 0) (as := [(.long k2), (.long (1 : Int64))]) (rest := []) (a := o) at_139 rfl (hw _ (List.mem_of_getElem? (i := 26) rfl)) (hw _ (List.mem_of_getElem? (i := 27) rfl)) (hw _ (List.mem_of_getElem? (i := 29) rfl)) (hw _ (List.mem_of_getElem? (i := 28) rfl)) (hw _ (List.mem_of_getElem? (i := 3) rfl)) (hw _ (List.mem_of_getElem? (i := 30) rfl)) (by decide) E_o (c_addV Z a0 hw n0 h hZ0 o k2 (1 : Int64) aK aO aS aL aR kf of lf rf us un rt ⟨g_o, g_aK, g_aO, g_aS, g_aL, g_aR, ne_o_aK, ne_o_aO, ne_o_aS, ne_o_aL, ne_o_aR, ne_aK_aO, ne_aK_aS, ne_aK_aL, ne_aK_aR, ne_aO_aS, ne_aO_aL, ne_aO_aR, ne_aS_aL, ne_aS_aR, ne_aL_aR⟩ ⟨_, E_o, F_keys, F_own, F_sums, F_left, F_right, F_used, F_unused, F_root, A_aK, A_aO, A_aS, A_aL, A_aR⟩ g2 (by decide) U ps T (by rw [ec]; exact (own_I.opt (t := t1) (k := k1) (by decide) own_I0).1) (by omega) hus hlt hun (own_len ec (own_I.opt (t := t1) (k := k1) (by decide) own_I0) (by decide))) rfl rfl (lenOf pd_9 rfl) (by decide) rfl (by decide) (by decide) (by decide) fun r1217 h1216 qh1216 => ?_
    obtain ⟨u1218, qs1219, kf1220, of1221, lf1222, rf1223, us1224, un1225, e2, Zh1216, Kh1216, AA⟩ := qh1216
    subst e2
    show Go K _ _ _ _ _ _ _ _ _ 6 88 h1216 142 #[.val (.long p0), .second, .val (.long p1), .second, .val (.long p2), .second, .val (.long p3), .second, .val (.long p4), .second, .val (.int p5), .val (.long k1), .second, .val (.long k2), .second, .val (.long k3), .second, .val (.long k4), .second, .val (.int t1), .val (.int t2), .val (.int t3), .val (.int t4), .val (.int t5), .val (.ref o), .unset, .unset, .unset, .unset] []
    exact own_s142 Z a0 hw n0 K h1216 Zh1216 p0 p1 p2 p3 p4 p5 k1 k2 k3 k4 t1 t2 t3 t4 t5 o aK aO aS aL aR D g1 g2 g3 g4 h5 (own_W_add (by decide) (own_I.opt (t := t1) (k := k1) (by decide) own_I0) c131_1214 ec hus hU hlt hun Kh1216 AA)
set_option maxRecDepth 65536 in
set_option maxHeartbeats 40000000 in
theorem own_s116 (Z : State) (a0 : Array Value) (hw : ∀ d ∈ tables_1, d.before a0 Z = true) (n0 : Nat) (K : Ctx) (h : Heap) (hZ0 : n0 ≤ h.size) (p0 p1 p2 p3 p4 : Int64) (p5 : Int32) (k1 k2 k3 k4 : Int64) (t1 t2 t3 t4 t5 : Int32) (o aK aO aS aL aR : Addr) (D : own_D n0 o aK aO aS aL aR) (g1 : 0 ≤ k1.toInt) (g2 : 0 ≤ k2.toInt) (g3 : 0 ≤ k3.toInt) (g4 : 0 ≤ k4.toInt) (h5 : t5 ≠ 0 → t1 ≠ 0) (W : own_W Z h o aK aO aS aL aR 0 []) :
    Go K room_1 Z n0 code 29 (some .boolean) "com/example/lowtide/lowtide/compact/KeyedSumsAfterPinLaw" "law" (fun v _ => v = some (.int 1)) 6 88 h 116 #[.val (.long p0), .second, .val (.long p1), .second, .val (.long p2), .second, .val (.long p3), .second, .val (.long p4), .second, .val (.int p5), .val (.long k1), .second, .val (.long k2), .second, .val (.long k3), .second, .val (.long k4), .second, .val (.int t1), .val (.int t2), .val (.int t3), .val (.int t4), .val (.int t5), .val (.ref o), .unset, .unset, .unset, .unset] [] := by
  have WW := W
  have DD := D
  obtain ⟨kf, of, lf, rf, us, un, rt, ps, U, KK, T, ec, hus, hU, hlt, hun⟩ := W
  obtain ⟨g_o, g_aK, g_aO, g_aS, g_aL, g_aR, ne_o_aK, ne_o_aO, ne_o_aS, ne_o_aL, ne_o_aR, ne_aK_aO, ne_aK_aS, ne_aK_aL, ne_aK_aR, ne_aO_aS, ne_aO_aL, ne_aO_aR, ne_aS_aL, ne_aS_aR, ne_aL_aR⟩ := DD
  obtain ⟨sf, E_o, F_keys, F_own, F_sums, F_left, F_right, F_used, F_unused, F_root, A_aK, A_aO, A_aS, A_aL, A_aR⟩ := KK
  refine Own.iload (pc' := 118) at_116 rfl rfl ?_
  refine Own.if_eq (pc' := 129) (pc2 := 121) at_118 (by decide) (by decide) rfl (fun c118_1225 => ?_) (fun c118_1225 => ?_)
  · exact own_s129 Z a0 hw n0 K h hZ0 p0 p1 p2 p3 p4 p5 k1 k2 k3 k4 t1 t2 t3 t4 t5 o aK aO aS aL aR D g1 g2 g3 g4 h5 (WW.keep c118_1225)
  · refine Own.aload (pc' := 123) at_121 rfl rfl rfl ?_
    refine Own.lload (pc' := 125) at_123 rfl rfl ?_
    refine Own.lconst1 (pc' := 126) at_125 rfl ?_
    refine Own.virtual (pc' := 129) (y := (⟨"com/example/lowtide/lowtide/compact/KeyedSums", "add", "(JJ)V"⟩ : MethodName)) (rm' := ({ frames := 7, cells := 0, slots := 0, locals := 117 } : Room)) (W := 0) (as := [(.long k1), (.long (1 : Int64))]) (rest := []) (a := o) at_126 rfl (hw _ (List.mem_of_getElem? (i := 26) rfl)) (hw _ (List.mem_of_getElem? (i := 27) rfl)) (hw _ (List.mem_of_getElem? (i := 29) rfl)) (hw _ (List.mem_of_getElem? (i := 28) rfl)) (hw _ (List.mem_of_getElem? (i := 3) rfl)) (hw _ (List.mem_of_getElem? (i := 30) rfl)) (by decide) E_o (c_addV Z a0 hw n0 h hZ0 o k1 (1 : Int64) aK aO aS aL aR kf of lf rf us un rt ⟨g_o, g_aK, g_aO, g_aS, g_aL, g_aR, ne_o_aK, ne_o_aO, ne_o_aS, ne_o_aL, ne_o_aR, ne_aK_aO, ne_aK_aS, ne_aK_aL, ne_aK_aR, ne_aO_aS, ne_aO_aL, ne_aO_aR, ne_aS_aL, ne_aS_aR, ne_aL_aR⟩ ⟨_, E_o, F_keys, F_own, F_sums, F_left, F_right, F_used, F_unused, F_root, A_aK, A_aO, A_aS, A_aL, A_aR⟩ g1 (by decide) U ps T (by rw [ec]; exact own_I0.1) (by omega) hus hlt hun (own_len ec own_I0 (by decide))) rfl rfl (lenOf pd_9 rfl) (by decide) rfl (by decide) (by decide) (by decide) fun r1228 h1227 qh1227 => ?_
    obtain ⟨u1229, qs1230, kf1231, of1232, lf1233, rf1234, us1235, un1236, e2, Zh1227, Kh1227, AA⟩ := qh1227
    subst e2
    show Go K _ _ _ _ _ _ _ _ _ 6 88 h1227 129 #[.val (.long p0), .second, .val (.long p1), .second, .val (.long p2), .second, .val (.long p3), .second, .val (.long p4), .second, .val (.int p5), .val (.long k1), .second, .val (.long k2), .second, .val (.long k3), .second, .val (.long k4), .second, .val (.int t1), .val (.int t2), .val (.int t3), .val (.int t4), .val (.int t5), .val (.ref o), .unset, .unset, .unset, .unset] []
    exact own_s129 Z a0 hw n0 K h1227 Zh1227 p0 p1 p2 p3 p4 p5 k1 k2 k3 k4 t1 t2 t3 t4 t5 o aK aO aS aL aR D g1 g2 g3 g4 h5 (own_W_add (by decide) own_I0 c118_1225 ec hus hU hlt hun Kh1227 AA)
set_option maxRecDepth 65536 in
set_option maxHeartbeats 40000000 in
theorem own_law (l : Launch) (Z : State) (a0 : Array Value) (hw : ∀ d ∈ tables_1, d.before a0 Z = true) (ws : List Jvm.Cond) (n0 : Nat) (h : Heap) (hZ0 : n0 ≤ h.size) (p0 : Int64) (p1 : Int64) (p2 : Int64) (p3 : Int64) (p4 : Int64) (p5 : Int32)  :
    MetFree l x (head1 (Jvm.Cond.code x code maxLocals ret :: ws) room_1) (fun a U => a = #[(.long p0), (.long p1), (.long p2), (.long p3), (.long p4), (.int p5)] ∧ Z.Warmed39 U.vm ∧ U.heap = h) (fun _ _ _ _ _ => True) (fun _ U o U' => ∃ v L, o = .returned v ∧ ((fun v _ => v = some (.int 1)) v U'.heap ∧ Fr n0 L) ∧ FrameEnd U o U' L room_1.cells room_1.slots) := by
  refine Own.enterW (Q := fun v _ => v = some (.int 1)) (plainFor_of_name pn_1) (L0 := #[.val (.long p0), .second, .val (.long p1), .second, .val (.long p2), .second, .val (.long p3), .second, .val (.long p4), .second, .val (.int p5), .unset, .unset, .unset, .unset, .unset, .unset, .unset, .unset, .unset, .unset, .unset, .unset, .unset, .unset, .unset, .unset, .unset, .unset]) (fun m => by first | (simp [entryFrame, mkF, argsToLocals, Value.category, maxLocals]; done) | rfl) fun K => ?_
  show Go K _ _ _ code 29 (some .boolean) "com/example/lowtide/lowtide/compact/KeyedSumsAfterPinLaw" "law" _ 0 0 h 0 #[.val (.long p0), .second, .val (.long p1), .second, .val (.long p2), .second, .val (.long p3), .second, .val (.long p4), .second, .val (.int p5), .unset, .unset, .unset, .unset, .unset, .unset, .unset, .unset, .unset, .unset, .unset, .unset, .unset, .unset, .unset, .unset, .unset, .unset] []
  refine Own.lloadN (pc' := 1) at_0 rfl rfl ?_
  refine Own.ldc2Long (pc' := 4) (v := (9223372036854775807 : Int64)) at_1 (hw _ (List.mem_of_getElem? (i := 0) rfl)) rfl ?_
  refine Own.land (pc' := 5) at_4 rfl fun v1237 hv1237 => ?_
  refine Own.lstore (pc' := 7) (L1 := #[.val (.long p0), .second, .val (.long p1), .second, .val (.long p2), .second, .val (.long p3), .second, .val (.long p4), .second, .val (.int p5), .val (.long v1237), .second, .unset, .unset, .unset, .unset, .unset, .unset, .unset, .unset, .unset, .unset, .unset, .unset, .unset, .unset, .unset, .unset]) at_5 rfl rfl ?_
  refine Own.lloadN (pc' := 8) at_7 rfl rfl ?_
  refine Own.ldc2Long (pc' := 11) (v := (9223372036854775807 : Int64)) at_8 (hw _ (List.mem_of_getElem? (i := 0) rfl)) rfl ?_
  refine Own.land (pc' := 12) at_11 rfl fun v1238 hv1238 => ?_
  refine Own.lstore (pc' := 14) (L1 := #[.val (.long p0), .second, .val (.long p1), .second, .val (.long p2), .second, .val (.long p3), .second, .val (.long p4), .second, .val (.int p5), .val (.long v1237), .second, .val (.long v1238), .second, .unset, .unset, .unset, .unset, .unset, .unset, .unset, .unset, .unset, .unset, .unset, .unset, .unset, .unset]) at_12 rfl rfl ?_
  refine Own.lload (pc' := 16) at_14 rfl rfl ?_
  refine Own.ldc2Long (pc' := 19) (v := (9223372036854775807 : Int64)) at_16 (hw _ (List.mem_of_getElem? (i := 0) rfl)) rfl ?_
  refine Own.land (pc' := 20) at_19 rfl fun v1239 hv1239 => ?_
  refine Own.lstore (pc' := 22) (L1 := #[.val (.long p0), .second, .val (.long p1), .second, .val (.long p2), .second, .val (.long p3), .second, .val (.long p4), .second, .val (.int p5), .val (.long v1237), .second, .val (.long v1238), .second, .val (.long v1239), .second, .unset, .unset, .unset, .unset, .unset, .unset, .unset, .unset, .unset, .unset, .unset, .unset]) at_20 rfl rfl ?_
  refine Own.lload (pc' := 24) at_22 rfl rfl ?_
  refine Own.ldc2Long (pc' := 27) (v := (9223372036854775807 : Int64)) at_24 (hw _ (List.mem_of_getElem? (i := 0) rfl)) rfl ?_
  refine Own.land (pc' := 28) at_27 rfl fun v1240 hv1240 => ?_
  refine Own.lstore (pc' := 30) (L1 := #[.val (.long p0), .second, .val (.long p1), .second, .val (.long p2), .second, .val (.long p3), .second, .val (.long p4), .second, .val (.int p5), .val (.long v1237), .second, .val (.long v1238), .second, .val (.long v1239), .second, .val (.long v1240), .second, .unset, .unset, .unset, .unset, .unset, .unset, .unset, .unset, .unset, .unset]) at_28 rfl rfl ?_
  refine Own.iload (pc' := 32) at_30 rfl rfl ?_
  refine Own.iconst (pc' := 33) (v := (1 : Int32)) at_32 (by decide) rfl ?_
  refine Own.iand (pc' := 34) at_33 rfl fun v1241 hv1241 => ?_
  obtain ⟨w1243, hw1243⟩ : ∃ w : Int32, w = (if v1241 = 0 then (0 : Int32) else (1 : Int32)) := ⟨_, rfl⟩
  refine Own.join (pc2 := 42) (L2 := #[.val (.long p0), .second, .val (.long p1), .second, .val (.long p2), .second, .val (.long p3), .second, .val (.long p4), .second, .val (.int p5), .val (.long v1237), .second, .val (.long v1238), .second, .val (.long v1239), .second, .val (.long v1240), .second, .unset, .unset, .unset, .unset, .unset, .unset, .unset, .unset, .unset, .unset]) (S2 := [(.int w1243)]) (fun J1244 => ?_) ?_
  · refine Own.if_eq (pc' := 41) (pc2 := 37) at_34 (by decide) (by decide) rfl (fun c34_1241 => ?_) (fun c34_1241 => ?_)
    · refine Own.iconst (pc' := 42) (v := (0 : Int32)) at_41 (by decide) rfl ?_
      try rw [if_pos c34_1241] at hw1243
      subst hw1243
      exact J1244
    · refine Own.iconst (pc' := 38) (v := (1 : Int32)) at_37 (by decide) rfl ?_
      refine Own.goto (pc' := 42) at_38 (by decide) (by decide) ?_
      try rw [if_neg c34_1241] at hw1243
      subst hw1243
      exact J1244
  refine Own.istore (pc' := 44) (L1 := #[.val (.long p0), .second, .val (.long p1), .second, .val (.long p2), .second, .val (.long p3), .second, .val (.long p4), .second, .val (.int p5), .val (.long v1237), .second, .val (.long v1238), .second, .val (.long v1239), .second, .val (.long v1240), .second, .val (.int w1243), .unset, .unset, .unset, .unset, .unset, .unset, .unset, .unset, .unset]) at_42 rfl rfl ?_
  refine Own.iload (pc' := 46) at_44 rfl rfl ?_
  refine Own.iconst (pc' := 47) (v := (2 : Int32)) at_46 (by decide) rfl ?_
  refine Own.iand (pc' := 48) at_47 rfl fun v1245 hv1245 => ?_
  obtain ⟨w1247, hw1247⟩ : ∃ w : Int32, w = (if v1245 = 0 then (0 : Int32) else (1 : Int32)) := ⟨_, rfl⟩
  refine Own.join (pc2 := 56) (L2 := #[.val (.long p0), .second, .val (.long p1), .second, .val (.long p2), .second, .val (.long p3), .second, .val (.long p4), .second, .val (.int p5), .val (.long v1237), .second, .val (.long v1238), .second, .val (.long v1239), .second, .val (.long v1240), .second, .val (.int w1243), .unset, .unset, .unset, .unset, .unset, .unset, .unset, .unset, .unset]) (S2 := [(.int w1247)]) (fun J1248 => ?_) ?_
  · refine Own.if_eq (pc' := 55) (pc2 := 51) at_48 (by decide) (by decide) rfl (fun c48_1245 => ?_) (fun c48_1245 => ?_)
    · refine Own.iconst (pc' := 56) (v := (0 : Int32)) at_55 (by decide) rfl ?_
      try rw [if_pos c48_1245] at hw1247
      subst hw1247
      exact J1248
    · refine Own.iconst (pc' := 52) (v := (1 : Int32)) at_51 (by decide) rfl ?_
      refine Own.goto (pc' := 56) at_52 (by decide) (by decide) ?_
      try rw [if_neg c48_1245] at hw1247
      subst hw1247
      exact J1248
  refine Own.istore (pc' := 58) (L1 := #[.val (.long p0), .second, .val (.long p1), .second, .val (.long p2), .second, .val (.long p3), .second, .val (.long p4), .second, .val (.int p5), .val (.long v1237), .second, .val (.long v1238), .second, .val (.long v1239), .second, .val (.long v1240), .second, .val (.int w1243), .val (.int w1247), .unset, .unset, .unset, .unset, .unset, .unset, .unset, .unset]) at_56 rfl rfl ?_
  refine Own.iload (pc' := 60) at_58 rfl rfl ?_
  refine Own.iconst (pc' := 61) (v := (4 : Int32)) at_60 (by decide) rfl ?_
  refine Own.iand (pc' := 62) at_61 rfl fun v1249 hv1249 => ?_
  obtain ⟨w1251, hw1251⟩ : ∃ w : Int32, w = (if v1249 = 0 then (0 : Int32) else (1 : Int32)) := ⟨_, rfl⟩
  refine Own.join (pc2 := 70) (L2 := #[.val (.long p0), .second, .val (.long p1), .second, .val (.long p2), .second, .val (.long p3), .second, .val (.long p4), .second, .val (.int p5), .val (.long v1237), .second, .val (.long v1238), .second, .val (.long v1239), .second, .val (.long v1240), .second, .val (.int w1243), .val (.int w1247), .unset, .unset, .unset, .unset, .unset, .unset, .unset, .unset]) (S2 := [(.int w1251)]) (fun J1252 => ?_) ?_
  · refine Own.if_eq (pc' := 69) (pc2 := 65) at_62 (by decide) (by decide) rfl (fun c62_1249 => ?_) (fun c62_1249 => ?_)
    · refine Own.iconst (pc' := 70) (v := (0 : Int32)) at_69 (by decide) rfl ?_
      try rw [if_pos c62_1249] at hw1251
      subst hw1251
      exact J1252
    · refine Own.iconst (pc' := 66) (v := (1 : Int32)) at_65 (by decide) rfl ?_
      refine Own.goto (pc' := 70) at_66 (by decide) (by decide) ?_
      try rw [if_neg c62_1249] at hw1251
      subst hw1251
      exact J1252
  refine Own.istore (pc' := 72) (L1 := #[.val (.long p0), .second, .val (.long p1), .second, .val (.long p2), .second, .val (.long p3), .second, .val (.long p4), .second, .val (.int p5), .val (.long v1237), .second, .val (.long v1238), .second, .val (.long v1239), .second, .val (.long v1240), .second, .val (.int w1243), .val (.int w1247), .val (.int w1251), .unset, .unset, .unset, .unset, .unset, .unset, .unset]) at_70 rfl rfl ?_
  refine Own.iload (pc' := 74) at_72 rfl rfl ?_
  refine Own.bipush (pc' := 76) (v := (8 : Int32)) at_74 (by decide) rfl ?_
  refine Own.iand (pc' := 77) at_76 rfl fun v1253 hv1253 => ?_
  obtain ⟨w1255, hw1255⟩ : ∃ w : Int32, w = (if v1253 = 0 then (0 : Int32) else (1 : Int32)) := ⟨_, rfl⟩
  refine Own.join (pc2 := 85) (L2 := #[.val (.long p0), .second, .val (.long p1), .second, .val (.long p2), .second, .val (.long p3), .second, .val (.long p4), .second, .val (.int p5), .val (.long v1237), .second, .val (.long v1238), .second, .val (.long v1239), .second, .val (.long v1240), .second, .val (.int w1243), .val (.int w1247), .val (.int w1251), .unset, .unset, .unset, .unset, .unset, .unset, .unset]) (S2 := [(.int w1255)]) (fun J1256 => ?_) ?_
  · refine Own.if_eq (pc' := 84) (pc2 := 80) at_77 (by decide) (by decide) rfl (fun c77_1253 => ?_) (fun c77_1253 => ?_)
    · refine Own.iconst (pc' := 85) (v := (0 : Int32)) at_84 (by decide) rfl ?_
      try rw [if_pos c77_1253] at hw1255
      subst hw1255
      exact J1256
    · refine Own.iconst (pc' := 81) (v := (1 : Int32)) at_80 (by decide) rfl ?_
      refine Own.goto (pc' := 85) at_81 (by decide) (by decide) ?_
      try rw [if_neg c77_1253] at hw1255
      subst hw1255
      exact J1256
  refine Own.istore (pc' := 87) (L1 := #[.val (.long p0), .second, .val (.long p1), .second, .val (.long p2), .second, .val (.long p3), .second, .val (.long p4), .second, .val (.int p5), .val (.long v1237), .second, .val (.long v1238), .second, .val (.long v1239), .second, .val (.long v1240), .second, .val (.int w1243), .val (.int w1247), .val (.int w1251), .val (.int w1255), .unset, .unset, .unset, .unset, .unset, .unset]) at_85 rfl rfl ?_
  refine Own.iload (pc' := 89) at_87 rfl rfl ?_
  obtain ⟨w1262, hw1262⟩ : ∃ w : Int32, w = (if w1243 = 0 then (0 : Int32) else (if (p5 &&& (16 : Int32)) = 0 then (0 : Int32) else (1 : Int32))) := ⟨_, rfl⟩
  refine Own.join (pc2 := 105) (L2 := #[.val (.long p0), .second, .val (.long p1), .second, .val (.long p2), .second, .val (.long p3), .second, .val (.long p4), .second, .val (.int p5), .val (.long v1237), .second, .val (.long v1238), .second, .val (.long v1239), .second, .val (.long v1240), .second, .val (.int w1243), .val (.int w1247), .val (.int w1251), .val (.int w1255), .unset, .unset, .unset, .unset, .unset, .unset]) (S2 := [(.int w1262)]) (fun J1263 => ?_) ?_
  · refine Own.if_eq (pc' := 104) (pc2 := 92) at_89 (by decide) (by decide) rfl (fun c89_1256 => ?_) (fun c89_1256 => ?_)
    · refine Own.iconst (pc' := 105) (v := (0 : Int32)) at_104 (by decide) rfl ?_
      try rw [if_pos c89_1256] at hw1262
      subst hw1262
      exact J1263
    · refine Own.iload (pc' := 94) at_92 rfl rfl ?_
      refine Own.bipush (pc' := 96) (v := (16 : Int32)) at_94 (by decide) rfl ?_
      refine Own.iand (pc' := 97) at_96 rfl fun v1264 hv1264 => ?_
      obtain ⟨w1266, hw1266⟩ : ∃ w : Int32, w = (if v1264 = 0 then (0 : Int32) else (1 : Int32)) := ⟨_, rfl⟩
      refine Own.join (pc2 := 105) (L2 := #[.val (.long p0), .second, .val (.long p1), .second, .val (.long p2), .second, .val (.long p3), .second, .val (.long p4), .second, .val (.int p5), .val (.long v1237), .second, .val (.long v1238), .second, .val (.long v1239), .second, .val (.long v1240), .second, .val (.int w1243), .val (.int w1247), .val (.int w1251), .val (.int w1255), .unset, .unset, .unset, .unset, .unset, .unset]) (S2 := [(.int w1266)]) (fun J1267 => ?_) ?_
      · refine Own.if_eq (pc' := 104) (pc2 := 100) at_97 (by decide) (by decide) rfl (fun c97_1264 => ?_) (fun c97_1264 => ?_)
        · refine Own.iconst (pc' := 105) (v := (0 : Int32)) at_104 (by decide) rfl ?_
          try rw [if_pos c97_1264] at hw1266
          subst hw1266
          exact J1267
        · refine Own.iconst (pc' := 101) (v := (1 : Int32)) at_100 (by decide) rfl ?_
          refine Own.goto (pc' := 105) at_101 (by decide) (by decide) ?_
          try rw [if_neg c97_1264] at hw1266
          subst hw1266
          exact J1267
      subst hv1264 hw1266
      try rw [if_neg c89_1256] at hw1262
      subst hw1262
      exact J1263
  refine Own.istore (pc' := 107) (L1 := #[.val (.long p0), .second, .val (.long p1), .second, .val (.long p2), .second, .val (.long p3), .second, .val (.long p4), .second, .val (.int p5), .val (.long v1237), .second, .val (.long v1238), .second, .val (.long v1239), .second, .val (.long v1240), .second, .val (.int w1243), .val (.int w1247), .val (.int w1251), .val (.int w1255), .val (.int w1262), .unset, .unset, .unset, .unset, .unset]) at_105 rfl rfl ?_
  refine Own.newobj (pc' := 110) at_107 rfl (hw _ (List.mem_of_getElem? (i := 1) rfl)) (hw _ (List.mem_of_getElem? (i := 2) rfl)) (hw _ (List.mem_of_getElem? (i := 3) rfl)) (by decide) (by decide) fun a1268 h1269 ga1268 Eh1269 Xa1268 Da1268 => ?_
  have Ga1268 : n0 ≤ a1268 := by rw [ga1268]; exact hZ0
  have Zh1269 : n0 ≤ h1269.size := Nat.le_trans hZ0 Eh1269.1
  have F_keys_a1268 : Fld Z h1269 a1268 "com/example/lowtide/lowtide/compact/KeyedSums" "keys" "[J" .null := Da1268 (Or.inl (hw _ (List.mem_of_getElem? (i := 12) rfl))) (ty := (.array .long)) (by decide)
  have F_own_a1268 : Fld Z h1269 a1268 "com/example/lowtide/lowtide/compact/KeyedSums" "own" "[J" .null := Da1268 (Or.inl (hw _ (List.mem_of_getElem? (i := 14) rfl))) (ty := (.array .long)) (by decide)
  have F_sums_a1268 : Fld Z h1269 a1268 "com/example/lowtide/lowtide/compact/KeyedSums" "sums" "[J" .null := Da1268 (Or.inl (hw _ (List.mem_of_getElem? (i := 16) rfl))) (ty := (.array .long)) (by decide)
  have F_left_a1268 : Fld Z h1269 a1268 "com/example/lowtide/lowtide/compact/KeyedSums" "left" "[I" .null := Da1268 (Or.inl (hw _ (List.mem_of_getElem? (i := 19) rfl))) (ty := (.array .int)) (by decide)
  have F_right_a1268 : Fld Z h1269 a1268 "com/example/lowtide/lowtide/compact/KeyedSums" "right" "[I" .null := Da1268 (Or.inl (hw _ (List.mem_of_getElem? (i := 21) rfl))) (ty := (.array .int)) (by decide)
  have F_unused_a1268 : Fld Z h1269 a1268 "com/example/lowtide/lowtide/compact/KeyedSums" "unused" "I" (.int (0 : Int32)) := Da1268 (Or.inl (hw _ (List.mem_of_getElem? (i := 23) rfl))) (ty := .int) (by decide)
  have F_root_a1268 : Fld Z h1269 a1268 "com/example/lowtide/lowtide/compact/KeyedSums" "root" "I" (.int (0 : Int32)) := Da1268 (Or.inl (hw _ (List.mem_of_getElem? (i := 25) rfl))) (ty := .int) (by decide)
  have F_used_a1268 : Fld Z h1269 a1268 "com/example/lowtide/lowtide/compact/KeyedSums" "used" "I" (.int (0 : Int32)) := Da1268 (Or.inl (hw _ (List.mem_of_getElem? (i := 40) rfl))) (ty := .int) (by decide)
  show Go K _ _ _ _ _ _ _ _ _ 1 8 h1269 110 #[.val (.long p0), .second, .val (.long p1), .second, .val (.long p2), .second, .val (.long p3), .second, .val (.long p4), .second, .val (.int p5), .val (.long v1237), .second, .val (.long v1238), .second, .val (.long v1239), .second, .val (.long v1240), .second, .val (.int w1243), .val (.int w1247), .val (.int w1251), .val (.int w1255), .val (.int w1262), .unset, .unset, .unset, .unset, .unset] [(.ref a1268)]
  refine Own.dup (pc' := 111) at_110 rfl rfl ?_
  refine Own.special (pc' := 114) (y := (⟨"com/example/lowtide/lowtide/compact/KeyedSums", "<init>", "()V"⟩ : MethodName)) (rm' := ({ frames := 1, cells := 5, slots := 80, locals := 12 } : Room)) (W := 1) (as := []) (rest := [(.ref a1268)]) (a := a1268) at_111 rfl rfl (hw _ (List.mem_of_getElem? (i := 4) rfl)) (hw _ (List.mem_of_getElem? (i := 5) rfl)) (hw _ (List.mem_of_getElem? (i := 3) rfl)) (hw _ (List.mem_of_getElem? (i := 6) rfl)) (by decide) (c_init Z a0 hw n0 h1269 Zh1269 a1268 Xa1268 F_keys_a1268 F_own_a1268 F_sums_a1268 F_left_a1268 F_right_a1268 F_used_a1268 F_unused_a1268 F_root_a1268 Ga1268) rfl rfl (lenOf pd_10 rfl) (by decide) rfl (by decide) (by decide) (by decide) fun r1271 h1270 qh1270 => ?_
  obtain ⟨aK, aO, aS, aL, aR, e2, Zh1270, DD, KK⟩ := qh1270
  subst e2
  show Go K _ _ _ _ _ _ _ _ _ 6 88 h1270 114 #[.val (.long p0), .second, .val (.long p1), .second, .val (.long p2), .second, .val (.long p3), .second, .val (.long p4), .second, .val (.int p5), .val (.long v1237), .second, .val (.long v1238), .second, .val (.long v1239), .second, .val (.long v1240), .second, .val (.int w1243), .val (.int w1247), .val (.int w1251), .val (.int w1255), .val (.int w1262), .unset, .unset, .unset, .unset, .unset] [(.ref a1268)]
  refine Own.astore (pc' := 116) (L1 := #[.val (.long p0), .second, .val (.long p1), .second, .val (.long p2), .second, .val (.long p3), .second, .val (.long p4), .second, .val (.int p5), .val (.long v1237), .second, .val (.long v1238), .second, .val (.long v1239), .second, .val (.long v1240), .second, .val (.int w1243), .val (.int w1247), .val (.int w1251), .val (.int w1255), .val (.int w1262), .val (.ref a1268), .unset, .unset, .unset, .unset]) at_114 rfl rfl rfl ?_
  have hD : own_D n0 a1268 aK aO aS aL aR := DD
  exact own_s116 Z a0 hw n0 K h1270 Zh1270 p0 p1 p2 p3 p4 p5 v1237 v1238 v1239 v1240 w1243 w1247 w1251 w1255 w1262 a1268 aK aO aS aL aR hD (hv1237 ▸ own_mask p0) (hv1238 ▸ own_mask p1) (hv1239 ▸ own_mask p2) (hv1240 ▸ own_mask p3) (fun q e => q (by rw [hw1262, if_pos e])) ⟨_, _, _, _, _, _, _, [], 0, KK, own_T0, rfl, rfl, Nat.le_refl 0, (fun _ hp => by cases hp), rfl⟩
set_option maxRecDepth 65536 in
set_option maxHeartbeats 40000000 in
theorem comes_1 {Post : Tables → Env → Array Value → State → Outcome → State → Prop} (hpost : ∀ tb e args s v u, (limb_1_1.after args s (.returned v) u = true ∧ limb_1_2.after args s (.returned v) u = true ∧ True) → FrameEnd s (.returned v) u (Jvm.fieldLocs frame_1_writes args s ++ Jvm.arrayLocs frame_1_arrays args s ++ Jvm.staticLocs frame_1_statics s) 24 256 → Post tb e args s (.returned v) u) :
    ArmFor flags0 classFile x code maxLocals ret World_1 tables_1 room_1 Calls_1 rest_1 Pre_1 Post := by
  intro l hfl _ _ p e ha hc hk s m args below hf hA hF happ hP
  obtain ⟨hcalls, hrest, hpre⟩ := hP
  obtain ⟨-, -, -, hnamed, -, -, -, hat⟩ := (Spec.applies_iff hf).mp happ
  obtain ⟨hg, hn⟩ := and_e (Cond.before_iff.mp (show (Jvm.Cond.and given_1 narrow_1).before args s = true from hpre))
  obtain ⟨hcnt, hg0⟩ := and_e hg
  obtain ⟨w0, w1, w2, w3, w4, w5, rfl⟩ : ∃ w0 w1 w2 w3 w4 w5 : Value, args = #[w0, w1, w2, w3, w4, w5] := by
    have hs : args.size = 6 := by simpa [Cond.value, given_1] using hcnt
    obtain ⟨L⟩ := args
    match L, hs with
    | [w0, w1, w2, w3, w4, w5], _ => exact ⟨w0, w1, w2, w3, w4, w5, rfl⟩
  have hw := fun d (hd : d ∈ tables_1) => atoms_spec (ws := Jvm.Cond.code x code maxLocals ret :: tables_1) hat d (List.mem_cons_of_mem _ hd)
  obtain ⟨ha0, hg1⟩ := and_e hg0
  obtain ⟨i0, e0⟩ := isL_v ha0
  obtain rfl : w0 = (.long i0) := Option.some.inj e0
  obtain ⟨ha1, hg2⟩ := and_e hg1
  obtain ⟨i1, e1⟩ := isL_v ha1
  obtain rfl : w1 = (.long i1) := Option.some.inj e1
  obtain ⟨ha2, hg3⟩ := and_e hg2
  obtain ⟨i2, e2⟩ := isL_v ha2
  obtain rfl : w2 = (.long i2) := Option.some.inj e2
  obtain ⟨ha3, hg4⟩ := and_e hg3
  obtain ⟨i3, e3⟩ := isL_v ha3
  obtain rfl : w3 = (.long i3) := Option.some.inj e3
  obtain ⟨ha4, hg5⟩ := and_e hg4
  obtain ⟨i4, e4⟩ := isL_v ha4
  obtain rfl : w4 = (.long i4) := Option.some.inj e4
  obtain ⟨i5, e5⟩ := is_v hg5
  obtain rfl : w5 = (.int i5) := Option.some.inj e5
  obtain ⟨n, o, h1, h2, h3, _, L, rfl, ⟨rfl, N⟩, hq⟩ := own_law l s _ hw tables_1 s.heap.size s.heap (Nat.le_refl _) i0 i1 i2 i3 i4 i5  p e ha hc hk s m _ below hf ((Spec.applies_iff_loose hf).mp happ).1 ⟨rfl, State.Warmed39.refl s, rfl⟩ trivial
  refine ⟨n, _, h1, h2, h3, hpost _ _ _ _ _ _ ⟨Cond.after_iff.mpr rfl, Cond.after_iff.mpr (eq_i res_at (Term.int_eval (1)) rfl), trivial⟩ ⟨hq.1, hq.2.1, (hq.2.2.sift fun y hy => Or.inr (N y hy)).mono (by decide) (by decide)⟩⟩
theorem main_1_1 : Claimed_1_1 := comes_1 fun _ _ _ _ _ _ h hF => ⟨h.1, hF⟩
theorem main_1_2 : Claimed_1_2 := comes_1 fun _ _ _ _ _ _ h hF => ⟨h.2.1, hF⟩
end Jvm.Pilot.@@N@@
namespace Jvm.Pilot.@@N@@
open Jvm Jvm.ClassFile Sem Op Lib Jvm.Free Jvm.Stand Jvm.Pilot.@@N@@.Jvm.D
/-! MADE BY PROGRAM (witnessworld.py) out of the Statement's table words and the real class files: 11 classes; the members and pool entries that the words name. The judged class is class 1, her method 1. -/
namespace start1
open Jvm.ClassFile
def u (s : String) : CpInfo := .utf8 (stringToUtf16 s)
/-- a pool by its gaps: so many unusable entries, then the entry; so many at the end -/
def gap : Nat → List CpInfo → List CpInfo
  | 0, r => r
  | n + 1, r => .unusable :: gap n r
def poolList (es : List (Nat × CpInfo)) (last : Nat) : List CpInfo := es.foldr (fun e r => gap e.1 (e.2 :: r)) (gap last [])
def pool (es : List (Nat × CpInfo)) (last : Nat) : Array CpInfo := ⟨poolList es last⟩
def fileOf (pool : Array CpInfo) (this : Nat) (attrs : Array Attribute := #[]) (ms : Array MethodInfo := #[]) (fl : Nat := 33) (sup : Nat := 0) (ifs : Array Nat := #[]) (fds : Array FieldInfo := #[]) : ClassFile where
  minorVersion := 0
  majorVersion := 65
  constantPool := pool
  accessFlags := fl
  thisClass := this
  superClass := sup
  interfaces := ifs
  fields := fds
  methods := ms
  attributes := attrs
def plain (name : String) (sup : Option ClassId) : Class where
  name := name
  kind := .ordinary
  loader := none
  accessFlags := 33
  super := sup
  interfaces := #[]
  cf := none
  fields := #[]
  methods := #[]
  instanceTypes := #[]
  staticTypes := #[]
  resolved := #[]
  callSites := []
  init := .initialized
  statics := none
  mirror := none

def pool0 : Array CpInfo := pool [(5, u "<init>"), (0, u "()V"), (1, .class_ 10), (1, u "java/lang/Object")] 113

def k0c0 : Code := { maxStack := 0, maxLocals := 1, code := object_method_1_code, exceptionTable := #[], attributes := #[] }
def k0m0 : Method := { name := "<init>", desc := "()V", sig := { parameters := [], returnType := none }, accessFlags := 1, code := some k0c0 }
/-- java/lang/Object -/
def k0 : Class := { plain "java/lang/Object" none with
  accessFlags := 33
  interfaces := #[]
  cf := some (fileOf pool0 8 #[] #[{ accessFlags := 1, nameIndex := 5, descriptorIndex := 6, attributes := #[] }] 33 0 #[] #[])
  fields := #[]
  methods := #[k0m0]
  instanceTypes := #[]
  staticTypes := #[]
  resolved := Array.replicate 124 none
  statics := none }

def pool1 : Array CpInfo := pool [(2, .class_ 4), (0, .nameAndType 5 6), (0, u "java/lang/Object"), (0, u "<init>"), (0, u "()V"), (2, .long 9223372036854775807), (1, .class_ 12), (0, u "com/example/lowtide/lowtide/compact/KeyedSums"), (0, .methodref 11 3), (0, .methodref 11 15), (0, .nameAndType 16 17), (0, u "add"), (0, u "(JJ)V"), (0, .long 18446744073709551615), (1, .methodref 11 21), (0, .nameAndType 22 23), (0, u "after"), (0, u "(J)J"), (0, .methodref 25 26), (0, .class_ 27), (0, .nameAndType 28 29), (0, u "com/example/lowtide/lowtide/compact/KeyedSumsAfterPinLaw"), (0, u "net"), (0, u "(JJJJJZZZZZ)I"), (0, .methodref 25 31), (0, .nameAndType 32 33), (0, u "pick"), (0, u "(JJZJ)J"), (2, u "law"), (0, u "(JJJJJI)Z")] 3

def k1m0 : Method := { name := "<init>", desc := "()V", sig := { parameters := [], returnType := none }, accessFlags := 1, code := none }
def k1c1 : Code := { maxStack := 19, maxLocals := 29, code := code, exceptionTable := #[], attributes := #[] }
def k1m1 : Method := { name := "law", desc := "(JJJJJI)Z", sig := { parameters := [.long, .long, .long, .long, .long, .int], returnType := some .boolean }, accessFlags := 9, code := some k1c1 }
def k1c2 : Code := { maxStack := 4, maxLocals := 16, code := method_3_code, exceptionTable := #[], attributes := #[] }
def k1m2 : Method := { name := "net", desc := "(JJJJJZZZZZ)I", sig := { parameters := [.long, .long, .long, .long, .long, .boolean, .boolean, .boolean, .boolean, .boolean], returnType := some .int }, accessFlags := 10, code := some k1c2 }
def k1c3 : Code := { maxStack := 4, maxLocals := 7, code := method_4_code, exceptionTable := #[], attributes := #[] }
def k1m3 : Method := { name := "pick", desc := "(JJZJ)J", sig := { parameters := [.long, .long, .boolean, .long], returnType := some .long }, accessFlags := 10, code := some k1c3 }
/-- com/example/lowtide/lowtide/compact/KeyedSumsAfterPinLaw -/
def k1 : Class := { plain "com/example/lowtide/lowtide/compact/KeyedSumsAfterPinLaw" (some 0) with
  accessFlags := 49
  interfaces := #[]
  cf := some (fileOf pool1 25 #[] #[{ accessFlags := 1, nameIndex := 5, descriptorIndex := 6, attributes := #[] }, { accessFlags := 9, nameIndex := 36, descriptorIndex := 37, attributes := #[] }, { accessFlags := 10, nameIndex := 28, descriptorIndex := 29, attributes := #[] }, { accessFlags := 10, nameIndex := 32, descriptorIndex := 33, attributes := #[] }] 49 2 #[] #[])
  fields := #[]
  methods := #[k1m0, k1m1, k1m2, k1m3]
  instanceTypes := #[]
  staticTypes := #[]
  resolved := Array.replicate 41 none
  statics := none }

def pool2 : Array CpInfo := pool [(1, .methodref 2 3), (0, .class_ 4), (0, .nameAndType 5 6), (0, u "java/lang/Object"), (0, u "<init>"), (0, u "()V"), (0, .fieldref 8 9), (0, .class_ 10), (0, .nameAndType 11 12), (0, u "com/example/lowtide/lowtide/compact/KeyedSums"), (0, u "keys"), (0, u "[J"), (0, .fieldref 8 14), (0, .nameAndType 15 12), (0, u "own"), (0, .fieldref 8 17), (0, .nameAndType 18 12), (0, u "sums"), (0, .fieldref 8 20), (0, .nameAndType 21 22), (0, u "left"), (0, u "[I"), (0, .fieldref 8 24), (0, .nameAndType 25 22), (0, u "right"), (0, .fieldref 8 27), (0, .nameAndType 28 29), (0, u "unused"), (0, u "I"), (0, .fieldref 8 31), (0, .nameAndType 32 29), (0, u "root"), (9, .methodref 8 43), (0, .nameAndType 44 45), (0, u "add"), (0, u "(IJJ)I"), (0, .methodref 8 47), (0, .nameAndType 48 49), (0, u "sum"), (0, u "(I)J"), (0, .long 18446744073709551615), (2, .class_ 55), (1, u "com/example/lowtide/lowtide/compact/KeyedSums$KeyTest"), (7, .class_ 65), (1, u "com/example/lowtide/lowtide/compact/KeyedSums$KeySum"), (1, u "(JJ)V"), (0, .methodref 8 69), (0, .nameAndType 70 71), (0, u "place"), (0, u "(JJ)I"), (0, .methodref 8 73), (0, .nameAndType 74 75), (0, u "join"), (0, u "(II)I"), (0, .methodref 8 77), (0, .nameAndType 78 79), (0, u "release"), (0, u "(I)V"), (0, .methodref 8 81), (0, .nameAndType 82 83), (0, u "rank"), (0, u "(I)I"), (0, .methodref 8 85), (0, .nameAndType 86 83), (0, u "turnRight"), (0, .methodref 8 88), (0, .nameAndType 89 83), (0, u "turnLeft"), (0, .methodref 8 91), (0, .nameAndType 92 79), (0, u "resum"), (0, .integer 2654435769), (0, .integer 2246822507), (0, .integer 3266489909), (0, .fieldref 8 97), (0, .nameAndType 98 29), (0, u "used"), (9, u "NONE"), (0, u "J"), (1, u "NIL"), (7, u "(J)J"), (2, u "after")] 21

def k2c0 : Code := { maxStack := 2, maxLocals := 1, code := prog_19_method_1_code, exceptionTable := #[], attributes := #[] }
def k2m0 : Method := { name := "<init>", desc := "()V", sig := { parameters := [], returnType := none }, accessFlags := 1, code := some k2c0 }
def k2c1 : Code := { maxStack := 7, maxLocals := 5, code := prog_19_method_2_code, exceptionTable := #[], attributes := #[] }
def k2m1 : Method := { name := "add", desc := "(JJ)V", sig := { parameters := [.long, .long], returnType := none }, accessFlags := 1, code := some k2c1 }
def k2c2 : Code := { maxStack := 4, maxLocals := 6, code := prog_19_method_6_code, exceptionTable := #[], attributes := #[] }
def k2m2 : Method := { name := "after", desc := "(J)J", sig := { parameters := [.long], returnType := some .long }, accessFlags := 1, code := some k2c2 }
def k2c3 : Code := { maxStack := 6, maxLocals := 7, code := prog_19_method_9_code, exceptionTable := #[], attributes := #[] }
def k2m3 : Method := { name := "add", desc := "(IJJ)I", sig := { parameters := [.int, .long, .long], returnType := some .int }, accessFlags := 2, code := some k2c3 }
def k2c4 : Code := { maxStack := 6, maxLocals := 3, code := prog_19_method_10_code, exceptionTable := #[], attributes := #[] }
def k2m4 : Method := { name := "join", desc := "(II)I", sig := { parameters := [.int, .int], returnType := some .int }, accessFlags := 2, code := some k2c4 }
def k2c5 : Code := { maxStack := 4, maxLocals := 3, code := prog_19_method_11_code, exceptionTable := #[], attributes := #[] }
def k2m5 : Method := { name := "turnRight", desc := "(I)I", sig := { parameters := [.int], returnType := some .int }, accessFlags := 2, code := some k2c5 }
def k2c6 : Code := { maxStack := 4, maxLocals := 3, code := prog_19_method_12_code, exceptionTable := #[], attributes := #[] }
def k2m6 : Method := { name := "turnLeft", desc := "(I)I", sig := { parameters := [.int], returnType := some .int }, accessFlags := 2, code := some k2c6 }
def k2c7 : Code := { maxStack := 7, maxLocals := 2, code := prog_19_method_13_code, exceptionTable := #[], attributes := #[] }
def k2m7 : Method := { name := "resum", desc := "(I)V", sig := { parameters := [.int], returnType := none }, accessFlags := 2, code := some k2c7 }
def k2c8 : Code := { maxStack := 2, maxLocals := 2, code := prog_19_method_14_code, exceptionTable := #[], attributes := #[] }
def k2m8 : Method := { name := "sum", desc := "(I)J", sig := { parameters := [.int], returnType := some .long }, accessFlags := 2, code := some k2c8 }
def k2c9 : Code := { maxStack := 3, maxLocals := 2, code := prog_19_method_15_code, exceptionTable := #[], attributes := #[] }
def k2m9 : Method := { name := "rank", desc := "(I)I", sig := { parameters := [.int], returnType := some .int }, accessFlags := 10, code := some k2c9 }
def k2c10 : Code := { maxStack := 4, maxLocals := 7, code := prog_19_method_16_code, exceptionTable := #[], attributes := #[] }
def k2m10 : Method := { name := "place", desc := "(JJ)I", sig := { parameters := [.long, .long], returnType := some .int }, accessFlags := 2, code := some k2c10 }
def k2c11 : Code := { maxStack := 3, maxLocals := 2, code := prog_19_method_17_code, exceptionTable := #[], attributes := #[] }
def k2m11 : Method := { name := "release", desc := "(I)V", sig := { parameters := [.int], returnType := none }, accessFlags := 2, code := some k2c11 }
/-- com/example/lowtide/lowtide/compact/KeyedSums -/
def k2 : Class := { plain "com/example/lowtide/lowtide/compact/KeyedSums" (some 0) with
  accessFlags := 49
  interfaces := #[]
  cf := some (fileOf pool2 8 #[.nestMembers #[63, 53]] #[{ accessFlags := 1, nameIndex := 5, descriptorIndex := 6, attributes := #[] }, { accessFlags := 1, nameIndex := 44, descriptorIndex := 67, attributes := #[] }, { accessFlags := 1, nameIndex := 122, descriptorIndex := 119, attributes := #[] }, { accessFlags := 2, nameIndex := 44, descriptorIndex := 45, attributes := #[] }, { accessFlags := 2, nameIndex := 74, descriptorIndex := 75, attributes := #[] }, { accessFlags := 2, nameIndex := 86, descriptorIndex := 83, attributes := #[] }, { accessFlags := 2, nameIndex := 89, descriptorIndex := 83, attributes := #[] }, { accessFlags := 2, nameIndex := 92, descriptorIndex := 79, attributes := #[] }, { accessFlags := 2, nameIndex := 48, descriptorIndex := 49, attributes := #[] }, { accessFlags := 10, nameIndex := 82, descriptorIndex := 83, attributes := #[] }, { accessFlags := 2, nameIndex := 70, descriptorIndex := 71, attributes := #[] }, { accessFlags := 2, nameIndex := 78, descriptorIndex := 79, attributes := #[] }] 49 2 #[] #[{ accessFlags := 25, nameIndex := 108, descriptorIndex := 109, attributes := #[] }, { accessFlags := 26, nameIndex := 111, descriptorIndex := 29, attributes := #[] }, { accessFlags := 2, nameIndex := 11, descriptorIndex := 12, attributes := #[] }, { accessFlags := 2, nameIndex := 15, descriptorIndex := 12, attributes := #[] }, { accessFlags := 2, nameIndex := 18, descriptorIndex := 12, attributes := #[] }, { accessFlags := 2, nameIndex := 21, descriptorIndex := 22, attributes := #[] }, { accessFlags := 2, nameIndex := 25, descriptorIndex := 22, attributes := #[] }, { accessFlags := 2, nameIndex := 98, descriptorIndex := 29, attributes := #[] }, { accessFlags := 2, nameIndex := 28, descriptorIndex := 29, attributes := #[] }, { accessFlags := 2, nameIndex := 32, descriptorIndex := 29, attributes := #[] }])
  fields := #[{ name := "NONE", type := .long, accessFlags := 25, slot := 0, constantValue := 0 }, { name := "NIL", type := .int, accessFlags := 26, slot := 1, constantValue := 0 }, { name := "keys", type := (.array .long), accessFlags := 2, slot := 0, constantValue := 0 }, { name := "own", type := (.array .long), accessFlags := 2, slot := 1, constantValue := 0 }, { name := "sums", type := (.array .long), accessFlags := 2, slot := 2, constantValue := 0 }, { name := "left", type := (.array .int), accessFlags := 2, slot := 3, constantValue := 0 }, { name := "right", type := (.array .int), accessFlags := 2, slot := 4, constantValue := 0 }, { name := "used", type := .int, accessFlags := 2, slot := 5, constantValue := 0 }, { name := "unused", type := .int, accessFlags := 2, slot := 6, constantValue := 0 }, { name := "root", type := .int, accessFlags := 2, slot := 7, constantValue := 0 }]
  methods := #[k2m0, k2m1, k2m2, k2m3, k2m4, k2m5, k2m6, k2m7, k2m8, k2m9, k2m10, k2m11]
  instanceTypes := #[(.array .long), (.array .long), (.array .long), (.array .int), (.array .int), .int, .int, .int]
  staticTypes := #[.long, .int]
  resolved := Array.replicate 144 none
  statics := none }

def pool3 : Array CpInfo := pool [(1, u "java/lang/Cloneable"), (0, .class_ 1), (0, u "java/lang/Object"), (0, .class_ 3)] 3

/-- java/lang/Cloneable -/
def k3 : Class := { plain "java/lang/Cloneable" (some 0) with
  accessFlags := 1537
  interfaces := #[]
  cf := some (fileOf pool3 2 #[] #[] 1537 4 #[] #[])
  fields := #[]
  methods := #[]
  instanceTypes := #[]
  staticTypes := #[]
  resolved := Array.replicate 8 none
  statics := none }

def pool4 : Array CpInfo := pool [(1, u "java/io/Serializable"), (0, .class_ 1), (0, u "java/lang/Object"), (0, .class_ 3)] 3

/-- java/io/Serializable -/
def k4 : Class := { plain "java/io/Serializable" (some 0) with
  accessFlags := 1537
  interfaces := #[]
  cf := some (fileOf pool4 2 #[] #[] 1537 4 #[] #[])
  fields := #[]
  methods := #[]
  instanceTypes := #[]
  staticTypes := #[]
  resolved := Array.replicate 8 none
  statics := none }

/-- the primitive byte -/
def k5 : Class := { plain "byte" none with kind := .primitive 'B', accessFlags := 0x411 }
/-- [B -/
def k6 : Class := { plain "[B" (some 0) with kind := .array 5 .byte, interfaces := #[3, 4], accessFlags := 1041 }

/-- the primitive int -/
def k7 : Class := { plain "int" none with kind := .primitive 'I', accessFlags := 0x411 }
/-- [I -/
def k8 : Class := { plain "[I" (some 0) with kind := .array 7 .int, interfaces := #[3, 4], accessFlags := 1041 }

/-- the primitive long -/
def k9 : Class := { plain "long" none with kind := .primitive 'J', accessFlags := 0x411 }
/-- [J -/
def k10 : Class := { plain "[J" (some 0) with kind := .array 9 .long, interfaces := #[3, 4], accessFlags := 1041 }

def heap : Heap := #[]
def classes : Array Class := #[k0, k1, k2, k3, k4, k5, k6, k7, k8, k9, k10]
def interned : List (Array UInt16 × Addr) := []
def slotsUsed : Nat := 0
def theMethod : MethodId := ⟨1, 1⟩
def args0 : Array Value := #[.long 5, .long 9, .long 5, .long 2, .long 3, .int 31]
def aboutOver (below : List Frame) : State where
  vm := { classes := classes, interned := interned.toArray }
  heap := heap
  slotsUsed := slotsUsed
  threads := #[{ frames := .invoking theMethod args0 :: below }]
def below0 : List Frame := [.native { method := ⟨0, 0⟩, args := #[] }]
def about1 : State := aboutOver below0
def p0 : Program := .bare "" "" ""
def e0 : Env := launch0.env 0 0 0
theorem w_frames : about1.frames = Frame.invoking theMethod args0 :: below0 := rfl
set_option maxRecDepth 65536 in
theorem w_args : argsFit about1.vm theMethod args0 = true := by decide +kernel
set_option maxRecDepth 65536 in
theorem w_heap : heapFits about1 = true := by decide +kernel
set_option maxRecDepth 65536 in
theorem w_runnable : about1.curStatus? = some .runnable := by decide +kernel
set_option maxRecDepth 65536 in
theorem w_alone : about1.alone = true := by decide +kernel
set_option maxRecDepth 65536 in
theorem w_named : about1.methodNamed? x = some theMethod := by decide +kernel
set_option maxRecDepth 65536 in
theorem w_hears : about1.hears theMethod below0 = true := by decide +kernel
set_option maxRecDepth 65536 in
theorem w_ripe : about1.ripe theMethod args0 below0 = true := by decide +kernel
theorem w_running : about1.status = .running := rfl
set_option maxRecDepth 65536 in
theorem w_room : about1.hasRoom e0.platform room_1 = true :=
  launch0.hasRoom_least _ room_1 (by decide +kernel) (by decide +kernel) (by decide +kernel) (by decide +kernel) (by decide +kernel) (by decide +kernel)
theorem allAtoms_all (ts : List Jvm.Cond) (a : Array Jvm.Value) (st : Jvm.State) : (allAtoms ts).before a st = ts.all (fun c => c.before a st) := by
  induction ts with
  | nil => rfl
  | cons c t ih =>
    show (Jvm.Cond.and c (allAtoms t)).before a st = _
    rw [Jvm.Cond.before_and, ih, List.all_cons]
def words1 : List Jvm.Cond := Jvm.Cond.code x code maxLocals ret :: tables_1
/-- a 'code' word, met by the world's own term for the bytes: nothing is compared byte by byte -/
theorem code_word {y : MethodName} {bytes : ByteArray} {mx : Nat} {rt : Option FieldType} {a : Array Value} {s : State} {m : MethodId} {meth : Method} {c : Code} (h1 : s.methodNamed? y = some m) (h2 : s.vm.method? m = some meth) (h3 : meth.code = some c) (h4 : c.code = bytes)
    (h5 : (c.maxLocals == mx && c.exceptionTable.isEmpty && decide (c.maxStack ≤ mostOperands) && decide (meth.sig.returnType = rt) && !meth.locks && decide (parseMethodDescriptor y.desc = some meth.sig)) = true) : (Jvm.Cond.code y bytes mx rt).before a s = true := by
  simp only [Bool.and_eq_true, beq_iff_eq, Bool.not_eq_true', decide_eq_true_eq] at h5
  obtain ⟨⟨⟨⟨⟨g1, g2⟩, g3⟩, g4⟩, g5⟩, g6⟩ := h5
  simp [Cond.before, Cond.holds, Cond.value, h1, h2, h3, h4, g1, g2, g3, g4, g5, g6]
def isCode : Jvm.Cond → Bool
  | .code _ _ _ _ => true
  | _ => false
theorem all_split {L : List Jvm.Cond} {P : Jvm.Cond → Bool} (h1 : L.all (fun c => isCode c || P c) = true) (h2 : ∀ c ∈ L.filter isCode, P c = true) : L.all P = true := by
  refine List.all_eq_true.mpr fun c hc => ?_
  have h := List.all_eq_true.mp h1 c hc
  rcases Bool.eq_false_or_eq_true (isCode c) with hi | hi
  · exact h2 c (List.mem_filter.mpr ⟨hc, hi⟩)
  · simpa [hi] using h
set_option maxRecDepth 65536 in
theorem w_c0 : (Jvm.Cond.code x code maxLocals ret).before args0 about1 = true := code_word (m := ⟨1, 1⟩) (meth := k1m1) (c := k1c1) (by decide +kernel) rfl rfl rfl (by decide +kernel)
set_option maxRecDepth 65536 in
theorem w_c1 : (Jvm.Cond.code ({ cls := "com/example/lowtide/lowtide/compact/KeyedSums", name := "<init>", desc := "()V" } : Jvm.MethodName) prog_19_method_1_code (1 : Nat) (Option.none : Option Jvm.ClassFile.FieldType)).before args0 about1 = true := code_word (m := ⟨2, 0⟩) (meth := k2m0) (c := k2c0) (by decide +kernel) rfl rfl rfl (by decide +kernel)
set_option maxRecDepth 65536 in
theorem w_c2 : (Jvm.Cond.code ({ cls := "java/lang/Object", name := "<init>", desc := "()V" } : Jvm.MethodName) object_method_1_code (1 : Nat) (Option.none : Option Jvm.ClassFile.FieldType)).before args0 about1 = true := code_word (m := ⟨0, 0⟩) (meth := k0m0) (c := k0c0) (by decide +kernel) rfl rfl rfl (by decide +kernel)
set_option maxRecDepth 65536 in
theorem w_c3 : (Jvm.Cond.code ({ cls := "com/example/lowtide/lowtide/compact/KeyedSums", name := "add", desc := "(JJ)V" } : Jvm.MethodName) prog_19_method_2_code (5 : Nat) (Option.none : Option Jvm.ClassFile.FieldType)).before args0 about1 = true := code_word (m := ⟨2, 1⟩) (meth := k2m1) (c := k2c1) (by decide +kernel) rfl rfl rfl (by decide +kernel)
set_option maxRecDepth 65536 in
theorem w_c4 : (Jvm.Cond.code ({ cls := "com/example/lowtide/lowtide/compact/KeyedSums", name := "add", desc := "(IJJ)I" } : Jvm.MethodName) prog_19_method_9_code (7 : Nat) (Option.some Jvm.ClassFile.FieldType.int)).before args0 about1 = true := code_word (m := ⟨2, 3⟩) (meth := k2m3) (c := k2c3) (by decide +kernel) rfl rfl rfl (by decide +kernel)
set_option maxRecDepth 65536 in
theorem w_c5 : (Jvm.Cond.code ({ cls := "com/example/lowtide/lowtide/compact/KeyedSums", name := "place", desc := "(JJ)I" } : Jvm.MethodName) prog_19_method_16_code (7 : Nat) (Option.some Jvm.ClassFile.FieldType.int)).before args0 about1 = true := code_word (m := ⟨2, 10⟩) (meth := k2m10) (c := k2c10) (by decide +kernel) rfl rfl rfl (by decide +kernel)
set_option maxRecDepth 65536 in
theorem w_c6 : (Jvm.Cond.code ({ cls := "com/example/lowtide/lowtide/compact/KeyedSums", name := "after", desc := "(J)J" } : Jvm.MethodName) prog_19_method_6_code (6 : Nat) (Option.some Jvm.ClassFile.FieldType.long)).before args0 about1 = true := code_word (m := ⟨2, 2⟩) (meth := k2m2) (c := k2c2) (by decide +kernel) rfl rfl rfl (by decide +kernel)
set_option maxRecDepth 65536 in
theorem w_c7 : (Jvm.Cond.code ({ cls := "com/example/lowtide/lowtide/compact/KeyedSumsAfterPinLaw", name := "net", desc := "(JJJJJZZZZZ)I" } : Jvm.MethodName) method_3_code (16 : Nat) (Option.some Jvm.ClassFile.FieldType.int)).before args0 about1 = true := code_word (m := ⟨1, 2⟩) (meth := k1m2) (c := k1c2) (by decide +kernel) rfl rfl rfl (by decide +kernel)
set_option maxRecDepth 65536 in
theorem w_c8 : (Jvm.Cond.code ({ cls := "com/example/lowtide/lowtide/compact/KeyedSumsAfterPinLaw", name := "pick", desc := "(JJZJ)J" } : Jvm.MethodName) method_4_code (7 : Nat) (Option.some Jvm.ClassFile.FieldType.long)).before args0 about1 = true := code_word (m := ⟨1, 3⟩) (meth := k1m3) (c := k1c3) (by decide +kernel) rfl rfl rfl (by decide +kernel)
set_option maxRecDepth 65536 in
theorem w_c9 : (Jvm.Cond.code ({ cls := "com/example/lowtide/lowtide/compact/KeyedSums", name := "rank", desc := "(I)I" } : Jvm.MethodName) prog_19_method_15_code (2 : Nat) (Option.some Jvm.ClassFile.FieldType.int)).before args0 about1 = true := code_word (m := ⟨2, 9⟩) (meth := k2m9) (c := k2c9) (by decide +kernel) rfl rfl rfl (by decide +kernel)
set_option maxRecDepth 65536 in
theorem w_c10 : (Jvm.Cond.code ({ cls := "com/example/lowtide/lowtide/compact/KeyedSums", name := "turnRight", desc := "(I)I" } : Jvm.MethodName) prog_19_method_11_code (3 : Nat) (Option.some Jvm.ClassFile.FieldType.int)).before args0 about1 = true := code_word (m := ⟨2, 5⟩) (meth := k2m5) (c := k2c5) (by decide +kernel) rfl rfl rfl (by decide +kernel)
set_option maxRecDepth 65536 in
theorem w_c11 : (Jvm.Cond.code ({ cls := "com/example/lowtide/lowtide/compact/KeyedSums", name := "resum", desc := "(I)V" } : Jvm.MethodName) prog_19_method_13_code (2 : Nat) (Option.none : Option Jvm.ClassFile.FieldType)).before args0 about1 = true := code_word (m := ⟨2, 7⟩) (meth := k2m7) (c := k2c7) (by decide +kernel) rfl rfl rfl (by decide +kernel)
set_option maxRecDepth 65536 in
theorem w_c12 : (Jvm.Cond.code ({ cls := "com/example/lowtide/lowtide/compact/KeyedSums", name := "sum", desc := "(I)J" } : Jvm.MethodName) prog_19_method_14_code (2 : Nat) (Option.some Jvm.ClassFile.FieldType.long)).before args0 about1 = true := code_word (m := ⟨2, 8⟩) (meth := k2m8) (c := k2c8) (by decide +kernel) rfl rfl rfl (by decide +kernel)
set_option maxRecDepth 65536 in
theorem w_c13 : (Jvm.Cond.code ({ cls := "com/example/lowtide/lowtide/compact/KeyedSums", name := "turnLeft", desc := "(I)I" } : Jvm.MethodName) prog_19_method_12_code (3 : Nat) (Option.some Jvm.ClassFile.FieldType.int)).before args0 about1 = true := code_word (m := ⟨2, 6⟩) (meth := k2m6) (c := k2c6) (by decide +kernel) rfl rfl rfl (by decide +kernel)
set_option maxRecDepth 65536 in
theorem w_c14 : (Jvm.Cond.code ({ cls := "com/example/lowtide/lowtide/compact/KeyedSums", name := "join", desc := "(II)I" } : Jvm.MethodName) prog_19_method_10_code (3 : Nat) (Option.some Jvm.ClassFile.FieldType.int)).before args0 about1 = true := code_word (m := ⟨2, 4⟩) (meth := k2m4) (c := k2c4) (by decide +kernel) rfl rfl rfl (by decide +kernel)
set_option maxRecDepth 65536 in
theorem w_c15 : (Jvm.Cond.code ({ cls := "com/example/lowtide/lowtide/compact/KeyedSums", name := "release", desc := "(I)V" } : Jvm.MethodName) prog_19_method_17_code (2 : Nat) (Option.none : Option Jvm.ClassFile.FieldType)).before args0 about1 = true := code_word (m := ⟨2, 11⟩) (meth := k2m11) (c := k2c11) (by decide +kernel) rfl rfl rfl (by decide +kernel)
def codes1 : List Jvm.Cond := [Jvm.Cond.code x code maxLocals ret, Jvm.Cond.code ({ cls := "com/example/lowtide/lowtide/compact/KeyedSums", name := "<init>", desc := "()V" } : Jvm.MethodName) prog_19_method_1_code (1 : Nat) (Option.none : Option Jvm.ClassFile.FieldType), Jvm.Cond.code ({ cls := "java/lang/Object", name := "<init>", desc := "()V" } : Jvm.MethodName) object_method_1_code (1 : Nat) (Option.none : Option Jvm.ClassFile.FieldType), Jvm.Cond.code ({ cls := "com/example/lowtide/lowtide/compact/KeyedSums", name := "add", desc := "(JJ)V" } : Jvm.MethodName) prog_19_method_2_code (5 : Nat) (Option.none : Option Jvm.ClassFile.FieldType), Jvm.Cond.code ({ cls := "com/example/lowtide/lowtide/compact/KeyedSums", name := "add", desc := "(IJJ)I" } : Jvm.MethodName) prog_19_method_9_code (7 : Nat) (Option.some Jvm.ClassFile.FieldType.int), Jvm.Cond.code ({ cls := "com/example/lowtide/lowtide/compact/KeyedSums", name := "place", desc := "(JJ)I" } : Jvm.MethodName) prog_19_method_16_code (7 : Nat) (Option.some Jvm.ClassFile.FieldType.int), Jvm.Cond.code ({ cls := "com/example/lowtide/lowtide/compact/KeyedSums", name := "after", desc := "(J)J" } : Jvm.MethodName) prog_19_method_6_code (6 : Nat) (Option.some Jvm.ClassFile.FieldType.long), Jvm.Cond.code ({ cls := "com/example/lowtide/lowtide/compact/KeyedSumsAfterPinLaw", name := "net", desc := "(JJJJJZZZZZ)I" } : Jvm.MethodName) method_3_code (16 : Nat) (Option.some Jvm.ClassFile.FieldType.int), Jvm.Cond.code ({ cls := "com/example/lowtide/lowtide/compact/KeyedSumsAfterPinLaw", name := "pick", desc := "(JJZJ)J" } : Jvm.MethodName) method_4_code (7 : Nat) (Option.some Jvm.ClassFile.FieldType.long), Jvm.Cond.code ({ cls := "com/example/lowtide/lowtide/compact/KeyedSums", name := "rank", desc := "(I)I" } : Jvm.MethodName) prog_19_method_15_code (2 : Nat) (Option.some Jvm.ClassFile.FieldType.int), Jvm.Cond.code ({ cls := "com/example/lowtide/lowtide/compact/KeyedSums", name := "turnRight", desc := "(I)I" } : Jvm.MethodName) prog_19_method_11_code (3 : Nat) (Option.some Jvm.ClassFile.FieldType.int), Jvm.Cond.code ({ cls := "com/example/lowtide/lowtide/compact/KeyedSums", name := "resum", desc := "(I)V" } : Jvm.MethodName) prog_19_method_13_code (2 : Nat) (Option.none : Option Jvm.ClassFile.FieldType), Jvm.Cond.code ({ cls := "com/example/lowtide/lowtide/compact/KeyedSums", name := "sum", desc := "(I)J" } : Jvm.MethodName) prog_19_method_14_code (2 : Nat) (Option.some Jvm.ClassFile.FieldType.long), Jvm.Cond.code ({ cls := "com/example/lowtide/lowtide/compact/KeyedSums", name := "turnLeft", desc := "(I)I" } : Jvm.MethodName) prog_19_method_12_code (3 : Nat) (Option.some Jvm.ClassFile.FieldType.int), Jvm.Cond.code ({ cls := "com/example/lowtide/lowtide/compact/KeyedSums", name := "join", desc := "(II)I" } : Jvm.MethodName) prog_19_method_10_code (3 : Nat) (Option.some Jvm.ClassFile.FieldType.int), Jvm.Cond.code ({ cls := "com/example/lowtide/lowtide/compact/KeyedSums", name := "release", desc := "(I)V" } : Jvm.MethodName) prog_19_method_17_code (2 : Nat) (Option.none : Option Jvm.ClassFile.FieldType)]
set_option maxRecDepth 65536 in
theorem codes_eq : words1.filter isCode = codes1 := rfl
theorem w_codes : ∀ c ∈ words1.filter isCode, c.before args0 about1 = true := by
  rw [codes_eq]
  intro c hc
  simp only [codes1, List.mem_cons, List.not_mem_nil, or_false] at hc
  rcases hc with rfl | rfl | rfl | rfl | rfl | rfl | rfl | rfl | rfl | rfl | rfl | rfl | rfl | rfl | rfl | rfl
  · exact w_c0
  · exact w_c1
  · exact w_c2
  · exact w_c3
  · exact w_c4
  · exact w_c5
  · exact w_c6
  · exact w_c7
  · exact w_c8
  · exact w_c9
  · exact w_c10
  · exact w_c11
  · exact w_c12
  · exact w_c13
  · exact w_c14
  · exact w_c15
set_option maxRecDepth 65536 in
theorem w_t1 : (words1.take 24).all (fun c => isCode c || c.before args0 about1) = true := by decide +kernel
set_option maxRecDepth 65536 in
theorem w_t2 : ((words1.drop 24).take 24).all (fun c => isCode c || c.before args0 about1) = true := by decide +kernel
set_option maxRecDepth 65536 in
theorem w_t3 : (((words1.drop 24).drop 24).take 24).all (fun c => isCode c || c.before args0 about1) = true := by decide +kernel
set_option maxRecDepth 65536 in
theorem w_t4 : (((words1.drop 24).drop 24).drop 24).all (fun c => isCode c || c.before args0 about1) = true := by decide +kernel
theorem w_tables : (allAtoms (Jvm.Cond.code x code maxLocals ret :: tables_1)).before args0 about1 = true := by
  rw [allAtoms_all]
  show words1.all (fun c => c.before args0 about1) = true
  refine all_split ?_ w_codes
  rw [← List.take_append_drop 24 words1, List.all_append, w_t1, ← List.take_append_drop 24 (words1.drop 24), List.all_append, w_t2, ← List.take_append_drop 24 ((words1.drop 24).drop 24), List.all_append, w_t3, w_t4]
  rfl
set_option maxRecDepth 65536 in
theorem w_case : (Jvm.Cond.and given_1 narrow_1).before args0 about1 = true := by decide +kernel
theorem w_applies : (headSpec (Jvm.Cond.code x code maxLocals ret :: tables_1) room_1).applies x e0.platform about1 = true :=
  (Spec.applies_iff w_frames).mpr ⟨w_running, w_runnable, w_alone, w_named, w_hears, w_ripe, w_room, w_tables⟩
theorem atStart : AtStart classFile x code maxLocals ret World_1 tables_1 room_1 Calls_1 rest_1 Pre_1 launch0 p0 e0 about1 theMethod args0 below0 :=
  ⟨lists_1, trivial, launch0.admits_env _ _ _, launch0.least_env, fairChoices_fair.cas, fairChoices_fair.clock, w_frames, w_args, w_heap, w_applies, trivial, trivial, w_case⟩
end start1
theorem witness_1 : WitnessClaimed_1 := ⟨start1.p0, start1.e0, start1.about1, start1.theMethod, start1.args0, start1.below0, start1.atStart⟩
end Jvm.Pilot.@@N@@
