import JvmDerived
import JvmDerived.Pilot.@@N@@Statement
import JvmDerived.Pilot.@@N@@Code
set_option linter.unusedVariables false
set_option linter.unusedSimpArgs false
namespace Jvm.Own
open Sem ClassFile Op Lib Jvm.Stand Jvm.Free Jvm.LawKit Jvm.RoadKit
def ownEL : List (String × Nat) := [("com/example/vouch/vouch/core/Answer", 78), ("com/example/vouch/vouch/core/AnswerKeywordPinLaw", 13), ("com/example/vouch/vouch/core/AnswerKeywordPinLaw", 18), ("com/example/vouch/vouch/core/AnswerKeywordPinLaw", 23), ("com/example/vouch/vouch/core/AnswerKeywordPinLaw", 28)]
abbrev Ctx := Program × Launch × Env × State × MethodId × Array Value × List Frame × Method × Code
def ushr (x y : Int32) : Int32 := (x.toUInt32 >>> (y &&& 31).toUInt32).toInt32
def ushrL (x : Int64) (y : Int32) : Int64 := (x.toUInt64 >>> (y &&& 63).toInt64.toUInt64).toInt64
/-- from here the body comes to its return, and Q holds of what it returns and of the heap -/
def Go (K : Ctx) (rm : Room) (Z : State) (n0 : Nat) (bs : ByteArray) (ml : Nat) (ret : Option FieldType) (own nm : String) (Q : Option Value → Heap → Prop) (kc ks : Nat) (h : Heap) (pc : Nat) (L : Array Slot) (S : List Value) : Prop :=
  match K with
  | (p, l, e, s, m, args, below, meth, c) =>
    p.tables.exec = Jvm.exec → c.code = bs → c.maxLocals = ml → meth.sig.returnType = ret → meth.locks = false → meth.name = nm →
    ∀ (vm0 : Vm) (k0 : Nat), s.Since vm0 k0 → k0 ≤ h.size → Z.Warmed39 (s.setVm vm0).vm → (s.setVm vm0).vm.findClass own = some m.cls → (∀ aw, EW Z aw ownEL) → CHr Z ownEL s.vm s.heap vm0 h →
    ∀ T locs, Stand p l e rm (s.setVm vm0) m args below meth c T locs kc ks → Fr n0 locs → T.heap = h →
    ∃ s₂ v L', Steps p.tables e below (T.setTop (mkF m pc L S)) s₂ ∧ s₂.status = .running ∧ Ended s₂ below (.returned v) ∧ Q v s₂.heap ∧ Fr n0 L' ∧ CHr Z ownEL s.vm s.heap s₂.vm s₂.heap ∧ ReturnedEndW s (.returned v) s₂ L' rm.cells rm.slots
/-- a body's contract -/
def Con (Z : State) (n0 : Nat) (y : MethodName) (bs : ByteArray) (ml : Nat) (ret : Option FieldType) (rm : Room) (as : List Value) (h : Heap) (Q : Option Value → Heap → Prop) : Prop :=
  ∀ l, MetFree l y (head1 [Jvm.Cond.code y bs ml ret] rm) (fun a U => a = as.toArray ∧ Z.Warmed39 U.vm ∧ U.heap = h ∧ CHv Z ownEL U.vm h) (fun _ _ _ _ _ => True) (fun _ U o U' => ∃ v L, o = .returned v ∧ (Q v U'.heap ∧ Fr n0 L) ∧ CHr Z ownEL U.vm U.heap U'.vm U'.heap ∧ ReturnedEndW U o U' L rm.cells rm.slots)
section Laws
variable {K : Ctx} {rm : Room} {Z : State} {n0 : Nat} {bs : ByteArray} {ml : Nat} {ret : Option FieldType} {own nm : String} {Q : Option Value → Heap → Prop} {kc ks : Nat} {h : Heap} {pc pc' : Nat} {L : Array Slot} {S : List Value} {a0 : Array Value}
theorem enterW {l : Launch} {y : MethodName} {ws : List Jvm.Cond} {as : Array Value} {L0 : Array Slot} (hpl : plainFor y = true) (hE : ∀ aw, EW Z aw ownEL) (hL : ∀ m, entryFrame m as ml = mkF m 0 L0 [])
    (H : ∀ K, Go K rm Z n0 bs ml ret y.cls y.name Q 0 0 h 0 L0 []) :
    MetFree l y (head1 (Jvm.Cond.code y bs ml ret :: ws) rm) (fun a U => a = as ∧ Z.Warmed39 U.vm ∧ U.heap = h ∧ CHv Z ownEL U.vm h) (fun _ _ _ _ _ => True) (fun _ U o U' => ∃ v L, o = .returned v ∧ (Q v U'.heap ∧ Fr n0 L) ∧ CHr Z ownEL U.vm U.heap U'.vm U'.heap ∧ ReturnedEndW U o U' L rm.cells rm.slots) := by
  refine MetFree.of_bodySF hpl hisR ?_
  intro p e s m args below meth c s₁ Bd hml0 hP hK
  obtain ⟨rfl, hZ, hh, hC⟩ := hP
  have X0 : Stand p l e rm s m args below meth c s₁ [] 0 0 := Stand.of_body Bd
  obtain ⟨s₂, v, L', st, h1, h2, h3, h4, h5⟩ := H (p, l, e, s, m, args, below, meth, c) Bd.exec Bd.bytes hml0 Bd.returns Bd.notSynchronized (name_of_methodNamed Bd.named Bd.method).1 s.vm h.size ((State.WarmedH.refl s).since h.size) (Nat.le_refl _) hZ (findClass_of_methodNamed Bd.named) hE (by rw [hh]; exact CHr.refl hC) s₁ [] X0 (Fr.nil n0) (by rw [← hh, Bd.state]; rfl)
  exact ⟨s₂, _, castTop (hL m) st, h1, h2, v, L', rfl, ⟨h3, h4⟩, h5⟩
theorem enter {y : MethodName} {as : List Value} {L0 : Array Slot} (hpl : plainFor y = true) (hE : ∀ aw, EW Z aw ownEL) (hL : ∀ m, entryFrame m as.toArray ml = mkF m 0 L0 [])
    (H : ∀ K, Go K rm Z n0 bs ml ret y.cls y.name Q 0 0 h 0 L0 []) : Con Z n0 y bs ml ret rm as h Q := fun _ => enterW hpl hE hL H
theorem iload {k : Nat} {v : Int32} (hd : decode bs pc = .ok (.iload k, 2)) (hl : L[k]? = some (.val (.int v))) (hp : pc + 2 = pc') (hr : Go K rm Z n0 bs ml ret own nm Q kc ks h pc' L (.int v :: S)) : Go K rm Z n0 bs ml ret own nm Q kc ks h pc L S := by
  subst hp
  obtain ⟨p, l, e, s, m, args, below, meth, c⟩ := K
  intro hx hby hml hret hlk hnm vm0 k0 hSn hk0 hZ hown hEW hCH T locs X hF hh
  obtain ⟨s₂, v, L', st, r⟩ := hr hx hby hml hret hlk hnm vm0 k0 hSn hk0 hZ hown hEW hCH T locs X hF hh
  exact ⟨s₂, v, L', XS.iload X.here hx rfl (hb hby hd) hl st, r⟩
theorem iloadN {k : Fin 4} {v : Int32} (hd : decode bs pc = .ok (.iload_n k, 1)) (hl : L[k.val]? = some (.val (.int v))) (hp : pc + 1 = pc') (hr : Go K rm Z n0 bs ml ret own nm Q kc ks h pc' L (.int v :: S)) : Go K rm Z n0 bs ml ret own nm Q kc ks h pc L S := by
  subst hp
  obtain ⟨p, l, e, s, m, args, below, meth, c⟩ := K
  intro hx hby hml hret hlk hnm vm0 k0 hSn hk0 hZ hown hEW hCH T locs X hF hh
  obtain ⟨s₂, v, L', st, r⟩ := hr hx hby hml hret hlk hnm vm0 k0 hSn hk0 hZ hown hEW hCH T locs X hF hh
  exact ⟨s₂, v, L', XS.iloadN X.here hx rfl (hb hby hd) hl st, r⟩
theorem lload {k : Nat} {v : Int64} (hd : decode bs pc = .ok (.lload k, 2)) (hl : L[k]? = some (.val (.long v))) (hp : pc + 2 = pc') (hr : Go K rm Z n0 bs ml ret own nm Q kc ks h pc' L (.long v :: S)) : Go K rm Z n0 bs ml ret own nm Q kc ks h pc L S := by
  subst hp
  obtain ⟨p, l, e, s, m, args, below, meth, c⟩ := K
  intro hx hby hml hret hlk hnm vm0 k0 hSn hk0 hZ hown hEW hCH T locs X hF hh
  obtain ⟨s₂, v, L', st, r⟩ := hr hx hby hml hret hlk hnm vm0 k0 hSn hk0 hZ hown hEW hCH T locs X hF hh
  exact ⟨s₂, v, L', XS.lload X.here hx rfl (hb hby hd) hl st, r⟩
theorem lloadN {k : Fin 4} {v : Int64} (hd : decode bs pc = .ok (.lload_n k, 1)) (hl : L[k.val]? = some (.val (.long v))) (hp : pc + 1 = pc') (hr : Go K rm Z n0 bs ml ret own nm Q kc ks h pc' L (.long v :: S)) : Go K rm Z n0 bs ml ret own nm Q kc ks h pc L S := by
  subst hp
  obtain ⟨p, l, e, s, m, args, below, meth, c⟩ := K
  intro hx hby hml hret hlk hnm vm0 k0 hSn hk0 hZ hown hEW hCH T locs X hF hh
  obtain ⟨s₂, v, L', st, r⟩ := hr hx hby hml hret hlk hnm vm0 k0 hSn hk0 hZ hown hEW hCH T locs X hF hh
  exact ⟨s₂, v, L', XS.lloadN X.here hx rfl (hb hby hd) hl st, r⟩
theorem aload {k : Nat} {v : Value} (hd : decode bs pc = .ok (.aload k, 2)) (hl : L[k]? = some (.val v)) (hv : v.isRef = true) (hp : pc + 2 = pc') (hr : Go K rm Z n0 bs ml ret own nm Q kc ks h pc' L (v :: S)) : Go K rm Z n0 bs ml ret own nm Q kc ks h pc L S := by
  subst hp
  obtain ⟨p, l, e, s, m, args, below, meth, c⟩ := K
  intro hx hby hml hret hlk hnm vm0 k0 hSn hk0 hZ hown hEW hCH T locs X hF hh
  obtain ⟨s₂, v, L', st, r⟩ := hr hx hby hml hret hlk hnm vm0 k0 hSn hk0 hZ hown hEW hCH T locs X hF hh
  exact ⟨s₂, v, L', XS.aload X.here hx rfl (hb hby hd) hl hv st, r⟩
theorem aloadN {k : Fin 4} {v : Value} (hd : decode bs pc = .ok (.aload_n k, 1)) (hl : L[k.val]? = some (.val v)) (hv : v.isRef = true) (hp : pc + 1 = pc') (hr : Go K rm Z n0 bs ml ret own nm Q kc ks h pc' L (v :: S)) : Go K rm Z n0 bs ml ret own nm Q kc ks h pc L S := by
  subst hp
  obtain ⟨p, l, e, s, m, args, below, meth, c⟩ := K
  intro hx hby hml hret hlk hnm vm0 k0 hSn hk0 hZ hown hEW hCH T locs X hF hh
  obtain ⟨s₂, v, L', st, r⟩ := hr hx hby hml hret hlk hnm vm0 k0 hSn hk0 hZ hown hEW hCH T locs X hF hh
  exact ⟨s₂, v, L', XS.aloadN X.here hx rfl (hb hby hd) hl hv st, r⟩
theorem istore {k : Nat} {x : Int32} {L1 : Array Slot} (hd : decode bs pc = .ok (.istore k, 2)) (hl : storeLocals L k (.int x) = some L1) (hp : pc + 2 = pc') (hr : Go K rm Z n0 bs ml ret own nm Q kc ks h pc' L1 S) : Go K rm Z n0 bs ml ret own nm Q kc ks h pc L (.int x :: S) := by
  subst hp
  obtain ⟨p, l, e, s, m, args, below, meth, c⟩ := K
  intro hx hby hml hret hlk hnm vm0 k0 hSn hk0 hZ hown hEW hCH T locs X hF hh
  obtain ⟨s₂, v, L', st, r⟩ := hr hx hby hml hret hlk hnm vm0 k0 hSn hk0 hZ hown hEW hCH T locs X hF hh
  exact ⟨s₂, v, L', XS.istore X.here hx rfl (hb hby hd) rfl hl st, r⟩
theorem istoreN {k : Fin 4} {x : Int32} {L1 : Array Slot} (hd : decode bs pc = .ok (.istore_n k, 1)) (hl : storeLocals L k.val (.int x) = some L1) (hp : pc + 1 = pc') (hr : Go K rm Z n0 bs ml ret own nm Q kc ks h pc' L1 S) : Go K rm Z n0 bs ml ret own nm Q kc ks h pc L (.int x :: S) := by
  subst hp
  obtain ⟨p, l, e, s, m, args, below, meth, c⟩ := K
  intro hx hby hml hret hlk hnm vm0 k0 hSn hk0 hZ hown hEW hCH T locs X hF hh
  obtain ⟨s₂, v, L', st, r⟩ := hr hx hby hml hret hlk hnm vm0 k0 hSn hk0 hZ hown hEW hCH T locs X hF hh
  exact ⟨s₂, v, L', XS.istoreN X.here hx rfl (hb hby hd) rfl hl st, r⟩
theorem lstore {k : Nat} {x : Int64} {L1 : Array Slot} (hd : decode bs pc = .ok (.lstore k, 2)) (hl : storeLocals L k (.long x) = some L1) (hp : pc + 2 = pc') (hr : Go K rm Z n0 bs ml ret own nm Q kc ks h pc' L1 S) : Go K rm Z n0 bs ml ret own nm Q kc ks h pc L (.long x :: S) := by
  subst hp
  obtain ⟨p, l, e, s, m, args, below, meth, c⟩ := K
  intro hx hby hml hret hlk hnm vm0 k0 hSn hk0 hZ hown hEW hCH T locs X hF hh
  obtain ⟨s₂, v, L', st, r⟩ := hr hx hby hml hret hlk hnm vm0 k0 hSn hk0 hZ hown hEW hCH T locs X hF hh
  exact ⟨s₂, v, L', XS.lstore X.here hx rfl (hb hby hd) rfl hl st, r⟩
theorem lstoreN {k : Fin 4} {x : Int64} {L1 : Array Slot} (hd : decode bs pc = .ok (.lstore_n k, 1)) (hl : storeLocals L k.val (.long x) = some L1) (hp : pc + 1 = pc') (hr : Go K rm Z n0 bs ml ret own nm Q kc ks h pc' L1 S) : Go K rm Z n0 bs ml ret own nm Q kc ks h pc L (.long x :: S) := by
  subst hp
  obtain ⟨p, l, e, s, m, args, below, meth, c⟩ := K
  intro hx hby hml hret hlk hnm vm0 k0 hSn hk0 hZ hown hEW hCH T locs X hF hh
  obtain ⟨s₂, v, L', st, r⟩ := hr hx hby hml hret hlk hnm vm0 k0 hSn hk0 hZ hown hEW hCH T locs X hF hh
  exact ⟨s₂, v, L', XS.lstoreN X.here hx rfl (hb hby hd) rfl hl st, r⟩
theorem astore {k : Nat} {x : Value} {L1 : Array Slot} (hd : decode bs pc = .ok (.astore k, 2)) (hv : x.isRef = true) (hl : storeLocals L k x = some L1) (hp : pc + 2 = pc') (hr : Go K rm Z n0 bs ml ret own nm Q kc ks h pc' L1 S) : Go K rm Z n0 bs ml ret own nm Q kc ks h pc L (x :: S) := by
  subst hp
  obtain ⟨p, l, e, s, m, args, below, meth, c⟩ := K
  intro hx hby hml hret hlk hnm vm0 k0 hSn hk0 hZ hown hEW hCH T locs X hF hh
  obtain ⟨s₂, v, L', st, r⟩ := hr hx hby hml hret hlk hnm vm0 k0 hSn hk0 hZ hown hEW hCH T locs X hF hh
  exact ⟨s₂, v, L', XS.astore X.here hx rfl (hb hby hd) rfl hv hl st, r⟩
theorem astoreN {k : Fin 4} {x : Value} {L1 : Array Slot} (hd : decode bs pc = .ok (.astore_n k, 1)) (hv : x.isRef = true) (hl : storeLocals L k.val x = some L1) (hp : pc + 1 = pc') (hr : Go K rm Z n0 bs ml ret own nm Q kc ks h pc' L1 S) : Go K rm Z n0 bs ml ret own nm Q kc ks h pc L (x :: S) := by
  subst hp
  obtain ⟨p, l, e, s, m, args, below, meth, c⟩ := K
  intro hx hby hml hret hlk hnm vm0 k0 hSn hk0 hZ hown hEW hCH T locs X hF hh
  obtain ⟨s₂, v, L', st, r⟩ := hr hx hby hml hret hlk hnm vm0 k0 hSn hk0 hZ hown hEW hCH T locs X hF hh
  exact ⟨s₂, v, L', XS.astoreN X.here hx rfl (hb hby hd) rfl hv hl st, r⟩
theorem iconst {i : Int} {v : Int32} (hd : decode bs pc = .ok (.iconst i, 1)) (hv : Int32.ofInt i = v) (hp : pc + 1 = pc') (hr : Go K rm Z n0 bs ml ret own nm Q kc ks h pc' L (.int v :: S)) : Go K rm Z n0 bs ml ret own nm Q kc ks h pc L S := by
  subst hp
  obtain ⟨p, l, e, s, m, args, below, meth, c⟩ := K
  intro hx hby hml hret hlk hnm vm0 k0 hSn hk0 hZ hown hEW hCH T locs X hF hh
  obtain ⟨s₂, v, L', st, r⟩ := hr hx hby hml hret hlk hnm vm0 k0 hSn hk0 hZ hown hEW hCH T locs X hF hh
  exact ⟨s₂, v, L', XS.iconst X.here hx rfl (hb hby hd) (hv ▸ st), r⟩
theorem bipush {i : Int} {v : Int32} (hd : decode bs pc = .ok (.bipush i, 2)) (hv : (Int8.ofInt i).toInt32 = v) (hp : pc + 2 = pc') (hr : Go K rm Z n0 bs ml ret own nm Q kc ks h pc' L (.int v :: S)) : Go K rm Z n0 bs ml ret own nm Q kc ks h pc L S := by
  subst hp
  obtain ⟨p, l, e, s, m, args, below, meth, c⟩ := K
  intro hx hby hml hret hlk hnm vm0 k0 hSn hk0 hZ hown hEW hCH T locs X hF hh
  obtain ⟨s₂, v, L', st, r⟩ := hr hx hby hml hret hlk hnm vm0 k0 hSn hk0 hZ hown hEW hCH T locs X hF hh
  exact ⟨s₂, v, L', XS.bipush X.here hx rfl (hb hby hd) (hv ▸ st), r⟩
theorem sipush {i : Int} {v : Int32} (hd : decode bs pc = .ok (.sipush i, 3)) (hv : (Int16.ofInt i).toInt32 = v) (hp : pc + 3 = pc') (hr : Go K rm Z n0 bs ml ret own nm Q kc ks h pc' L (.int v :: S)) : Go K rm Z n0 bs ml ret own nm Q kc ks h pc L S := by
  subst hp
  obtain ⟨p, l, e, s, m, args, below, meth, c⟩ := K
  intro hx hby hml hret hlk hnm vm0 k0 hSn hk0 hZ hown hEW hCH T locs X hF hh
  obtain ⟨s₂, v, L', st, r⟩ := hr hx hby hml hret hlk hnm vm0 k0 hSn hk0 hZ hown hEW hCH T locs X hF hh
  exact ⟨s₂, v, L', XS.sipush X.here hx rfl (hb hby hd) (hv ▸ st), r⟩
theorem aconstNull  (hd : decode bs pc = .ok (.aconst_null, 1)) (hp : pc + 1 = pc') (hr : Go K rm Z n0 bs ml ret own nm Q kc ks h pc' L (.null :: S)) : Go K rm Z n0 bs ml ret own nm Q kc ks h pc L S := by
  subst hp
  obtain ⟨p, l, e, s, m, args, below, meth, c⟩ := K
  intro hx hby hml hret hlk hnm vm0 k0 hSn hk0 hZ hown hEW hCH T locs X hF hh
  obtain ⟨s₂, v, L', st, r⟩ := hr hx hby hml hret hlk hnm vm0 k0 hSn hk0 hZ hown hEW hCH T locs X hF hh
  exact ⟨s₂, v, L', XS.aconstNull X.here hx rfl (hb hby hd) st, r⟩
theorem lconst0  (hd : decode bs pc = .ok (.lconst 0, 1)) (hp : pc + 1 = pc') (hr : Go K rm Z n0 bs ml ret own nm Q kc ks h pc' L (.long 0 :: S)) : Go K rm Z n0 bs ml ret own nm Q kc ks h pc L S := by
  subst hp
  obtain ⟨p, l, e, s, m, args, below, meth, c⟩ := K
  intro hx hby hml hret hlk hnm vm0 k0 hSn hk0 hZ hown hEW hCH T locs X hF hh
  obtain ⟨s₂, v, L', st, r⟩ := hr hx hby hml hret hlk hnm vm0 k0 hSn hk0 hZ hown hEW hCH T locs X hF hh
  exact ⟨s₂, v, L', XS.lconst X.here hx rfl (hb hby hd) st, r⟩
theorem lconst1  (hd : decode bs pc = .ok (.lconst 1, 1)) (hp : pc + 1 = pc') (hr : Go K rm Z n0 bs ml ret own nm Q kc ks h pc' L (.long 1 :: S)) : Go K rm Z n0 bs ml ret own nm Q kc ks h pc L S := by
  subst hp
  obtain ⟨p, l, e, s, m, args, below, meth, c⟩ := K
  intro hx hby hml hret hlk hnm vm0 k0 hSn hk0 hZ hown hEW hCH T locs X hF hh
  obtain ⟨s₂, v, L', st, r⟩ := hr hx hby hml hret hlk hnm vm0 k0 hSn hk0 hZ hown hEW hCH T locs X hF hh
  exact ⟨s₂, v, L', XS.lconst X.here hx rfl (hb hby hd) st, r⟩
theorem ldcInt {i : Nat} {v : Int32} (hd : decode bs pc = .ok (.ldc i, 2)) (w : (Jvm.Cond.constant own i v).before a0 Z = true) (hp : pc + 2 = pc') (hr : Go K rm Z n0 bs ml ret own nm Q kc ks h pc' L (.int v :: S)) : Go K rm Z n0 bs ml ret own nm Q kc ks h pc L S := by
  subst hp
  obtain ⟨p, l, e, s, m, args, below, meth, c⟩ := K
  intro hx hby hml hret hlk hnm vm0 k0 hSn hk0 hZ hown hEW hCH T locs X hF hh
  obtain ⟨s₂, v, L', st, r⟩ := hr hx hby hml hret hlk hnm vm0 k0 hSn hk0 hZ hown hEW hCH T locs X hF hh
  exact ⟨s₂, v, L', X.ldcInt hx hown (mvT hZ w) (g := mkF m pc L S) rfl (hb hby hd) _ st, r⟩
theorem ldc2Long {i : Nat} {v : Int64} (hd : decode bs pc = .ok (.ldc2_w i, 3)) (w : (Jvm.Cond.constantLong own i v).before a0 Z = true) (hp : pc + 3 = pc') (hr : Go K rm Z n0 bs ml ret own nm Q kc ks h pc' L (.long v :: S)) : Go K rm Z n0 bs ml ret own nm Q kc ks h pc L S := by
  subst hp
  obtain ⟨p, l, e, s, m, args, below, meth, c⟩ := K
  intro hx hby hml hret hlk hnm vm0 k0 hSn hk0 hZ hown hEW hCH T locs X hF hh
  obtain ⟨s₂, v, L', st, r⟩ := hr hx hby hml hret hlk hnm vm0 k0 hSn hk0 hZ hown hEW hCH T locs X hF hh
  exact ⟨s₂, v, L', X.ldc2Long hx hown (mvT hZ w) (g := mkF m pc L S) rfl (hb hby hd) _ st, r⟩
theorem iadd {x y : Int32} (hd : decode bs pc = .ok (.iadd, 1)) (hp : pc + 1 = pc') (hr : ∀ z, z = x + y → Go K rm Z n0 bs ml ret own nm Q kc ks h pc' L (.int z :: S)) : Go K rm Z n0 bs ml ret own nm Q kc ks h pc L (.int y :: .int x :: S) := by
  subst hp
  obtain ⟨p, l, e, s, m, args, below, meth, c⟩ := K
  intro hx hby hml hret hlk hnm vm0 k0 hSn hk0 hZ hown hEW hCH T locs X hF hh
  obtain ⟨s₂, v, L', st, r⟩ := hr _ rfl hx hby hml hret hlk hnm vm0 k0 hSn hk0 hZ hown hEW hCH T locs X hF hh
  exact ⟨s₂, v, L', XS.iadd X.here hx rfl (hb hby hd) rfl st, r⟩
theorem iaddE {x y : Int32} {z : Int32} (hd : decode bs pc = .ok (.iadd, 1)) (hp : pc + 1 = pc') (hz : x + y = z) (hr : Go K rm Z n0 bs ml ret own nm Q kc ks h pc' L (.int z :: S)) : Go K rm Z n0 bs ml ret own nm Q kc ks h pc L (.int y :: .int x :: S) :=
  iadd hd hp fun z' e => by obtain rfl : z' = z := e.trans hz; exact hr
theorem isub {x y : Int32} (hd : decode bs pc = .ok (.isub, 1)) (hp : pc + 1 = pc') (hr : ∀ z, z = x - y → Go K rm Z n0 bs ml ret own nm Q kc ks h pc' L (.int z :: S)) : Go K rm Z n0 bs ml ret own nm Q kc ks h pc L (.int y :: .int x :: S) := by
  subst hp
  obtain ⟨p, l, e, s, m, args, below, meth, c⟩ := K
  intro hx hby hml hret hlk hnm vm0 k0 hSn hk0 hZ hown hEW hCH T locs X hF hh
  obtain ⟨s₂, v, L', st, r⟩ := hr _ rfl hx hby hml hret hlk hnm vm0 k0 hSn hk0 hZ hown hEW hCH T locs X hF hh
  exact ⟨s₂, v, L', XS.isub X.here hx rfl (hb hby hd) rfl st, r⟩
theorem isubE {x y : Int32} {z : Int32} (hd : decode bs pc = .ok (.isub, 1)) (hp : pc + 1 = pc') (hz : x - y = z) (hr : Go K rm Z n0 bs ml ret own nm Q kc ks h pc' L (.int z :: S)) : Go K rm Z n0 bs ml ret own nm Q kc ks h pc L (.int y :: .int x :: S) :=
  isub hd hp fun z' e => by obtain rfl : z' = z := e.trans hz; exact hr
theorem imul {x y : Int32} (hd : decode bs pc = .ok (.imul, 1)) (hp : pc + 1 = pc') (hr : ∀ z, z = x * y → Go K rm Z n0 bs ml ret own nm Q kc ks h pc' L (.int z :: S)) : Go K rm Z n0 bs ml ret own nm Q kc ks h pc L (.int y :: .int x :: S) := by
  subst hp
  obtain ⟨p, l, e, s, m, args, below, meth, c⟩ := K
  intro hx hby hml hret hlk hnm vm0 k0 hSn hk0 hZ hown hEW hCH T locs X hF hh
  obtain ⟨s₂, v, L', st, r⟩ := hr _ rfl hx hby hml hret hlk hnm vm0 k0 hSn hk0 hZ hown hEW hCH T locs X hF hh
  exact ⟨s₂, v, L', XS.imul X.here hx rfl (hb hby hd) rfl st, r⟩
theorem imulE {x y : Int32} {z : Int32} (hd : decode bs pc = .ok (.imul, 1)) (hp : pc + 1 = pc') (hz : x * y = z) (hr : Go K rm Z n0 bs ml ret own nm Q kc ks h pc' L (.int z :: S)) : Go K rm Z n0 bs ml ret own nm Q kc ks h pc L (.int y :: .int x :: S) :=
  imul hd hp fun z' e => by obtain rfl : z' = z := e.trans hz; exact hr
theorem iand {x y : Int32} (hd : decode bs pc = .ok (.iand, 1)) (hp : pc + 1 = pc') (hr : ∀ z, z = x &&& y → Go K rm Z n0 bs ml ret own nm Q kc ks h pc' L (.int z :: S)) : Go K rm Z n0 bs ml ret own nm Q kc ks h pc L (.int y :: .int x :: S) := by
  subst hp
  obtain ⟨p, l, e, s, m, args, below, meth, c⟩ := K
  intro hx hby hml hret hlk hnm vm0 k0 hSn hk0 hZ hown hEW hCH T locs X hF hh
  obtain ⟨s₂, v, L', st, r⟩ := hr _ rfl hx hby hml hret hlk hnm vm0 k0 hSn hk0 hZ hown hEW hCH T locs X hF hh
  exact ⟨s₂, v, L', XS.iand X.here hx rfl (hb hby hd) rfl st, r⟩
theorem iandE {x y : Int32} {z : Int32} (hd : decode bs pc = .ok (.iand, 1)) (hp : pc + 1 = pc') (hz : x &&& y = z) (hr : Go K rm Z n0 bs ml ret own nm Q kc ks h pc' L (.int z :: S)) : Go K rm Z n0 bs ml ret own nm Q kc ks h pc L (.int y :: .int x :: S) :=
  iand hd hp fun z' e => by obtain rfl : z' = z := e.trans hz; exact hr
theorem ior {x y : Int32} (hd : decode bs pc = .ok (.ior, 1)) (hp : pc + 1 = pc') (hr : ∀ z, z = x ||| y → Go K rm Z n0 bs ml ret own nm Q kc ks h pc' L (.int z :: S)) : Go K rm Z n0 bs ml ret own nm Q kc ks h pc L (.int y :: .int x :: S) := by
  subst hp
  obtain ⟨p, l, e, s, m, args, below, meth, c⟩ := K
  intro hx hby hml hret hlk hnm vm0 k0 hSn hk0 hZ hown hEW hCH T locs X hF hh
  obtain ⟨s₂, v, L', st, r⟩ := hr _ rfl hx hby hml hret hlk hnm vm0 k0 hSn hk0 hZ hown hEW hCH T locs X hF hh
  exact ⟨s₂, v, L', XS.ior X.here hx rfl (hb hby hd) rfl st, r⟩
theorem iorE {x y : Int32} {z : Int32} (hd : decode bs pc = .ok (.ior, 1)) (hp : pc + 1 = pc') (hz : x ||| y = z) (hr : Go K rm Z n0 bs ml ret own nm Q kc ks h pc' L (.int z :: S)) : Go K rm Z n0 bs ml ret own nm Q kc ks h pc L (.int y :: .int x :: S) :=
  ior hd hp fun z' e => by obtain rfl : z' = z := e.trans hz; exact hr
theorem ixor {x y : Int32} (hd : decode bs pc = .ok (.ixor, 1)) (hp : pc + 1 = pc') (hr : ∀ z, z = x ^^^ y → Go K rm Z n0 bs ml ret own nm Q kc ks h pc' L (.int z :: S)) : Go K rm Z n0 bs ml ret own nm Q kc ks h pc L (.int y :: .int x :: S) := by
  subst hp
  obtain ⟨p, l, e, s, m, args, below, meth, c⟩ := K
  intro hx hby hml hret hlk hnm vm0 k0 hSn hk0 hZ hown hEW hCH T locs X hF hh
  obtain ⟨s₂, v, L', st, r⟩ := hr _ rfl hx hby hml hret hlk hnm vm0 k0 hSn hk0 hZ hown hEW hCH T locs X hF hh
  exact ⟨s₂, v, L', XS.ixor X.here hx rfl (hb hby hd) rfl st, r⟩
theorem ixorE {x y : Int32} {z : Int32} (hd : decode bs pc = .ok (.ixor, 1)) (hp : pc + 1 = pc') (hz : x ^^^ y = z) (hr : Go K rm Z n0 bs ml ret own nm Q kc ks h pc' L (.int z :: S)) : Go K rm Z n0 bs ml ret own nm Q kc ks h pc L (.int y :: .int x :: S) :=
  ixor hd hp fun z' e => by obtain rfl : z' = z := e.trans hz; exact hr
theorem ishl {x y : Int32} (hd : decode bs pc = .ok (.ishl, 1)) (hp : pc + 1 = pc') (hr : ∀ z, z = x <<< (y &&& 31) → Go K rm Z n0 bs ml ret own nm Q kc ks h pc' L (.int z :: S)) : Go K rm Z n0 bs ml ret own nm Q kc ks h pc L (.int y :: .int x :: S) := by
  subst hp
  obtain ⟨p, l, e, s, m, args, below, meth, c⟩ := K
  intro hx hby hml hret hlk hnm vm0 k0 hSn hk0 hZ hown hEW hCH T locs X hF hh
  obtain ⟨s₂, v, L', st, r⟩ := hr _ rfl hx hby hml hret hlk hnm vm0 k0 hSn hk0 hZ hown hEW hCH T locs X hF hh
  exact ⟨s₂, v, L', XS.ishl X.here hx rfl (hb hby hd) rfl st, r⟩
theorem ishlE {x y : Int32} {z : Int32} (hd : decode bs pc = .ok (.ishl, 1)) (hp : pc + 1 = pc') (hz : x <<< (y &&& 31) = z) (hr : Go K rm Z n0 bs ml ret own nm Q kc ks h pc' L (.int z :: S)) : Go K rm Z n0 bs ml ret own nm Q kc ks h pc L (.int y :: .int x :: S) :=
  ishl hd hp fun z' e => by obtain rfl : z' = z := e.trans hz; exact hr
theorem ishr {x y : Int32} (hd : decode bs pc = .ok (.ishr, 1)) (hp : pc + 1 = pc') (hr : ∀ z, z = x >>> (y &&& 31) → Go K rm Z n0 bs ml ret own nm Q kc ks h pc' L (.int z :: S)) : Go K rm Z n0 bs ml ret own nm Q kc ks h pc L (.int y :: .int x :: S) := by
  subst hp
  obtain ⟨p, l, e, s, m, args, below, meth, c⟩ := K
  intro hx hby hml hret hlk hnm vm0 k0 hSn hk0 hZ hown hEW hCH T locs X hF hh
  obtain ⟨s₂, v, L', st, r⟩ := hr _ rfl hx hby hml hret hlk hnm vm0 k0 hSn hk0 hZ hown hEW hCH T locs X hF hh
  exact ⟨s₂, v, L', XS.ishr X.here hx rfl (hb hby hd) rfl st, r⟩
theorem ishrE {x y : Int32} {z : Int32} (hd : decode bs pc = .ok (.ishr, 1)) (hp : pc + 1 = pc') (hz : x >>> (y &&& 31) = z) (hr : Go K rm Z n0 bs ml ret own nm Q kc ks h pc' L (.int z :: S)) : Go K rm Z n0 bs ml ret own nm Q kc ks h pc L (.int y :: .int x :: S) :=
  ishr hd hp fun z' e => by obtain rfl : z' = z := e.trans hz; exact hr
theorem iushr {x y : Int32} (hd : decode bs pc = .ok (.iushr, 1)) (hp : pc + 1 = pc') (hr : ∀ z, z = Jvm.Own.ushr x y → Go K rm Z n0 bs ml ret own nm Q kc ks h pc' L (.int z :: S)) : Go K rm Z n0 bs ml ret own nm Q kc ks h pc L (.int y :: .int x :: S) := by
  subst hp
  obtain ⟨p, l, e, s, m, args, below, meth, c⟩ := K
  intro hx hby hml hret hlk hnm vm0 k0 hSn hk0 hZ hown hEW hCH T locs X hF hh
  obtain ⟨s₂, v, L', st, r⟩ := hr _ rfl hx hby hml hret hlk hnm vm0 k0 hSn hk0 hZ hown hEW hCH T locs X hF hh
  exact ⟨s₂, v, L', XS.iushr X.here hx rfl (hb hby hd) rfl st, r⟩
theorem iushrE {x y : Int32} {z : Int32} (hd : decode bs pc = .ok (.iushr, 1)) (hp : pc + 1 = pc') (hz : Jvm.Own.ushr x y = z) (hr : Go K rm Z n0 bs ml ret own nm Q kc ks h pc' L (.int z :: S)) : Go K rm Z n0 bs ml ret own nm Q kc ks h pc L (.int y :: .int x :: S) :=
  iushr hd hp fun z' e => by obtain rfl : z' = z := e.trans hz; exact hr
theorem ladd {x y : Int64} (hd : decode bs pc = .ok (.ladd, 1)) (hp : pc + 1 = pc') (hr : ∀ z, z = x + y → Go K rm Z n0 bs ml ret own nm Q kc ks h pc' L (.long z :: S)) : Go K rm Z n0 bs ml ret own nm Q kc ks h pc L (.long y :: .long x :: S) := by
  subst hp
  obtain ⟨p, l, e, s, m, args, below, meth, c⟩ := K
  intro hx hby hml hret hlk hnm vm0 k0 hSn hk0 hZ hown hEW hCH T locs X hF hh
  obtain ⟨s₂, v, L', st, r⟩ := hr _ rfl hx hby hml hret hlk hnm vm0 k0 hSn hk0 hZ hown hEW hCH T locs X hF hh
  exact ⟨s₂, v, L', XS.ladd X.here hx rfl (hb hby hd) rfl st, r⟩
theorem laddE {x y : Int64} {z : Int64} (hd : decode bs pc = .ok (.ladd, 1)) (hp : pc + 1 = pc') (hz : x + y = z) (hr : Go K rm Z n0 bs ml ret own nm Q kc ks h pc' L (.long z :: S)) : Go K rm Z n0 bs ml ret own nm Q kc ks h pc L (.long y :: .long x :: S) :=
  ladd hd hp fun z' e => by obtain rfl : z' = z := e.trans hz; exact hr
theorem lsub {x y : Int64} (hd : decode bs pc = .ok (.lsub, 1)) (hp : pc + 1 = pc') (hr : ∀ z, z = x - y → Go K rm Z n0 bs ml ret own nm Q kc ks h pc' L (.long z :: S)) : Go K rm Z n0 bs ml ret own nm Q kc ks h pc L (.long y :: .long x :: S) := by
  subst hp
  obtain ⟨p, l, e, s, m, args, below, meth, c⟩ := K
  intro hx hby hml hret hlk hnm vm0 k0 hSn hk0 hZ hown hEW hCH T locs X hF hh
  obtain ⟨s₂, v, L', st, r⟩ := hr _ rfl hx hby hml hret hlk hnm vm0 k0 hSn hk0 hZ hown hEW hCH T locs X hF hh
  exact ⟨s₂, v, L', XS.lsub X.here hx rfl (hb hby hd) rfl st, r⟩
theorem lsubE {x y : Int64} {z : Int64} (hd : decode bs pc = .ok (.lsub, 1)) (hp : pc + 1 = pc') (hz : x - y = z) (hr : Go K rm Z n0 bs ml ret own nm Q kc ks h pc' L (.long z :: S)) : Go K rm Z n0 bs ml ret own nm Q kc ks h pc L (.long y :: .long x :: S) :=
  lsub hd hp fun z' e => by obtain rfl : z' = z := e.trans hz; exact hr
theorem lmul {x y : Int64} (hd : decode bs pc = .ok (.lmul, 1)) (hp : pc + 1 = pc') (hr : ∀ z, z = x * y → Go K rm Z n0 bs ml ret own nm Q kc ks h pc' L (.long z :: S)) : Go K rm Z n0 bs ml ret own nm Q kc ks h pc L (.long y :: .long x :: S) := by
  subst hp
  obtain ⟨p, l, e, s, m, args, below, meth, c⟩ := K
  intro hx hby hml hret hlk hnm vm0 k0 hSn hk0 hZ hown hEW hCH T locs X hF hh
  obtain ⟨s₂, v, L', st, r⟩ := hr _ rfl hx hby hml hret hlk hnm vm0 k0 hSn hk0 hZ hown hEW hCH T locs X hF hh
  exact ⟨s₂, v, L', XS.lmul X.here hx rfl (hb hby hd) rfl st, r⟩
theorem lmulE {x y : Int64} {z : Int64} (hd : decode bs pc = .ok (.lmul, 1)) (hp : pc + 1 = pc') (hz : x * y = z) (hr : Go K rm Z n0 bs ml ret own nm Q kc ks h pc' L (.long z :: S)) : Go K rm Z n0 bs ml ret own nm Q kc ks h pc L (.long y :: .long x :: S) :=
  lmul hd hp fun z' e => by obtain rfl : z' = z := e.trans hz; exact hr
theorem land {x y : Int64} (hd : decode bs pc = .ok (.land, 1)) (hp : pc + 1 = pc') (hr : ∀ z, z = x &&& y → Go K rm Z n0 bs ml ret own nm Q kc ks h pc' L (.long z :: S)) : Go K rm Z n0 bs ml ret own nm Q kc ks h pc L (.long y :: .long x :: S) := by
  subst hp
  obtain ⟨p, l, e, s, m, args, below, meth, c⟩ := K
  intro hx hby hml hret hlk hnm vm0 k0 hSn hk0 hZ hown hEW hCH T locs X hF hh
  obtain ⟨s₂, v, L', st, r⟩ := hr _ rfl hx hby hml hret hlk hnm vm0 k0 hSn hk0 hZ hown hEW hCH T locs X hF hh
  exact ⟨s₂, v, L', XS.land X.here hx rfl (hb hby hd) rfl st, r⟩
theorem landE {x y : Int64} {z : Int64} (hd : decode bs pc = .ok (.land, 1)) (hp : pc + 1 = pc') (hz : x &&& y = z) (hr : Go K rm Z n0 bs ml ret own nm Q kc ks h pc' L (.long z :: S)) : Go K rm Z n0 bs ml ret own nm Q kc ks h pc L (.long y :: .long x :: S) :=
  land hd hp fun z' e => by obtain rfl : z' = z := e.trans hz; exact hr
theorem lor {x y : Int64} (hd : decode bs pc = .ok (.lor, 1)) (hp : pc + 1 = pc') (hr : ∀ z, z = x ||| y → Go K rm Z n0 bs ml ret own nm Q kc ks h pc' L (.long z :: S)) : Go K rm Z n0 bs ml ret own nm Q kc ks h pc L (.long y :: .long x :: S) := by
  subst hp
  obtain ⟨p, l, e, s, m, args, below, meth, c⟩ := K
  intro hx hby hml hret hlk hnm vm0 k0 hSn hk0 hZ hown hEW hCH T locs X hF hh
  obtain ⟨s₂, v, L', st, r⟩ := hr _ rfl hx hby hml hret hlk hnm vm0 k0 hSn hk0 hZ hown hEW hCH T locs X hF hh
  exact ⟨s₂, v, L', XS.lor X.here hx rfl (hb hby hd) rfl st, r⟩
theorem lorE {x y : Int64} {z : Int64} (hd : decode bs pc = .ok (.lor, 1)) (hp : pc + 1 = pc') (hz : x ||| y = z) (hr : Go K rm Z n0 bs ml ret own nm Q kc ks h pc' L (.long z :: S)) : Go K rm Z n0 bs ml ret own nm Q kc ks h pc L (.long y :: .long x :: S) :=
  lor hd hp fun z' e => by obtain rfl : z' = z := e.trans hz; exact hr
theorem lxor {x y : Int64} (hd : decode bs pc = .ok (.lxor, 1)) (hp : pc + 1 = pc') (hr : ∀ z, z = x ^^^ y → Go K rm Z n0 bs ml ret own nm Q kc ks h pc' L (.long z :: S)) : Go K rm Z n0 bs ml ret own nm Q kc ks h pc L (.long y :: .long x :: S) := by
  subst hp
  obtain ⟨p, l, e, s, m, args, below, meth, c⟩ := K
  intro hx hby hml hret hlk hnm vm0 k0 hSn hk0 hZ hown hEW hCH T locs X hF hh
  obtain ⟨s₂, v, L', st, r⟩ := hr _ rfl hx hby hml hret hlk hnm vm0 k0 hSn hk0 hZ hown hEW hCH T locs X hF hh
  exact ⟨s₂, v, L', XS.lxor X.here hx rfl (hb hby hd) rfl st, r⟩
theorem lxorE {x y : Int64} {z : Int64} (hd : decode bs pc = .ok (.lxor, 1)) (hp : pc + 1 = pc') (hz : x ^^^ y = z) (hr : Go K rm Z n0 bs ml ret own nm Q kc ks h pc' L (.long z :: S)) : Go K rm Z n0 bs ml ret own nm Q kc ks h pc L (.long y :: .long x :: S) :=
  lxor hd hp fun z' e => by obtain rfl : z' = z := e.trans hz; exact hr
theorem lshl {x : Int64} {y : Int32} (hd : decode bs pc = .ok (.lshl, 1)) (hp : pc + 1 = pc') (hr : ∀ z, z = x <<< (y &&& 63).toInt64 → Go K rm Z n0 bs ml ret own nm Q kc ks h pc' L (.long z :: S)) : Go K rm Z n0 bs ml ret own nm Q kc ks h pc L (.int y :: .long x :: S) := by
  subst hp
  obtain ⟨p, l, e, s, m, args, below, meth, c⟩ := K
  intro hx hby hml hret hlk hnm vm0 k0 hSn hk0 hZ hown hEW hCH T locs X hF hh
  obtain ⟨s₂, v, L', st, r⟩ := hr _ rfl hx hby hml hret hlk hnm vm0 k0 hSn hk0 hZ hown hEW hCH T locs X hF hh
  exact ⟨s₂, v, L', XS.lshl X.here hx rfl (hb hby hd) rfl st, r⟩
theorem lshlE {x : Int64} {y : Int32} {z : Int64} (hd : decode bs pc = .ok (.lshl, 1)) (hp : pc + 1 = pc') (hz : x <<< (y &&& 63).toInt64 = z) (hr : Go K rm Z n0 bs ml ret own nm Q kc ks h pc' L (.long z :: S)) : Go K rm Z n0 bs ml ret own nm Q kc ks h pc L (.int y :: .long x :: S) :=
  lshl hd hp fun z' e => by obtain rfl : z' = z := e.trans hz; exact hr
theorem lshr {x : Int64} {y : Int32} (hd : decode bs pc = .ok (.lshr, 1)) (hp : pc + 1 = pc') (hr : ∀ z, z = x >>> (y &&& 63).toInt64 → Go K rm Z n0 bs ml ret own nm Q kc ks h pc' L (.long z :: S)) : Go K rm Z n0 bs ml ret own nm Q kc ks h pc L (.int y :: .long x :: S) := by
  subst hp
  obtain ⟨p, l, e, s, m, args, below, meth, c⟩ := K
  intro hx hby hml hret hlk hnm vm0 k0 hSn hk0 hZ hown hEW hCH T locs X hF hh
  obtain ⟨s₂, v, L', st, r⟩ := hr _ rfl hx hby hml hret hlk hnm vm0 k0 hSn hk0 hZ hown hEW hCH T locs X hF hh
  exact ⟨s₂, v, L', XS.lshr X.here hx rfl (hb hby hd) rfl st, r⟩
theorem lshrE {x : Int64} {y : Int32} {z : Int64} (hd : decode bs pc = .ok (.lshr, 1)) (hp : pc + 1 = pc') (hz : x >>> (y &&& 63).toInt64 = z) (hr : Go K rm Z n0 bs ml ret own nm Q kc ks h pc' L (.long z :: S)) : Go K rm Z n0 bs ml ret own nm Q kc ks h pc L (.int y :: .long x :: S) :=
  lshr hd hp fun z' e => by obtain rfl : z' = z := e.trans hz; exact hr
theorem lushr {x : Int64} {y : Int32} (hd : decode bs pc = .ok (.lushr, 1)) (hp : pc + 1 = pc') (hr : ∀ z, z = Jvm.Own.ushrL x y → Go K rm Z n0 bs ml ret own nm Q kc ks h pc' L (.long z :: S)) : Go K rm Z n0 bs ml ret own nm Q kc ks h pc L (.int y :: .long x :: S) := by
  subst hp
  obtain ⟨p, l, e, s, m, args, below, meth, c⟩ := K
  intro hx hby hml hret hlk hnm vm0 k0 hSn hk0 hZ hown hEW hCH T locs X hF hh
  obtain ⟨s₂, v, L', st, r⟩ := hr _ rfl hx hby hml hret hlk hnm vm0 k0 hSn hk0 hZ hown hEW hCH T locs X hF hh
  exact ⟨s₂, v, L', XS.lushr X.here hx rfl (hb hby hd) rfl st, r⟩
theorem lushrE {x : Int64} {y : Int32} {z : Int64} (hd : decode bs pc = .ok (.lushr, 1)) (hp : pc + 1 = pc') (hz : Jvm.Own.ushrL x y = z) (hr : Go K rm Z n0 bs ml ret own nm Q kc ks h pc' L (.long z :: S)) : Go K rm Z n0 bs ml ret own nm Q kc ks h pc L (.int y :: .long x :: S) :=
  lushr hd hp fun z' e => by obtain rfl : z' = z := e.trans hz; exact hr
theorem idiv {x y : Int32} (hd : decode bs pc = .ok (.idiv, 1)) (hy : y ≠ 0) (hp : pc + 1 = pc') (hr : ∀ z, z = x / y → Go K rm Z n0 bs ml ret own nm Q kc ks h pc' L (.int z :: S)) : Go K rm Z n0 bs ml ret own nm Q kc ks h pc L (.int y :: .int x :: S) := by
  subst hp
  obtain ⟨p, l, e, s, m, args, below, meth, c⟩ := K
  intro hx hby hml hret hlk hnm vm0 k0 hSn hk0 hZ hown hEW hCH T locs X hF hh
  obtain ⟨s₂, v, L', st, r⟩ := hr _ rfl hx hby hml hret hlk hnm vm0 k0 hSn hk0 hZ hown hEW hCH T locs X hF hh
  exact ⟨s₂, v, L', XS.idiv X.here hx rfl (hb hby hd) rfl hy st, r⟩
theorem idivE {x y : Int32} {z : Int32} (hd : decode bs pc = .ok (.idiv, 1)) (hy : y ≠ 0) (hp : pc + 1 = pc') (hz : x / y = z) (hr : Go K rm Z n0 bs ml ret own nm Q kc ks h pc' L (.int z :: S)) : Go K rm Z n0 bs ml ret own nm Q kc ks h pc L (.int y :: .int x :: S) :=
  idiv hd hy hp fun z' e => by obtain rfl : z' = z := e.trans hz; exact hr
theorem irem {x y : Int32} (hd : decode bs pc = .ok (.irem, 1)) (hy : y ≠ 0) (hp : pc + 1 = pc') (hr : ∀ z, z = x % y → Go K rm Z n0 bs ml ret own nm Q kc ks h pc' L (.int z :: S)) : Go K rm Z n0 bs ml ret own nm Q kc ks h pc L (.int y :: .int x :: S) := by
  subst hp
  obtain ⟨p, l, e, s, m, args, below, meth, c⟩ := K
  intro hx hby hml hret hlk hnm vm0 k0 hSn hk0 hZ hown hEW hCH T locs X hF hh
  obtain ⟨s₂, v, L', st, r⟩ := hr _ rfl hx hby hml hret hlk hnm vm0 k0 hSn hk0 hZ hown hEW hCH T locs X hF hh
  exact ⟨s₂, v, L', iremM X hx rfl (hb hby hd) rfl hy st, r⟩
theorem iremE {x y : Int32} {z : Int32} (hd : decode bs pc = .ok (.irem, 1)) (hy : y ≠ 0) (hp : pc + 1 = pc') (hz : x % y = z) (hr : Go K rm Z n0 bs ml ret own nm Q kc ks h pc' L (.int z :: S)) : Go K rm Z n0 bs ml ret own nm Q kc ks h pc L (.int y :: .int x :: S) :=
  irem hd hy hp fun z' e => by obtain rfl : z' = z := e.trans hz; exact hr
theorem ldiv {x y : Int64} (hd : decode bs pc = .ok (.ldiv, 1)) (hy : y ≠ 0) (hp : pc + 1 = pc') (hr : ∀ z, z = x / y → Go K rm Z n0 bs ml ret own nm Q kc ks h pc' L (.long z :: S)) : Go K rm Z n0 bs ml ret own nm Q kc ks h pc L (.long y :: .long x :: S) := by
  subst hp
  obtain ⟨p, l, e, s, m, args, below, meth, c⟩ := K
  intro hx hby hml hret hlk hnm vm0 k0 hSn hk0 hZ hown hEW hCH T locs X hF hh
  obtain ⟨s₂, v, L', st, r⟩ := hr _ rfl hx hby hml hret hlk hnm vm0 k0 hSn hk0 hZ hown hEW hCH T locs X hF hh
  exact ⟨s₂, v, L', XS.ldiv X.here hx rfl (hb hby hd) rfl hy st, r⟩
theorem ldivE {x y : Int64} {z : Int64} (hd : decode bs pc = .ok (.ldiv, 1)) (hy : y ≠ 0) (hp : pc + 1 = pc') (hz : x / y = z) (hr : Go K rm Z n0 bs ml ret own nm Q kc ks h pc' L (.long z :: S)) : Go K rm Z n0 bs ml ret own nm Q kc ks h pc L (.long y :: .long x :: S) :=
  ldiv hd hy hp fun z' e => by obtain rfl : z' = z := e.trans hz; exact hr
theorem lrem {x y : Int64} (hd : decode bs pc = .ok (.lrem, 1)) (hy : y ≠ 0) (hp : pc + 1 = pc') (hr : ∀ z, z = x - (x / y) * y → Go K rm Z n0 bs ml ret own nm Q kc ks h pc' L (.long z :: S)) : Go K rm Z n0 bs ml ret own nm Q kc ks h pc L (.long y :: .long x :: S) := by
  subst hp
  obtain ⟨p, l, e, s, m, args, below, meth, c⟩ := K
  intro hx hby hml hret hlk hnm vm0 k0 hSn hk0 hZ hown hEW hCH T locs X hF hh
  obtain ⟨s₂, v, L', st, r⟩ := hr _ rfl hx hby hml hret hlk hnm vm0 k0 hSn hk0 hZ hown hEW hCH T locs X hF hh
  exact ⟨s₂, v, L', XS.lrem X.here hx rfl (hb hby hd) rfl hy st, r⟩
theorem lremE {x y : Int64} {z : Int64} (hd : decode bs pc = .ok (.lrem, 1)) (hy : y ≠ 0) (hp : pc + 1 = pc') (hz : x - (x / y) * y = z) (hr : Go K rm Z n0 bs ml ret own nm Q kc ks h pc' L (.long z :: S)) : Go K rm Z n0 bs ml ret own nm Q kc ks h pc L (.long y :: .long x :: S) :=
  lrem hd hy hp fun z' e => by obtain rfl : z' = z := e.trans hz; exact hr
theorem ineg {x : Int32} (hd : decode bs pc = .ok (.ineg, 1)) (hp : pc + 1 = pc') (hr : ∀ z, z = -x → Go K rm Z n0 bs ml ret own nm Q kc ks h pc' L (.int z :: S)) : Go K rm Z n0 bs ml ret own nm Q kc ks h pc L (.int x :: S) := by
  subst hp
  obtain ⟨p, l, e, s, m, args, below, meth, c⟩ := K
  intro hx hby hml hret hlk hnm vm0 k0 hSn hk0 hZ hown hEW hCH T locs X hF hh
  obtain ⟨s₂, v, L', st, r⟩ := hr _ rfl hx hby hml hret hlk hnm vm0 k0 hSn hk0 hZ hown hEW hCH T locs X hF hh
  exact ⟨s₂, v, L', XS.ineg X.here hx rfl (hb hby hd) rfl st, r⟩
theorem inegE {x : Int32} {z : Int32} (hd : decode bs pc = .ok (.ineg, 1)) (hp : pc + 1 = pc') (hz : -x = z) (hr : Go K rm Z n0 bs ml ret own nm Q kc ks h pc' L (.int z :: S)) : Go K rm Z n0 bs ml ret own nm Q kc ks h pc L (.int x :: S) :=
  ineg hd hp fun z' e => by obtain rfl : z' = z := e.trans hz; exact hr
theorem lneg {x : Int64} (hd : decode bs pc = .ok (.lneg, 1)) (hp : pc + 1 = pc') (hr : ∀ z, z = -x → Go K rm Z n0 bs ml ret own nm Q kc ks h pc' L (.long z :: S)) : Go K rm Z n0 bs ml ret own nm Q kc ks h pc L (.long x :: S) := by
  subst hp
  obtain ⟨p, l, e, s, m, args, below, meth, c⟩ := K
  intro hx hby hml hret hlk hnm vm0 k0 hSn hk0 hZ hown hEW hCH T locs X hF hh
  obtain ⟨s₂, v, L', st, r⟩ := hr _ rfl hx hby hml hret hlk hnm vm0 k0 hSn hk0 hZ hown hEW hCH T locs X hF hh
  exact ⟨s₂, v, L', XS.lneg X.here hx rfl (hb hby hd) rfl st, r⟩
theorem lnegE {x : Int64} {z : Int64} (hd : decode bs pc = .ok (.lneg, 1)) (hp : pc + 1 = pc') (hz : -x = z) (hr : Go K rm Z n0 bs ml ret own nm Q kc ks h pc' L (.long z :: S)) : Go K rm Z n0 bs ml ret own nm Q kc ks h pc L (.long x :: S) :=
  lneg hd hp fun z' e => by obtain rfl : z' = z := e.trans hz; exact hr
theorem i2l {x : Int32} (hd : decode bs pc = .ok (.i2l, 1)) (hp : pc + 1 = pc') (hr : ∀ z, z = x.toInt64 → Go K rm Z n0 bs ml ret own nm Q kc ks h pc' L (.long z :: S)) : Go K rm Z n0 bs ml ret own nm Q kc ks h pc L (.int x :: S) := by
  subst hp
  obtain ⟨p, l, e, s, m, args, below, meth, c⟩ := K
  intro hx hby hml hret hlk hnm vm0 k0 hSn hk0 hZ hown hEW hCH T locs X hF hh
  obtain ⟨s₂, v, L', st, r⟩ := hr _ rfl hx hby hml hret hlk hnm vm0 k0 hSn hk0 hZ hown hEW hCH T locs X hF hh
  exact ⟨s₂, v, L', XS.i2l X.here hx rfl (hb hby hd) rfl st, r⟩
theorem i2lE {x : Int32} {z : Int64} (hd : decode bs pc = .ok (.i2l, 1)) (hp : pc + 1 = pc') (hz : x.toInt64 = z) (hr : Go K rm Z n0 bs ml ret own nm Q kc ks h pc' L (.long z :: S)) : Go K rm Z n0 bs ml ret own nm Q kc ks h pc L (.int x :: S) :=
  i2l hd hp fun z' e => by obtain rfl : z' = z := e.trans hz; exact hr
theorem l2i {x : Int64} (hd : decode bs pc = .ok (.l2i, 1)) (hp : pc + 1 = pc') (hr : ∀ z, z = x.toInt32 → Go K rm Z n0 bs ml ret own nm Q kc ks h pc' L (.int z :: S)) : Go K rm Z n0 bs ml ret own nm Q kc ks h pc L (.long x :: S) := by
  subst hp
  obtain ⟨p, l, e, s, m, args, below, meth, c⟩ := K
  intro hx hby hml hret hlk hnm vm0 k0 hSn hk0 hZ hown hEW hCH T locs X hF hh
  obtain ⟨s₂, v, L', st, r⟩ := hr _ rfl hx hby hml hret hlk hnm vm0 k0 hSn hk0 hZ hown hEW hCH T locs X hF hh
  exact ⟨s₂, v, L', XS.l2i X.here hx rfl (hb hby hd) rfl st, r⟩
theorem l2iE {x : Int64} {z : Int32} (hd : decode bs pc = .ok (.l2i, 1)) (hp : pc + 1 = pc') (hz : x.toInt32 = z) (hr : Go K rm Z n0 bs ml ret own nm Q kc ks h pc' L (.int z :: S)) : Go K rm Z n0 bs ml ret own nm Q kc ks h pc L (.long x :: S) :=
  l2i hd hp fun z' e => by obtain rfl : z' = z := e.trans hz; exact hr
theorem i2b {x : Int32} (hd : decode bs pc = .ok (.i2b, 1)) (hp : pc + 1 = pc') (hr : ∀ z, z = x.toInt8.toInt32 → Go K rm Z n0 bs ml ret own nm Q kc ks h pc' L (.int z :: S)) : Go K rm Z n0 bs ml ret own nm Q kc ks h pc L (.int x :: S) := by
  subst hp
  obtain ⟨p, l, e, s, m, args, below, meth, c⟩ := K
  intro hx hby hml hret hlk hnm vm0 k0 hSn hk0 hZ hown hEW hCH T locs X hF hh
  obtain ⟨s₂, v, L', st, r⟩ := hr _ rfl hx hby hml hret hlk hnm vm0 k0 hSn hk0 hZ hown hEW hCH T locs X hF hh
  exact ⟨s₂, v, L', XS.i2b X.here hx rfl (hb hby hd) rfl st, r⟩
theorem i2bE {x : Int32} {z : Int32} (hd : decode bs pc = .ok (.i2b, 1)) (hp : pc + 1 = pc') (hz : x.toInt8.toInt32 = z) (hr : Go K rm Z n0 bs ml ret own nm Q kc ks h pc' L (.int z :: S)) : Go K rm Z n0 bs ml ret own nm Q kc ks h pc L (.int x :: S) :=
  i2b hd hp fun z' e => by obtain rfl : z' = z := e.trans hz; exact hr
theorem i2c {x : Int32} (hd : decode bs pc = .ok (.i2c, 1)) (hp : pc + 1 = pc') (hr : ∀ z, z = x.toUInt32.toUInt16.toUInt32.toInt32 → Go K rm Z n0 bs ml ret own nm Q kc ks h pc' L (.int z :: S)) : Go K rm Z n0 bs ml ret own nm Q kc ks h pc L (.int x :: S) := by
  subst hp
  obtain ⟨p, l, e, s, m, args, below, meth, c⟩ := K
  intro hx hby hml hret hlk hnm vm0 k0 hSn hk0 hZ hown hEW hCH T locs X hF hh
  obtain ⟨s₂, v, L', st, r⟩ := hr _ rfl hx hby hml hret hlk hnm vm0 k0 hSn hk0 hZ hown hEW hCH T locs X hF hh
  exact ⟨s₂, v, L', XS.i2c X.here hx rfl (hb hby hd) rfl st, r⟩
theorem i2cE {x : Int32} {z : Int32} (hd : decode bs pc = .ok (.i2c, 1)) (hp : pc + 1 = pc') (hz : x.toUInt32.toUInt16.toUInt32.toInt32 = z) (hr : Go K rm Z n0 bs ml ret own nm Q kc ks h pc' L (.int z :: S)) : Go K rm Z n0 bs ml ret own nm Q kc ks h pc L (.int x :: S) :=
  i2c hd hp fun z' e => by obtain rfl : z' = z := e.trans hz; exact hr
theorem iinc {k : Nat} {i : Int} {x : Int32} {L1 : Int32 → Array Slot} (hd : decode bs pc = .ok (.iinc k i, 3)) (hl : L[k]? = some (.val (.int x))) (hl1 : ∀ z : Int32, storeLocals L k (.int z) = some (L1 z)) (hp : pc + 3 = pc') (hr : ∀ z, z = x + Int32.ofInt i → Go K rm Z n0 bs ml ret own nm Q kc ks h pc' (L1 z) S) : Go K rm Z n0 bs ml ret own nm Q kc ks h pc L S := by
  subst hp
  obtain ⟨p, l, e, s, m, args, below, meth, c⟩ := K
  intro hx hby hml hret hlk hnm vm0 k0 hSn hk0 hZ hown hEW hCH T locs X hF hh
  obtain ⟨s₂, v, L', st, r⟩ := hr _ rfl hx hby hml hret hlk hnm vm0 k0 hSn hk0 hZ hown hEW hCH T locs X hF hh
  exact ⟨s₂, v, L', XS.iinc X.here hx rfl (hb hby hd) hl (hl1 _) st, r⟩
theorem iincE {k : Nat} {i : Int} {x : Int32} {L1 : Int32 → Array Slot} {z : Int32} (hd : decode bs pc = .ok (.iinc k i, 3)) (hl : L[k]? = some (.val (.int x))) (hl1 : ∀ z : Int32, storeLocals L k (.int z) = some (L1 z)) (hp : pc + 3 = pc') (hz : x + Int32.ofInt i = z) (hr : Go K rm Z n0 bs ml ret own nm Q kc ks h pc' (L1 z) S) : Go K rm Z n0 bs ml ret own nm Q kc ks h pc L S :=
  iinc hd hl hl1 hp fun z' e => by obtain rfl : z' = z := e.trans hz; exact hr
theorem dup {x : Value} (hd : decode bs pc = .ok (.dup, 1)) (hc : x.category = 1) (hp : pc + 1 = pc') (hr : Go K rm Z n0 bs ml ret own nm Q kc ks h pc' L (x :: x :: S)) : Go K rm Z n0 bs ml ret own nm Q kc ks h pc L (x :: S) := by
  subst hp
  obtain ⟨p, l, e, s, m, args, below, meth, c⟩ := K
  intro hx hby hml hret hlk hnm vm0 k0 hSn hk0 hZ hown hEW hCH T locs X hF hh
  obtain ⟨s₂, v, L', st, r⟩ := hr hx hby hml hret hlk hnm vm0 k0 hSn hk0 hZ hown hEW hCH T locs X hF hh
  exact ⟨s₂, v, L', XS.dup X.here hx rfl (hb hby hd) rfl hc st, r⟩
theorem pop {x : Value} (hd : decode bs pc = .ok (.pop, 1)) (hc : x.category = 1) (hp : pc + 1 = pc') (hr : Go K rm Z n0 bs ml ret own nm Q kc ks h pc' L S) : Go K rm Z n0 bs ml ret own nm Q kc ks h pc L (x :: S) := by
  subst hp
  obtain ⟨p, l, e, s, m, args, below, meth, c⟩ := K
  intro hx hby hml hret hlk hnm vm0 k0 hSn hk0 hZ hown hEW hCH T locs X hF hh
  obtain ⟨s₂, v, L', st, r⟩ := hr hx hby hml hret hlk hnm vm0 k0 hSn hk0 hZ hown hEW hCH T locs X hF hh
  exact ⟨s₂, v, L', XS.pop X.here hx rfl (hb hby hd) rfl hc st, r⟩
theorem dup2 {x y : Value} (hd : decode bs pc = .ok (.dup2, 1)) (hc : x.category = 1) (hc2 : y.category = 1) (hp : pc + 1 = pc') (hr : Go K rm Z n0 bs ml ret own nm Q kc ks h pc' L (x :: y :: x :: y :: S)) : Go K rm Z n0 bs ml ret own nm Q kc ks h pc L (x :: y :: S) := by
  subst hp
  obtain ⟨p, l, e, s, m, args, below, meth, c⟩ := K
  intro hx hby hml hret hlk hnm vm0 k0 hSn hk0 hZ hown hEW hCH T locs X hF hh
  obtain ⟨s₂, v, L', st, r⟩ := hr hx hby hml hret hlk hnm vm0 k0 hSn hk0 hZ hown hEW hCH T locs X hF hh
  exact ⟨s₂, v, L', Jvm.Free.XT.dup2 X.here hx rfl (hb hby hd) rfl hc hc2 st, r⟩
theorem dupX1 {x y : Value} (hd : decode bs pc = .ok (.dup_x1, 1)) (hc : x.category = 1) (hc2 : y.category = 1) (hp : pc + 1 = pc') (hr : Go K rm Z n0 bs ml ret own nm Q kc ks h pc' L (x :: y :: x :: S)) : Go K rm Z n0 bs ml ret own nm Q kc ks h pc L (x :: y :: S) := by
  subst hp
  obtain ⟨p, l, e, s, m, args, below, meth, c⟩ := K
  intro hx hby hml hret hlk hnm vm0 k0 hSn hk0 hZ hown hEW hCH T locs X hF hh
  obtain ⟨s₂, v, L', st, r⟩ := hr hx hby hml hret hlk hnm vm0 k0 hSn hk0 hZ hown hEW hCH T locs X hF hh
  exact ⟨s₂, v, L', XS.dupX1 X.here hx rfl (hb hby hd) rfl hc hc2 st, r⟩
theorem acmp {o : Int} {cd : ACond} {x y : Value} {same : Bool} (hd : decode bs pc = .ok (.if_acmp cd o, 3)) (h1 : x.isRef = true) (h2 : y.isRef = true) (hq : decide (x = y) = same) (ho : 0 ≤ (pc : Int) + o) (hp : pc' = if Jvm.RoadKit.acV cd same = true then ((pc : Int) + o).toNat else pc + 3) (hr : Go K rm Z n0 bs ml ret own nm Q kc ks h pc' L S) : Go K rm Z n0 bs ml ret own nm Q kc ks h pc L (y :: x :: S) := by
  obtain ⟨p, l, e, s, m, args, below, meth, c⟩ := K
  intro hx hby hml hret hlk hnm vm0 k0 hSn hk0 hZ hown hEW hCH T locs X hF hh
  obtain ⟨s₂, v, L', st, r⟩ := hr hx hby hml hret hlk hnm vm0 k0 hSn hk0 hZ hown hEW hCH T locs X hF hh
  exact ⟨s₂, v, L', Jvm.RoadKit.acmp X hx rfl h1 h2 (pc0 := pc) (pc' := pc') rfl (hb hby hd) rfl hq ho hp st, r⟩
theorem goto {o : Int} (hd : decode bs pc = .ok (.goto o, 3)) (ho : 0 ≤ (pc : Int) + o) (hp : ((pc : Int) + o).toNat = pc') (hr : Go K rm Z n0 bs ml ret own nm Q kc ks h pc' L S) : Go K rm Z n0 bs ml ret own nm Q kc ks h pc L S := by
  obtain ⟨p, l, e, s, m, args, below, meth, c⟩ := K
  intro hx hby hml hret hlk hnm vm0 k0 hSn hk0 hZ hown hEW hCH T locs X hF hh
  obtain ⟨s₂, v, L', st, r⟩ := hr hx hby hml hret hlk hnm vm0 k0 hSn hk0 hZ hown hEW hCH T locs X hF hh
  exact ⟨s₂, v, L', XS.goto X.here hx rfl (pc0 := pc) (pc' := pc') rfl (hb hby hd) ho hp st, r⟩
theorem holds_iff (cd : ClassFile.Cond) (x y : Int32) : if_icmp.holds cd x y = true ↔ (match cd with | .lt => x.toInt < y.toInt | .ge => y.toInt ≤ x.toInt | .gt => y.toInt < x.toInt | .le => x.toInt ≤ y.toInt | .eq => x = y | .ne => x ≠ y) := by
  cases cd <;> simp [if_icmp.holds, Int32.lt_iff_toInt_lt, Int32.le_iff_toInt_le]
theorem icmp_lt {x y : Int32} {o : Int} {pc2 : Nat} (hd : decode bs pc = .ok (.if_icmp .lt o, 3)) (ho : 0 ≤ (pc : Int) + o) (hp : ((pc : Int) + o).toNat = pc') (hp2 : pc + 3 = pc2)
    (hy : x.toInt < y.toInt → Go K rm Z n0 bs ml ret own nm Q kc ks h pc' L S) (hn : ¬ (x.toInt < y.toInt) → Go K rm Z n0 bs ml ret own nm Q kc ks h pc2 L S) : Go K rm Z n0 bs ml ret own nm Q kc ks h pc L (.int y :: .int x :: S) := by
  subst hp2
  by_cases q : x.toInt < y.toInt
  · have q2 := (holds_iff .lt x y).mpr q
    replace hy := hy q
    obtain ⟨p, l, e, s, m, args, below, meth, c⟩ := K
    intro hx hby hml hret hlk hnm vm0 k0 hSn hk0 hZ hown hEW hCH T locs X hF hh
    obtain ⟨s₂, v, L', st, r⟩ := hy hx hby hml hret hlk hnm vm0 k0 hSn hk0 hZ hown hEW hCH T locs X hF hh
    exact ⟨s₂, v, L', XS.icmpYes X.here hx rfl (pc0 := pc) (pc' := pc') rfl (hb hby hd) rfl q2 ho hp st, r⟩
  · have q2 : if_icmp.holds .lt x y = false := by rw [← Bool.not_eq_true]; exact fun t => q ((holds_iff .lt x y).mp t)
    replace hn := hn q
    obtain ⟨p, l, e, s, m, args, below, meth, c⟩ := K
    intro hx hby hml hret hlk hnm vm0 k0 hSn hk0 hZ hown hEW hCH T locs X hF hh
    obtain ⟨s₂, v, L', st, r⟩ := hn hx hby hml hret hlk hnm vm0 k0 hSn hk0 hZ hown hEW hCH T locs X hF hh
    exact ⟨s₂, v, L', XS.icmpNo X.here hx rfl (hb hby hd) rfl q2 st, r⟩
theorem icmp_ge {x y : Int32} {o : Int} {pc2 : Nat} (hd : decode bs pc = .ok (.if_icmp .ge o, 3)) (ho : 0 ≤ (pc : Int) + o) (hp : ((pc : Int) + o).toNat = pc') (hp2 : pc + 3 = pc2)
    (hy : y.toInt ≤ x.toInt → Go K rm Z n0 bs ml ret own nm Q kc ks h pc' L S) (hn : ¬ (y.toInt ≤ x.toInt) → Go K rm Z n0 bs ml ret own nm Q kc ks h pc2 L S) : Go K rm Z n0 bs ml ret own nm Q kc ks h pc L (.int y :: .int x :: S) := by
  subst hp2
  by_cases q : y.toInt ≤ x.toInt
  · have q2 := (holds_iff .ge x y).mpr q
    replace hy := hy q
    obtain ⟨p, l, e, s, m, args, below, meth, c⟩ := K
    intro hx hby hml hret hlk hnm vm0 k0 hSn hk0 hZ hown hEW hCH T locs X hF hh
    obtain ⟨s₂, v, L', st, r⟩ := hy hx hby hml hret hlk hnm vm0 k0 hSn hk0 hZ hown hEW hCH T locs X hF hh
    exact ⟨s₂, v, L', XS.icmpYes X.here hx rfl (pc0 := pc) (pc' := pc') rfl (hb hby hd) rfl q2 ho hp st, r⟩
  · have q2 : if_icmp.holds .ge x y = false := by rw [← Bool.not_eq_true]; exact fun t => q ((holds_iff .ge x y).mp t)
    replace hn := hn q
    obtain ⟨p, l, e, s, m, args, below, meth, c⟩ := K
    intro hx hby hml hret hlk hnm vm0 k0 hSn hk0 hZ hown hEW hCH T locs X hF hh
    obtain ⟨s₂, v, L', st, r⟩ := hn hx hby hml hret hlk hnm vm0 k0 hSn hk0 hZ hown hEW hCH T locs X hF hh
    exact ⟨s₂, v, L', XS.icmpNo X.here hx rfl (hb hby hd) rfl q2 st, r⟩
theorem icmp_gt {x y : Int32} {o : Int} {pc2 : Nat} (hd : decode bs pc = .ok (.if_icmp .gt o, 3)) (ho : 0 ≤ (pc : Int) + o) (hp : ((pc : Int) + o).toNat = pc') (hp2 : pc + 3 = pc2)
    (hy : y.toInt < x.toInt → Go K rm Z n0 bs ml ret own nm Q kc ks h pc' L S) (hn : ¬ (y.toInt < x.toInt) → Go K rm Z n0 bs ml ret own nm Q kc ks h pc2 L S) : Go K rm Z n0 bs ml ret own nm Q kc ks h pc L (.int y :: .int x :: S) := by
  subst hp2
  by_cases q : y.toInt < x.toInt
  · have q2 := (holds_iff .gt x y).mpr q
    replace hy := hy q
    obtain ⟨p, l, e, s, m, args, below, meth, c⟩ := K
    intro hx hby hml hret hlk hnm vm0 k0 hSn hk0 hZ hown hEW hCH T locs X hF hh
    obtain ⟨s₂, v, L', st, r⟩ := hy hx hby hml hret hlk hnm vm0 k0 hSn hk0 hZ hown hEW hCH T locs X hF hh
    exact ⟨s₂, v, L', XS.icmpYes X.here hx rfl (pc0 := pc) (pc' := pc') rfl (hb hby hd) rfl q2 ho hp st, r⟩
  · have q2 : if_icmp.holds .gt x y = false := by rw [← Bool.not_eq_true]; exact fun t => q ((holds_iff .gt x y).mp t)
    replace hn := hn q
    obtain ⟨p, l, e, s, m, args, below, meth, c⟩ := K
    intro hx hby hml hret hlk hnm vm0 k0 hSn hk0 hZ hown hEW hCH T locs X hF hh
    obtain ⟨s₂, v, L', st, r⟩ := hn hx hby hml hret hlk hnm vm0 k0 hSn hk0 hZ hown hEW hCH T locs X hF hh
    exact ⟨s₂, v, L', XS.icmpNo X.here hx rfl (hb hby hd) rfl q2 st, r⟩
theorem icmp_le {x y : Int32} {o : Int} {pc2 : Nat} (hd : decode bs pc = .ok (.if_icmp .le o, 3)) (ho : 0 ≤ (pc : Int) + o) (hp : ((pc : Int) + o).toNat = pc') (hp2 : pc + 3 = pc2)
    (hy : x.toInt ≤ y.toInt → Go K rm Z n0 bs ml ret own nm Q kc ks h pc' L S) (hn : ¬ (x.toInt ≤ y.toInt) → Go K rm Z n0 bs ml ret own nm Q kc ks h pc2 L S) : Go K rm Z n0 bs ml ret own nm Q kc ks h pc L (.int y :: .int x :: S) := by
  subst hp2
  by_cases q : x.toInt ≤ y.toInt
  · have q2 := (holds_iff .le x y).mpr q
    replace hy := hy q
    obtain ⟨p, l, e, s, m, args, below, meth, c⟩ := K
    intro hx hby hml hret hlk hnm vm0 k0 hSn hk0 hZ hown hEW hCH T locs X hF hh
    obtain ⟨s₂, v, L', st, r⟩ := hy hx hby hml hret hlk hnm vm0 k0 hSn hk0 hZ hown hEW hCH T locs X hF hh
    exact ⟨s₂, v, L', XS.icmpYes X.here hx rfl (pc0 := pc) (pc' := pc') rfl (hb hby hd) rfl q2 ho hp st, r⟩
  · have q2 : if_icmp.holds .le x y = false := by rw [← Bool.not_eq_true]; exact fun t => q ((holds_iff .le x y).mp t)
    replace hn := hn q
    obtain ⟨p, l, e, s, m, args, below, meth, c⟩ := K
    intro hx hby hml hret hlk hnm vm0 k0 hSn hk0 hZ hown hEW hCH T locs X hF hh
    obtain ⟨s₂, v, L', st, r⟩ := hn hx hby hml hret hlk hnm vm0 k0 hSn hk0 hZ hown hEW hCH T locs X hF hh
    exact ⟨s₂, v, L', XS.icmpNo X.here hx rfl (hb hby hd) rfl q2 st, r⟩
theorem icmp_eq {x y : Int32} {o : Int} {pc2 : Nat} (hd : decode bs pc = .ok (.if_icmp .eq o, 3)) (ho : 0 ≤ (pc : Int) + o) (hp : ((pc : Int) + o).toNat = pc') (hp2 : pc + 3 = pc2)
    (hy : x = y → Go K rm Z n0 bs ml ret own nm Q kc ks h pc' L S) (hn : ¬ (x = y) → Go K rm Z n0 bs ml ret own nm Q kc ks h pc2 L S) : Go K rm Z n0 bs ml ret own nm Q kc ks h pc L (.int y :: .int x :: S) := by
  subst hp2
  by_cases q : x = y
  · have q2 := (holds_iff .eq x y).mpr q
    replace hy := hy q
    obtain ⟨p, l, e, s, m, args, below, meth, c⟩ := K
    intro hx hby hml hret hlk hnm vm0 k0 hSn hk0 hZ hown hEW hCH T locs X hF hh
    obtain ⟨s₂, v, L', st, r⟩ := hy hx hby hml hret hlk hnm vm0 k0 hSn hk0 hZ hown hEW hCH T locs X hF hh
    exact ⟨s₂, v, L', XS.icmpYes X.here hx rfl (pc0 := pc) (pc' := pc') rfl (hb hby hd) rfl q2 ho hp st, r⟩
  · have q2 : if_icmp.holds .eq x y = false := by rw [← Bool.not_eq_true]; exact fun t => q ((holds_iff .eq x y).mp t)
    replace hn := hn q
    obtain ⟨p, l, e, s, m, args, below, meth, c⟩ := K
    intro hx hby hml hret hlk hnm vm0 k0 hSn hk0 hZ hown hEW hCH T locs X hF hh
    obtain ⟨s₂, v, L', st, r⟩ := hn hx hby hml hret hlk hnm vm0 k0 hSn hk0 hZ hown hEW hCH T locs X hF hh
    exact ⟨s₂, v, L', XS.icmpNo X.here hx rfl (hb hby hd) rfl q2 st, r⟩
theorem icmp_ne {x y : Int32} {o : Int} {pc2 : Nat} (hd : decode bs pc = .ok (.if_icmp .ne o, 3)) (ho : 0 ≤ (pc : Int) + o) (hp : ((pc : Int) + o).toNat = pc') (hp2 : pc + 3 = pc2)
    (hy : x ≠ y → Go K rm Z n0 bs ml ret own nm Q kc ks h pc' L S) (hn : ¬ (x ≠ y) → Go K rm Z n0 bs ml ret own nm Q kc ks h pc2 L S) : Go K rm Z n0 bs ml ret own nm Q kc ks h pc L (.int y :: .int x :: S) := by
  subst hp2
  by_cases q : x ≠ y
  · have q2 := (holds_iff .ne x y).mpr q
    replace hy := hy q
    obtain ⟨p, l, e, s, m, args, below, meth, c⟩ := K
    intro hx hby hml hret hlk hnm vm0 k0 hSn hk0 hZ hown hEW hCH T locs X hF hh
    obtain ⟨s₂, v, L', st, r⟩ := hy hx hby hml hret hlk hnm vm0 k0 hSn hk0 hZ hown hEW hCH T locs X hF hh
    exact ⟨s₂, v, L', XS.icmpYes X.here hx rfl (pc0 := pc) (pc' := pc') rfl (hb hby hd) rfl q2 ho hp st, r⟩
  · have q2 : if_icmp.holds .ne x y = false := by rw [← Bool.not_eq_true]; exact fun t => q ((holds_iff .ne x y).mp t)
    replace hn := hn q
    obtain ⟨p, l, e, s, m, args, below, meth, c⟩ := K
    intro hx hby hml hret hlk hnm vm0 k0 hSn hk0 hZ hown hEW hCH T locs X hF hh
    obtain ⟨s₂, v, L', st, r⟩ := hn hx hby hml hret hlk hnm vm0 k0 hSn hk0 hZ hown hEW hCH T locs X hF hh
    exact ⟨s₂, v, L', XS.icmpNo X.here hx rfl (hb hby hd) rfl q2 st, r⟩
theorem if_lt {x : Int32} {o : Int} {pc2 : Nat} (hd : decode bs pc = .ok (.ifCond .lt o, 3)) (ho : 0 ≤ (pc : Int) + o) (hp : ((pc : Int) + o).toNat = pc') (hp2 : pc + 3 = pc2)
    (hy : x.toInt < 0 → Go K rm Z n0 bs ml ret own nm Q kc ks h pc' L S) (hn : ¬ (x.toInt < 0) → Go K rm Z n0 bs ml ret own nm Q kc ks h pc2 L S) : Go K rm Z n0 bs ml ret own nm Q kc ks h pc L (.int x :: S) := by
  subst hp2
  by_cases q : x.toInt < 0
  · have q2 : ifCond.holds .lt x = true := (if0 _ _).trans ((holds_iff .lt x 0).mpr (by simpa using q))
    replace hy := hy q
    obtain ⟨p, l, e, s, m, args, below, meth, c⟩ := K
    intro hx hby hml hret hlk hnm vm0 k0 hSn hk0 hZ hown hEW hCH T locs X hF hh
    obtain ⟨s₂, v, L', st, r⟩ := hy hx hby hml hret hlk hnm vm0 k0 hSn hk0 hZ hown hEW hCH T locs X hF hh
    exact ⟨s₂, v, L', XS.ifYes X.here hx rfl (pc0 := pc) (pc' := pc') rfl (hb hby hd) rfl q2 ho hp st, r⟩
  · have q2 : ifCond.holds .lt x = false := by rw [← Bool.not_eq_true, if0]; exact fun t => q (by simpa using (holds_iff .lt x 0).mp t)
    replace hn := hn q
    obtain ⟨p, l, e, s, m, args, below, meth, c⟩ := K
    intro hx hby hml hret hlk hnm vm0 k0 hSn hk0 hZ hown hEW hCH T locs X hF hh
    obtain ⟨s₂, v, L', st, r⟩ := hn hx hby hml hret hlk hnm vm0 k0 hSn hk0 hZ hown hEW hCH T locs X hF hh
    exact ⟨s₂, v, L', XS.ifNo X.here hx rfl (hb hby hd) rfl q2 st, r⟩
theorem if_ge {x : Int32} {o : Int} {pc2 : Nat} (hd : decode bs pc = .ok (.ifCond .ge o, 3)) (ho : 0 ≤ (pc : Int) + o) (hp : ((pc : Int) + o).toNat = pc') (hp2 : pc + 3 = pc2)
    (hy : 0 ≤ x.toInt → Go K rm Z n0 bs ml ret own nm Q kc ks h pc' L S) (hn : ¬ (0 ≤ x.toInt) → Go K rm Z n0 bs ml ret own nm Q kc ks h pc2 L S) : Go K rm Z n0 bs ml ret own nm Q kc ks h pc L (.int x :: S) := by
  subst hp2
  by_cases q : 0 ≤ x.toInt
  · have q2 : ifCond.holds .ge x = true := (if0 _ _).trans ((holds_iff .ge x 0).mpr (by simpa using q))
    replace hy := hy q
    obtain ⟨p, l, e, s, m, args, below, meth, c⟩ := K
    intro hx hby hml hret hlk hnm vm0 k0 hSn hk0 hZ hown hEW hCH T locs X hF hh
    obtain ⟨s₂, v, L', st, r⟩ := hy hx hby hml hret hlk hnm vm0 k0 hSn hk0 hZ hown hEW hCH T locs X hF hh
    exact ⟨s₂, v, L', XS.ifYes X.here hx rfl (pc0 := pc) (pc' := pc') rfl (hb hby hd) rfl q2 ho hp st, r⟩
  · have q2 : ifCond.holds .ge x = false := by rw [← Bool.not_eq_true, if0]; exact fun t => q (by simpa using (holds_iff .ge x 0).mp t)
    replace hn := hn q
    obtain ⟨p, l, e, s, m, args, below, meth, c⟩ := K
    intro hx hby hml hret hlk hnm vm0 k0 hSn hk0 hZ hown hEW hCH T locs X hF hh
    obtain ⟨s₂, v, L', st, r⟩ := hn hx hby hml hret hlk hnm vm0 k0 hSn hk0 hZ hown hEW hCH T locs X hF hh
    exact ⟨s₂, v, L', XS.ifNo X.here hx rfl (hb hby hd) rfl q2 st, r⟩
theorem if_gt {x : Int32} {o : Int} {pc2 : Nat} (hd : decode bs pc = .ok (.ifCond .gt o, 3)) (ho : 0 ≤ (pc : Int) + o) (hp : ((pc : Int) + o).toNat = pc') (hp2 : pc + 3 = pc2)
    (hy : 0 < x.toInt → Go K rm Z n0 bs ml ret own nm Q kc ks h pc' L S) (hn : ¬ (0 < x.toInt) → Go K rm Z n0 bs ml ret own nm Q kc ks h pc2 L S) : Go K rm Z n0 bs ml ret own nm Q kc ks h pc L (.int x :: S) := by
  subst hp2
  by_cases q : 0 < x.toInt
  · have q2 : ifCond.holds .gt x = true := (if0 _ _).trans ((holds_iff .gt x 0).mpr (by simpa using q))
    replace hy := hy q
    obtain ⟨p, l, e, s, m, args, below, meth, c⟩ := K
    intro hx hby hml hret hlk hnm vm0 k0 hSn hk0 hZ hown hEW hCH T locs X hF hh
    obtain ⟨s₂, v, L', st, r⟩ := hy hx hby hml hret hlk hnm vm0 k0 hSn hk0 hZ hown hEW hCH T locs X hF hh
    exact ⟨s₂, v, L', XS.ifYes X.here hx rfl (pc0 := pc) (pc' := pc') rfl (hb hby hd) rfl q2 ho hp st, r⟩
  · have q2 : ifCond.holds .gt x = false := by rw [← Bool.not_eq_true, if0]; exact fun t => q (by simpa using (holds_iff .gt x 0).mp t)
    replace hn := hn q
    obtain ⟨p, l, e, s, m, args, below, meth, c⟩ := K
    intro hx hby hml hret hlk hnm vm0 k0 hSn hk0 hZ hown hEW hCH T locs X hF hh
    obtain ⟨s₂, v, L', st, r⟩ := hn hx hby hml hret hlk hnm vm0 k0 hSn hk0 hZ hown hEW hCH T locs X hF hh
    exact ⟨s₂, v, L', XS.ifNo X.here hx rfl (hb hby hd) rfl q2 st, r⟩
theorem if_le {x : Int32} {o : Int} {pc2 : Nat} (hd : decode bs pc = .ok (.ifCond .le o, 3)) (ho : 0 ≤ (pc : Int) + o) (hp : ((pc : Int) + o).toNat = pc') (hp2 : pc + 3 = pc2)
    (hy : x.toInt ≤ 0 → Go K rm Z n0 bs ml ret own nm Q kc ks h pc' L S) (hn : ¬ (x.toInt ≤ 0) → Go K rm Z n0 bs ml ret own nm Q kc ks h pc2 L S) : Go K rm Z n0 bs ml ret own nm Q kc ks h pc L (.int x :: S) := by
  subst hp2
  by_cases q : x.toInt ≤ 0
  · have q2 : ifCond.holds .le x = true := (if0 _ _).trans ((holds_iff .le x 0).mpr (by simpa using q))
    replace hy := hy q
    obtain ⟨p, l, e, s, m, args, below, meth, c⟩ := K
    intro hx hby hml hret hlk hnm vm0 k0 hSn hk0 hZ hown hEW hCH T locs X hF hh
    obtain ⟨s₂, v, L', st, r⟩ := hy hx hby hml hret hlk hnm vm0 k0 hSn hk0 hZ hown hEW hCH T locs X hF hh
    exact ⟨s₂, v, L', XS.ifYes X.here hx rfl (pc0 := pc) (pc' := pc') rfl (hb hby hd) rfl q2 ho hp st, r⟩
  · have q2 : ifCond.holds .le x = false := by rw [← Bool.not_eq_true, if0]; exact fun t => q (by simpa using (holds_iff .le x 0).mp t)
    replace hn := hn q
    obtain ⟨p, l, e, s, m, args, below, meth, c⟩ := K
    intro hx hby hml hret hlk hnm vm0 k0 hSn hk0 hZ hown hEW hCH T locs X hF hh
    obtain ⟨s₂, v, L', st, r⟩ := hn hx hby hml hret hlk hnm vm0 k0 hSn hk0 hZ hown hEW hCH T locs X hF hh
    exact ⟨s₂, v, L', XS.ifNo X.here hx rfl (hb hby hd) rfl q2 st, r⟩
theorem if_eq {x : Int32} {o : Int} {pc2 : Nat} (hd : decode bs pc = .ok (.ifCond .eq o, 3)) (ho : 0 ≤ (pc : Int) + o) (hp : ((pc : Int) + o).toNat = pc') (hp2 : pc + 3 = pc2)
    (hy : x = 0 → Go K rm Z n0 bs ml ret own nm Q kc ks h pc' L S) (hn : ¬ (x = 0) → Go K rm Z n0 bs ml ret own nm Q kc ks h pc2 L S) : Go K rm Z n0 bs ml ret own nm Q kc ks h pc L (.int x :: S) := by
  subst hp2
  by_cases q : x = 0
  · have q2 : ifCond.holds .eq x = true := (if0 _ _).trans ((holds_iff .eq x 0).mpr (by simpa using q))
    replace hy := hy q
    obtain ⟨p, l, e, s, m, args, below, meth, c⟩ := K
    intro hx hby hml hret hlk hnm vm0 k0 hSn hk0 hZ hown hEW hCH T locs X hF hh
    obtain ⟨s₂, v, L', st, r⟩ := hy hx hby hml hret hlk hnm vm0 k0 hSn hk0 hZ hown hEW hCH T locs X hF hh
    exact ⟨s₂, v, L', XS.ifYes X.here hx rfl (pc0 := pc) (pc' := pc') rfl (hb hby hd) rfl q2 ho hp st, r⟩
  · have q2 : ifCond.holds .eq x = false := by rw [← Bool.not_eq_true, if0]; exact fun t => q (by simpa using (holds_iff .eq x 0).mp t)
    replace hn := hn q
    obtain ⟨p, l, e, s, m, args, below, meth, c⟩ := K
    intro hx hby hml hret hlk hnm vm0 k0 hSn hk0 hZ hown hEW hCH T locs X hF hh
    obtain ⟨s₂, v, L', st, r⟩ := hn hx hby hml hret hlk hnm vm0 k0 hSn hk0 hZ hown hEW hCH T locs X hF hh
    exact ⟨s₂, v, L', XS.ifNo X.here hx rfl (hb hby hd) rfl q2 st, r⟩
theorem if_ne {x : Int32} {o : Int} {pc2 : Nat} (hd : decode bs pc = .ok (.ifCond .ne o, 3)) (ho : 0 ≤ (pc : Int) + o) (hp : ((pc : Int) + o).toNat = pc') (hp2 : pc + 3 = pc2)
    (hy : x ≠ 0 → Go K rm Z n0 bs ml ret own nm Q kc ks h pc' L S) (hn : ¬ (x ≠ 0) → Go K rm Z n0 bs ml ret own nm Q kc ks h pc2 L S) : Go K rm Z n0 bs ml ret own nm Q kc ks h pc L (.int x :: S) := by
  subst hp2
  by_cases q : x ≠ 0
  · have q2 : ifCond.holds .ne x = true := (if0 _ _).trans ((holds_iff .ne x 0).mpr (by simpa using q))
    replace hy := hy q
    obtain ⟨p, l, e, s, m, args, below, meth, c⟩ := K
    intro hx hby hml hret hlk hnm vm0 k0 hSn hk0 hZ hown hEW hCH T locs X hF hh
    obtain ⟨s₂, v, L', st, r⟩ := hy hx hby hml hret hlk hnm vm0 k0 hSn hk0 hZ hown hEW hCH T locs X hF hh
    exact ⟨s₂, v, L', XS.ifYes X.here hx rfl (pc0 := pc) (pc' := pc') rfl (hb hby hd) rfl q2 ho hp st, r⟩
  · have q2 : ifCond.holds .ne x = false := by rw [← Bool.not_eq_true, if0]; exact fun t => q (by simpa using (holds_iff .ne x 0).mp t)
    replace hn := hn q
    obtain ⟨p, l, e, s, m, args, below, meth, c⟩ := K
    intro hx hby hml hret hlk hnm vm0 k0 hSn hk0 hZ hown hEW hCH T locs X hF hh
    obtain ⟨s₂, v, L', st, r⟩ := hn hx hby hml hret hlk hnm vm0 k0 hSn hk0 hZ hown hEW hCH T locs X hF hh
    exact ⟨s₂, v, L', XS.ifNo X.here hx rfl (hb hby hd) rfl q2 st, r⟩
theorem lcmp0 {x y : Int64} (hd : decode bs pc = .ok (.lcmp, 1)) (hp : pc + 1 = pc') (hr : Go K rm Z n0 bs ml ret own nm Q kc ks h pc' L (.int (lcmpW x y) :: S)) : Go K rm Z n0 bs ml ret own nm Q kc ks h pc L (.long y :: .long x :: S) := by
  subst hp
  obtain ⟨p, l, e, s, m, args, below, meth, c⟩ := K
  intro hx hby hml hret hlk hnm vm0 k0 hSn hk0 hZ hown hEW hCH T locs X hF hh
  obtain ⟨s₂, v, L', st, r⟩ := hr hx hby hml hret hlk hnm vm0 k0 hSn hk0 hZ hown hEW hCH T locs X hF hh
  exact ⟨s₂, v, L', XS.lcmp X.here hx rfl (hb hby hd) rfl st, r⟩
theorem lw_pos (x y : Int64) : (lcmpW x y).toInt < 0 ↔ x.toInt < y.toInt := by
  have := lw_lt x y; rw [Int32.lt_iff_toInt_lt, Int64.lt_iff_toInt_lt] at this; simpa using this
theorem lw_neg (x y : Int64) : 0 < (lcmpW x y).toInt ↔ y.toInt < x.toInt := by
  have := lw_gt x y; rw [Int32.lt_iff_toInt_lt, Int64.lt_iff_toInt_lt] at this; simpa using this
theorem lcmp_lt {x y : Int64} {o : Int} {pc1 pc2 : Nat} (hd : decode bs pc = .ok (.lcmp, 1)) (hp1 : pc + 1 = pc1) (hd1 : decode bs pc1 = .ok (.ifCond .lt o, 3)) (ho : 0 ≤ (pc1 : Int) + o) (hp : ((pc1 : Int) + o).toNat = pc') (hp2 : pc1 + 3 = pc2)
    (hy : x.toInt < y.toInt → Go K rm Z n0 bs ml ret own nm Q kc ks h pc' L S) (hn : ¬ (x.toInt < y.toInt) → Go K rm Z n0 bs ml ret own nm Q kc ks h pc2 L S) : Go K rm Z n0 bs ml ret own nm Q kc ks h pc L (.long y :: .long x :: S) := by
  have e : ((lcmpW x y).toInt < 0) ↔ (x.toInt < y.toInt) := lw_pos x y
  exact lcmp0 hd hp1 (if_lt hd1 ho hp hp2 (fun q => hy (e.mp q)) (fun q => hn (fun t => q (e.mpr t))))
theorem lcmp_ge {x y : Int64} {o : Int} {pc1 pc2 : Nat} (hd : decode bs pc = .ok (.lcmp, 1)) (hp1 : pc + 1 = pc1) (hd1 : decode bs pc1 = .ok (.ifCond .ge o, 3)) (ho : 0 ≤ (pc1 : Int) + o) (hp : ((pc1 : Int) + o).toNat = pc') (hp2 : pc1 + 3 = pc2)
    (hy : y.toInt ≤ x.toInt → Go K rm Z n0 bs ml ret own nm Q kc ks h pc' L S) (hn : ¬ (y.toInt ≤ x.toInt) → Go K rm Z n0 bs ml ret own nm Q kc ks h pc2 L S) : Go K rm Z n0 bs ml ret own nm Q kc ks h pc L (.long y :: .long x :: S) := by
  have e : (0 ≤ (lcmpW x y).toInt) ↔ (y.toInt ≤ x.toInt) := (by rw [← Int.not_lt, ← Int.not_lt, lw_pos])
  exact lcmp0 hd hp1 (if_ge hd1 ho hp hp2 (fun q => hy (e.mp q)) (fun q => hn (fun t => q (e.mpr t))))
theorem lcmp_gt {x y : Int64} {o : Int} {pc1 pc2 : Nat} (hd : decode bs pc = .ok (.lcmp, 1)) (hp1 : pc + 1 = pc1) (hd1 : decode bs pc1 = .ok (.ifCond .gt o, 3)) (ho : 0 ≤ (pc1 : Int) + o) (hp : ((pc1 : Int) + o).toNat = pc') (hp2 : pc1 + 3 = pc2)
    (hy : y.toInt < x.toInt → Go K rm Z n0 bs ml ret own nm Q kc ks h pc' L S) (hn : ¬ (y.toInt < x.toInt) → Go K rm Z n0 bs ml ret own nm Q kc ks h pc2 L S) : Go K rm Z n0 bs ml ret own nm Q kc ks h pc L (.long y :: .long x :: S) := by
  have e : (0 < (lcmpW x y).toInt) ↔ (y.toInt < x.toInt) := lw_neg x y
  exact lcmp0 hd hp1 (if_gt hd1 ho hp hp2 (fun q => hy (e.mp q)) (fun q => hn (fun t => q (e.mpr t))))
theorem lcmp_le {x y : Int64} {o : Int} {pc1 pc2 : Nat} (hd : decode bs pc = .ok (.lcmp, 1)) (hp1 : pc + 1 = pc1) (hd1 : decode bs pc1 = .ok (.ifCond .le o, 3)) (ho : 0 ≤ (pc1 : Int) + o) (hp : ((pc1 : Int) + o).toNat = pc') (hp2 : pc1 + 3 = pc2)
    (hy : x.toInt ≤ y.toInt → Go K rm Z n0 bs ml ret own nm Q kc ks h pc' L S) (hn : ¬ (x.toInt ≤ y.toInt) → Go K rm Z n0 bs ml ret own nm Q kc ks h pc2 L S) : Go K rm Z n0 bs ml ret own nm Q kc ks h pc L (.long y :: .long x :: S) := by
  have e : ((lcmpW x y).toInt ≤ 0) ↔ (x.toInt ≤ y.toInt) := (by rw [← Int.not_lt, ← Int.not_lt, lw_neg])
  exact lcmp0 hd hp1 (if_le hd1 ho hp hp2 (fun q => hy (e.mp q)) (fun q => hn (fun t => q (e.mpr t))))
theorem lcmp_eq {x y : Int64} {o : Int} {pc1 pc2 : Nat} (hd : decode bs pc = .ok (.lcmp, 1)) (hp1 : pc + 1 = pc1) (hd1 : decode bs pc1 = .ok (.ifCond .eq o, 3)) (ho : 0 ≤ (pc1 : Int) + o) (hp : ((pc1 : Int) + o).toNat = pc') (hp2 : pc1 + 3 = pc2)
    (hy : x = y → Go K rm Z n0 bs ml ret own nm Q kc ks h pc' L S) (hn : ¬ (x = y) → Go K rm Z n0 bs ml ret own nm Q kc ks h pc2 L S) : Go K rm Z n0 bs ml ret own nm Q kc ks h pc L (.long y :: .long x :: S) := by
  have e : ((lcmpW x y) = 0) ↔ (x = y) := lw_eq x y
  exact lcmp0 hd hp1 (if_eq hd1 ho hp hp2 (fun q => hy (e.mp q)) (fun q => hn (fun t => q (e.mpr t))))
theorem lcmp_ne {x y : Int64} {o : Int} {pc1 pc2 : Nat} (hd : decode bs pc = .ok (.lcmp, 1)) (hp1 : pc + 1 = pc1) (hd1 : decode bs pc1 = .ok (.ifCond .ne o, 3)) (ho : 0 ≤ (pc1 : Int) + o) (hp : ((pc1 : Int) + o).toNat = pc') (hp2 : pc1 + 3 = pc2)
    (hy : x ≠ y → Go K rm Z n0 bs ml ret own nm Q kc ks h pc' L S) (hn : ¬ (x ≠ y) → Go K rm Z n0 bs ml ret own nm Q kc ks h pc2 L S) : Go K rm Z n0 bs ml ret own nm Q kc ks h pc L (.long y :: .long x :: S) := by
  have e : ((lcmpW x y) ≠ 0) ↔ (x ≠ y) := not_congr (lw_eq x y)
  exact lcmp0 hd hp1 (if_ne hd1 ho hp hp2 (fun q => hy (e.mp q)) (fun q => hn (fun t => q (e.mpr t))))
theorem ifnull_yes {o : Int} (hd : decode bs pc = .ok (.ifnull o, 3)) (ho : 0 ≤ (pc : Int) + o) (hp : ((pc : Int) + o).toNat = pc') (hr : Go K rm Z n0 bs ml ret own nm Q kc ks h pc' L S) : Go K rm Z n0 bs ml ret own nm Q kc ks h pc L (.null :: S) := by
  obtain ⟨p, l, e, s, m, args, below, meth, c⟩ := K
  intro hx hby hml hret hlk hnm vm0 k0 hSn hk0 hZ hown hEW hCH T locs X hF hh
  obtain ⟨s₂, v, L', st, r⟩ := hr hx hby hml hret hlk hnm vm0 k0 hSn hk0 hZ hown hEW hCH T locs X hF hh
  exact ⟨s₂, v, L', XS.ifnullYes X.here hx rfl (pc0 := pc) (pc' := pc') rfl (hb hby hd) rfl ho hp st, r⟩
theorem ifnull_no {o : Int} {b : Addr} (hd : decode bs pc = .ok (.ifnull o, 3)) (hp : pc + 3 = pc') (hr : Go K rm Z n0 bs ml ret own nm Q kc ks h pc' L S) : Go K rm Z n0 bs ml ret own nm Q kc ks h pc L (.ref b :: S) := by
  subst hp
  obtain ⟨p, l, e, s, m, args, below, meth, c⟩ := K
  intro hx hby hml hret hlk hnm vm0 k0 hSn hk0 hZ hown hEW hCH T locs X hF hh
  obtain ⟨s₂, v, L', st, r⟩ := hr hx hby hml hret hlk hnm vm0 k0 hSn hk0 hZ hown hEW hCH T locs X hF hh
  exact ⟨s₂, v, L', XS.ifnullNo X.here hx rfl (hb hby hd) rfl st, r⟩
theorem getfield {R0 O n d host : String} {idx : Nat} {a : Addr} {v : Value} (hd : decode bs pc = .ok (.getfield idx, 3)) (hp : pc + 3 = pc') (w : (Jvm.Cond.fieldLink own idx R0 n d).before a0 Z = true ∨ (Jvm.Cond.fieldLinkNest own idx R0 n d host).before a0 Z = true) (via : Via Z R0 O n d) (F : Fld Z h a O n d v) (hr : Go K rm Z n0 bs ml ret own nm Q kc ks h pc' L (v :: S)) : Go K rm Z n0 bs ml ret own nm Q kc ks h pc L (.ref a :: S) := by
  subst hp
  obtain ⟨p, l, e, s, m, args, below, meth, c⟩ := K
  intro hx hby hml hret hlk hnm vm0 k0 hSn hk0 hZ hown hEW hCH T locs X hF hh
  obtain ⟨T', X', e', st'⟩ := getF X hx hZ hown w via hh F (g := mkF m pc L (.ref a :: S)) rfl rfl (hb hby hd)
  obtain ⟨s₂, v, L', st, r⟩ := hr hx hby hml hret hlk hnm vm0 k0 hSn hk0 hZ hown hEW hCH T' locs X' hF e'
  exact ⟨s₂, v, L', st' _ st, r⟩
theorem getstatic {R0 O n d : String} {idx : Nat} {v : Value} (hd : decode bs pc = .ok (.getstatic idx, 3)) (hp : pc + 3 = pc') (w : (Jvm.Cond.fieldLink own idx R0 n d).before a0 Z = true) (via : Via Z R0 O n d) (F : Sta Z h O n d v) (hr : Go K rm Z n0 bs ml ret own nm Q kc ks h pc' L (v :: S)) : Go K rm Z n0 bs ml ret own nm Q kc ks h pc L S := by
  subst hp
  obtain ⟨p, l, e, s, m, args, below, meth, c⟩ := K
  intro hx hby hml hret hlk hnm vm0 k0 hSn hk0 hZ hown hEW hCH T locs X hF hh
  obtain ⟨T', X', e', st'⟩ := getS (host := "") X hx hZ hown w via hh F (g := mkF m pc L S) rfl (hb hby hd)
  obtain ⟨s₂, v, L', st, r⟩ := hr hx hby hml hret hlk hnm vm0 k0 hSn hk0 hZ hown hEW hCH T' locs X' hF e'
  exact ⟨s₂, v, L', st' _ st, r⟩
theorem objinit {idx : Nat} {a : Addr} (hd : decode bs pc = .ok (.invokespecial idx, 3)) (hp : pc + 3 = pc') (w1 : (Jvm.Cond.methodLink own idx Lib.objectInit).before a0 Z = true) (w2 : (Jvm.Cond.instanceMethod Lib.objectInit).before a0 Z = true) (w3 : (Jvm.Cond.code Lib.objectInit ⟨#[0xb1]⟩ 1 none).before a0 Z = true)
    (hL : L.size = ml) (hf : 1 ≤ rm.frames) {W : Nat} (hW : (S.map fun v => v.category).sum = W) (hl : W + 12 ≤ rm.locals) (hr : Go K rm Z n0 bs ml ret own nm Q kc ks h pc' L S) : Go K rm Z n0 bs ml ret own nm Q kc ks h pc L (.ref a :: S) := by
  subst hp
  obtain ⟨p, l, e, s, m, args, below, meth, c⟩ := K
  intro hx hby hml hret hlk hnm vm0 k0 hSn hk0 hZ hown hEW hCH T locs X hF hh
  obtain ⟨T', X', e', st'⟩ := initO X hx hZ hown w1 w2 w3 hh (g := mkF m pc L (.ref a :: S)) rfl (by rw [hml]; exact hL) rfl (hb hby hd) hf (W := W) (by show 2 * 0 + _ ≤ _; omega) hl
  obtain ⟨s₂, v, L', st, r⟩ := hr hx hby hml hret hlk hnm vm0 k0 hSn hk0 hZ hown hEW hCH T' locs X' hF e'
  exact ⟨s₂, v, L', st' _ st, r⟩
theorem instof {KC : String} {idx : Nat} {a : Addr} (hd : decode bs pc = .ok (.instanceof idx, 3)) (hp : pc + 3 = pc') (w : (Jvm.Cond.classLink own idx KC).before a0 Z = true) (F : Ins Z h a KC true) (hr : Go K rm Z n0 bs ml ret own nm Q kc ks h pc' L (.int 1 :: S)) : Go K rm Z n0 bs ml ret own nm Q kc ks h pc L (.ref a :: S) := by
  subst hp
  obtain ⟨p, l, e, s, m, args, below, meth, c⟩ := K
  intro hx hby hml hret hlk hnm vm0 k0 hSn hk0 hZ hown hEW hCH T locs X hF hh
  obtain ⟨T', X', e', st'⟩ := instY X hx hZ hown w hh F (g := mkF m pc L (.ref a :: S)) rfl rfl (hb hby hd)
  obtain ⟨s₂, v, L', st, r⟩ := hr hx hby hml hret hlk hnm vm0 k0 hSn hk0 hZ hown hEW hCH T' locs X' hF e'
  exact ⟨s₂, v, L', st' _ st, r⟩
theorem chcast {KC : String} {idx : Nat} {a : Addr} (hd : decode bs pc = .ok (.checkcast idx, 3)) (hp : pc + 3 = pc') (w : (Jvm.Cond.classLink own idx KC).before a0 Z = true) (F : Ins Z h a KC true) (hr : Go K rm Z n0 bs ml ret own nm Q kc ks h pc' L (.ref a :: S)) : Go K rm Z n0 bs ml ret own nm Q kc ks h pc L (.ref a :: S) := by
  subst hp
  obtain ⟨p, l, e, s, m, args, below, meth, c⟩ := K
  intro hx hby hml hret hlk hnm vm0 k0 hSn hk0 hZ hown hEW hCH T locs X hF hh
  obtain ⟨T', X', e', st'⟩ := castY X hx hZ hown w hh F (g := mkF m pc L (.ref a :: S)) rfl rfl (hb hby hd)
  obtain ⟨s₂, v, L', st, r⟩ := hr hx hby hml hret hlk hnm vm0 k0 hSn hk0 hZ hown hEW hCH T' locs X' hF e'
  exact ⟨s₂, v, L', st' _ st, r⟩
theorem acmp2 {o : Int} {cd : ACond} {x y : Value} {pcs pcd : Nat} (hd : decode bs pc = .ok (.if_acmp cd o, 3)) (h1 : x.isRef = true) (h2 : y.isRef = true) (ho : 0 ≤ (pc : Int) + o) (hps : pcs = if Jvm.RoadKit.acV cd true = true then ((pc : Int) + o).toNat else pc + 3) (hpd : pcd = if Jvm.RoadKit.acV cd false = true then ((pc : Int) + o).toNat else pc + 3) (hy : x = y → Go K rm Z n0 bs ml ret own nm Q kc ks h pcs L S) (hn : x ≠ y → Go K rm Z n0 bs ml ret own nm Q kc ks h pcd L S) : Go K rm Z n0 bs ml ret own nm Q kc ks h pc L (y :: x :: S) := by
  by_cases q : x = y
  · exact acmp (same := true) hd h1 h2 (by simp [q]) ho hps (hy q)
  · exact acmp (same := false) hd h1 h2 (by simp [q]) ho hpd (hn q)
theorem static {W : Nat} {y : MethodName} {bs' : ByteArray} {ml' idx : Nat} {ret' : Option FieldType} {rm' : Room} {as rest : List Value} {Q' : Option Value → Heap → Prop} (hd : decode bs pc = .ok (.invokestatic idx, 3)) (hp : pc + 3 = pc') (w1 : (Jvm.Cond.methodLink own idx y).before a0 Z = true) (w2 : (Jvm.Cond.static y).before a0 Z = true) (w3 : (Jvm.Cond.initialized y.cls).before a0 Z = true) (w4 : (Jvm.Cond.code y bs' ml' ret').before a0 Z = true)
    (hy : y.cls ≠ "java/lang/invoke/MethodHandle" ∧ y.cls ≠ "java/lang/invoke/VarHandle") (C : Con Z n0 y bs' ml' ret' rm' as h Q') (hst : S = as.reverse ++ rest) (hL : L.size = ml) (hlen : ∀ sig, parseMethodDescriptor y.desc = some sig → as.length = sig.parameters.length)
    (hf : rm'.frames + 1 ≤ rm.frames) (hW : (rest.map fun v => v.category).sum = W) (hl : W + (ml' + 11) + rm'.locals ≤ rm.locals) (hc : kc + rm'.cells ≤ rm.cells) (hs : ks + rm'.slots ≤ rm.slots)
    (hr : ∀ v h', Q' v h' → Go K rm Z n0 bs ml ret own nm Q (kc + rm'.cells) (ks + rm'.slots) h' pc' L (v.toList ++ rest)) : Go K rm Z n0 bs ml ret own nm Q kc ks h pc L S := by
  subst hp
  obtain ⟨p, l, e, s, m, args, below, meth, c⟩ := K
  intro hx hby hml hret hlk hnm vm0 k0 hSn hk0 hZ hown hEW hCH T locs X hF hh
  obtain ⟨_, _, ⟨T', L1, k1, n1⟩, -, X', hS2, hgr, ⟨Lc, hQ, l1, y1, z1, hC2⟩, st'⟩ := callSS X hx hown (mvT hZ w1) (mvT hZ w2) (mvT hZ w3) (mvT hZ w4) hy (backOfSH (Q := fun v h L => Q' v h ∧ Fr n0 L) (W := W) (C l) hZ w4 w3 hf hl (hEW _) hCH.1) (g := mkF m pc L S) rfl (by rw [hml]; exact hL) (argsL := as) (rest := rest) hlen hst (by show 2 * 0 + _ ≤ _; omega) (hb hby hd) (fun _ _ => ⟨rfl, hh, hc, hs⟩)
  dsimp only [Pt.U, Pt.locs, Pt.cells, Pt.slots] at X' hS2 hgr l1 y1 z1 st' hQ hC2
  subst l1 y1 z1
  obtain ⟨X2, hS3, hZ2, hown2⟩ := rebS (n1 := T.heap.size) hSn (by rw [hh]; exact hk0) X' hS2 hgr hZ hown
  obtain ⟨s₂, v, L', st, r⟩ := hr _ _ hQ.1 hx hby hml hret hlk hnm _ _ hS3 (Nat.le_refl _) hZ2 hown2 hEW (hCH.trans hC2) T' _ X2 (Fr.app hF hQ.2) rfl
  exact ⟨s₂, v, L', st'.trans st, r⟩
theorem virtual {W : Nat} {y : MethodName} {bs' : ByteArray} {ml' idx : Nat} {ret' : Option FieldType} {rm' : Room} {as rest : List Value} {Q' : Option Value → Heap → Prop} {C' : String} {a : Addr} (hd : decode bs pc = .ok (.invokevirtual idx, 3)) (hp : pc + 3 = pc') (w1 : (Jvm.Cond.methodLink own idx y).before a0 Z = true) (w2 : (Jvm.Cond.declares y).before a0 Z = true) (w5 : (Jvm.Cond.selects C' y y).before a0 Z = true) (w6 : (Jvm.Cond.instanceMethod y).before a0 Z = true) (w3 : (Jvm.Cond.initialized y.cls).before a0 Z = true) (w4 : (Jvm.Cond.code y bs' ml' ret').before a0 Z = true)
    (hy : y.cls ≠ "java/lang/invoke/MethodHandle" ∧ y.cls ≠ "java/lang/invoke/VarHandle") (E : Exa Z h a C') (C : Con Z n0 y bs' ml' ret' rm' (.ref a :: as) h Q') (hst : S = as.reverse ++ .ref a :: rest) (hL : L.size = ml) (hlen : ∀ sig, parseMethodDescriptor y.desc = some sig → as.length = sig.parameters.length)
    (hf : rm'.frames + 1 ≤ rm.frames) (hW : (rest.map fun v => v.category).sum = W) (hl : W + (ml' + 11) + rm'.locals ≤ rm.locals) (hc : kc + rm'.cells ≤ rm.cells) (hs : ks + rm'.slots ≤ rm.slots)
    (hr : ∀ v h', Q' v h' → Go K rm Z n0 bs ml ret own nm Q (kc + rm'.cells) (ks + rm'.slots) h' pc' L (v.toList ++ rest)) : Go K rm Z n0 bs ml ret own nm Q kc ks h pc L S := by
  subst hp
  obtain ⟨p, l, e, s, m, args, below, meth, c⟩ := K
  intro hx hby hml hret hlk hnm vm0 k0 hSn hk0 hZ hown hEW hCH T locs X hF hh
  obtain ⟨cq, kq, qa, qb, qc⟩ := isOf (T := T) hZ hh E
  obtain ⟨_, _, ⟨T', L1, k1, n1⟩, -, X', hS2, hgr, ⟨Lc, hQ, l1, y1, z1, hC2⟩, st'⟩ := X.virtualBackS hx (y := y) (z := y) hown (mvT hZ w1) (mvT hZ w2) (notFace_of_selects (args := #[]) (mvT hZ w5)) (mvT hZ w5) (mvT hZ w6) hy (backOfSH (Q := fun v h L => Q' v h ∧ Fr n0 L) (W := W) (C l) hZ w4 w3 hf hl (hEW _) hCH.1) qa qc (g := mkF m pc L S) rfl (by rw [hml]; exact hL) (Steps.refl _) (argsL := as) (rest := rest) hlen hst (by show 2 * 0 + _ ≤ _; omega) (hb hby hd) (fun _ _ => ⟨rfl, hh, hc, hs⟩)
  dsimp only [Pt.U, Pt.locs, Pt.cells, Pt.slots] at X' hS2 hgr l1 y1 z1 st' hQ hC2
  subst l1 y1 z1
  obtain ⟨X2, hS3, hZ2, hown2⟩ := rebS (n1 := T.heap.size) hSn (by rw [hh]; exact hk0) X' hS2 hgr hZ hown
  obtain ⟨s₂, v, L', st, r⟩ := hr _ _ hQ.1 hx hby hml hret hlk hnm _ _ hS3 (Nat.le_refl _) hZ2 hown2 hEW (hCH.trans hC2) T' _ X2 (Fr.app hF hQ.2) rfl
  exact ⟨s₂, v, L', st'.trans st, r⟩
theorem ireturnZ {z z' : Int32} (hd : decode bs pc = .ok (.ireturn, 1)) (ht : ret = some .boolean) (hz : nar .boolean z = z') (hQ : Q (some (.int z')) h) (hc : kc ≤ rm.cells) (hs : ks ≤ rm.slots) : Go K rm Z n0 bs ml ret own nm Q kc ks h pc L (.int z :: S) := by
  subst ht hz
  obtain ⟨p, l, e, s, m, args, below, meth, c⟩ := K
  intro hx hby hml hret hlk hnm vm0 k0 hSn hk0 hZ hown hEW hCH T locs X hF hh
  obtain ⟨fs, hr, hrun, hended, hW, hsame⟩ := X.leave (v := some (.int (nar .boolean z))) (fun q => by rw [hret] at q; cases q) hlk
  obtain ⟨b1, b2, b3⟩ := hSn.ended hW (by rw [show (T.setFrames fs).heap = h from hh]; exact hk0) hsame
  exact ⟨T.setFrames fs, _, locs, retN X hx (t := .boolean) hret (by simp) (hb hby hd) hr, hrun, hended, by rw [show (T.setFrames fs).heap = h from hh]; exact hQ, hF, (by have q := hCH.trans (CHv.at X hZ (hEW #[]) hCH.1); rw [show (T.setFrames fs).heap = h from hh]; exact q), ⟨_, rfl⟩, b1, b2, b3.mono hc hs⟩
theorem ireturnI {z : Int32} (hd : decode bs pc = .ok (.ireturn, 1)) (ht : ret = some .int) (hQ : Q (some (.int z)) h) (hc : kc ≤ rm.cells) (hs : ks ≤ rm.slots) : Go K rm Z n0 bs ml ret own nm Q kc ks h pc L (.int z :: S) := by
  subst ht
  obtain ⟨p, l, e, s, m, args, below, meth, c⟩ := K
  intro hx hby hml hret hlk hnm vm0 k0 hSn hk0 hZ hown hEW hCH T locs X hF hh
  obtain ⟨fs, hr, hrun, hended, hW, hsame⟩ := X.leave (v := some (.int z)) (fun q => by rw [hret] at q; cases q) hlk
  obtain ⟨b1, b2, b3⟩ := hSn.ended hW (by rw [show (T.setFrames fs).heap = h from hh]; exact hk0) hsame
  exact ⟨T.setFrames fs, _, locs, retOut X hx hret rfl (Or.inl ⟨rfl, Or.inl rfl, z, rfl⟩) (hb hby hd) hr, hrun, hended, by rw [show (T.setFrames fs).heap = h from hh]; exact hQ, hF, (by have q := hCH.trans (CHv.at X hZ (hEW #[]) hCH.1); rw [show (T.setFrames fs).heap = h from hh]; exact q), ⟨_, rfl⟩, b1, b2, b3.mono hc hs⟩
theorem lreturn {z : Int64} (hd : decode bs pc = .ok (.lreturn, 1)) (ht : ret = some .long) (hQ : Q (some (.long z)) h) (hc : kc ≤ rm.cells) (hs : ks ≤ rm.slots) : Go K rm Z n0 bs ml ret own nm Q kc ks h pc L (.long z :: S) := by
  subst ht
  obtain ⟨p, l, e, s, m, args, below, meth, c⟩ := K
  intro hx hby hml hret hlk hnm vm0 k0 hSn hk0 hZ hown hEW hCH T locs X hF hh
  obtain ⟨fs, hr, hrun, hended, hW, hsame⟩ := X.leave (v := some (.long z)) (fun q => by rw [hret] at q; cases q) hlk
  obtain ⟨b1, b2, b3⟩ := hSn.ended hW (by rw [show (T.setFrames fs).heap = h from hh]; exact hk0) hsame
  exact ⟨T.setFrames fs, _, locs, retOut X hx hret rfl (Or.inr (Or.inl ⟨rfl, rfl, z, rfl⟩)) (hb hby hd) hr, hrun, hended, by rw [show (T.setFrames fs).heap = h from hh]; exact hQ, hF, (by have q := hCH.trans (CHv.at X hZ (hEW #[]) hCH.1); rw [show (T.setFrames fs).heap = h from hh]; exact q), ⟨_, rfl⟩, b1, b2, b3.mono hc hs⟩
theorem areturn {t : FieldType} {v : Value} (hd : decode bs pc = .ok (.areturn, 1)) (ht : ret = some t) (htr : t.isReference = true) (hv : v.isRef = true) (hnn : narrow t v = v) (hQ : Q (some v) h) (hc : kc ≤ rm.cells) (hs : ks ≤ rm.slots) : Go K rm Z n0 bs ml ret own nm Q kc ks h pc L (v :: S) := by
  subst ht
  obtain ⟨p, l, e, s, m, args, below, meth, c⟩ := K
  intro hx hby hml hret hlk hnm vm0 k0 hSn hk0 hZ hown hEW hCH T locs X hF hh
  obtain ⟨fs, hr, hrun, hended, hW, hsame⟩ := X.leave (v := some v) (fun q => by rw [hret] at q; cases q) hlk
  obtain ⟨b1, b2, b3⟩ := hSn.ended hW (by rw [show (T.setFrames fs).heap = h from hh]; exact hk0) hsame
  exact ⟨T.setFrames fs, _, locs, retOut X hx hret hnn (Or.inr (Or.inr (Or.inr (Or.inr ⟨rfl, htr, hv⟩)))) (hb hby hd) hr, hrun, hended, by rw [show (T.setFrames fs).heap = h from hh]; exact hQ, hF, (by have q := hCH.trans (CHv.at X hZ (hEW #[]) hCH.1); rw [show (T.setFrames fs).heap = h from hh]; exact q), ⟨_, rfl⟩, b1, b2, b3.mono hc hs⟩
theorem vreturn (hd : decode bs pc = .ok (.return_, 1)) (ht : ret = none) (hQ : Q none h) (hc : kc ≤ rm.cells) (hs : ks ≤ rm.slots) : Go K rm Z n0 bs ml ret own nm Q kc ks h pc L [] := by
  subst ht
  obtain ⟨p, l, e, s, m, args, below, meth, c⟩ := K
  intro hx hby hml hret hlk hnm vm0 k0 hSn hk0 hZ hown hEW hCH T locs X hF hh
  obtain ⟨fs, hr, hrun, hended, hW, hsame⟩ := X.leave (v := none) (fun _ => rfl) hlk
  obtain ⟨b1, b2, b3⟩ := hSn.ended hW (by rw [show (T.setFrames fs).heap = h from hh]; exact hk0) hsame
  exact ⟨T.setFrames fs, _, locs, X.returnOut hx hret (hb hby hd) hr, hrun, hended, by rw [show (T.setFrames fs).heap = h from hh]; exact hQ, hF, (by have q := hCH.trans (CHv.at X hZ (hEW #[]) hCH.1); rw [show (T.setFrames fs).heap = h from hh]; exact q), ⟨_, rfl⟩, b1, b2, b3.mono hc hs⟩
theorem join {pc2 : Nat} {L2 : Array Slot} {S2 : List Value} (h1 : Go K rm Z n0 bs ml ret own nm Q kc ks h pc2 L2 S2 → Go K rm Z n0 bs ml ret own nm Q kc ks h pc L S) (h2 : Go K rm Z n0 bs ml ret own nm Q kc ks h pc2 L2 S2) : Go K rm Z n0 bs ml ret own nm Q kc ks h pc L S := h1 h2
theorem ifnonnull_no {o : Int} (hd : decode bs pc = .ok (.ifnonnull o, 3)) (hp : pc + 3 = pc') (hr : Go K rm Z n0 bs ml ret own nm Q kc ks h pc' L S) : Go K rm Z n0 bs ml ret own nm Q kc ks h pc L (.null :: S) := by
  subst hp
  obtain ⟨p, l, e, s, m, args, below, meth, c⟩ := K
  intro hx hby hml hret hlk hnm vm0 k0 hSn hk0 hZ hown hEW hCH T locs X hF hh
  obtain ⟨s₂, v, L', st, r⟩ := hr hx hby hml hret hlk hnm vm0 k0 hSn hk0 hZ hown hEW hCH T locs X hF hh
  exact ⟨s₂, v, L', XS.ifnonnullNo X.here hx rfl (hb hby hd) rfl st, r⟩
theorem ifnonnull_yes {o : Int} {b : Addr} (hd : decode bs pc = .ok (.ifnonnull o, 3)) (ho : 0 ≤ (pc : Int) + o) (hp : ((pc : Int) + o).toNat = pc') (hr : Go K rm Z n0 bs ml ret own nm Q kc ks h pc' L S) : Go K rm Z n0 bs ml ret own nm Q kc ks h pc L (.ref b :: S) := by
  obtain ⟨p, l, e, s, m, args, below, meth, c⟩ := K
  intro hx hby hml hret hlk hnm vm0 k0 hSn hk0 hZ hown hEW hCH T locs X hF hh
  obtain ⟨s₂, v, L', st, r⟩ := hr hx hby hml hret hlk hnm vm0 k0 hSn hk0 hZ hown hEW hCH T locs X hF hh
  exact ⟨s₂, v, L', XS.ifnonnullYes X.here hx rfl (pc0 := pc) (pc' := pc') rfl (hb hby hd) rfl ho hp st, r⟩
theorem Go.more {kc' ks' : Nat} (hc : kc ≤ kc') (hs : ks ≤ ks') (hr : Go K rm Z n0 bs ml ret own nm Q kc' ks' h pc L S) : Go K rm Z n0 bs ml ret own nm Q kc ks h pc L S := by
  obtain ⟨p, l, e, s, m, args, below, meth, c⟩ := K
  intro hx hby hml hret hlk hnm vm0 k0 hSn hk0 hZ hown hEW hCH T locs X hF hh
  exact hr hx hby hml hret hlk hnm vm0 k0 hSn hk0 hZ hown hEW hCH T locs (X.more hc hs) hF hh
theorem Con.post {y : MethodName} {rm' : Room} {bs' : ByteArray} {ml' : Nat} {ret' : Option FieldType} {as : List Value} {Q1 Q2 : Option Value → Heap → Prop} (C : Con Z n0 y bs' ml' ret' rm' as h Q1) (q : ∀ v h', Q1 v h' → Q2 v h') : Con Z n0 y bs' ml' ret' rm' as h Q2 := fun l p e h1 h2 h3 s m args below h4 h5 h6 h7 => by
  obtain ⟨n, o, g1, g2, g3, v, L, g4, g5, g6⟩ := C l p e h1 h2 h3 s m args below h4 h5 h6 h7
  exact ⟨n, o, g1, g2, g3, v, L, g4, ⟨q _ _ g5.1, g5.2⟩, g6⟩
/-- an int[] of n places that hold f 0 .. f (n - 1) -/
def AI (Z : State) (h : Heap) (a : Addr) (n : Nat) (f : Nat → Int32) : Prop := ∃ cl : Cell, Arr Z h a cl .int ∧ cl.slots.size = n ∧ n < 2 ^ 31 ∧ ∀ k, k < n → cl.slots[k]? = some (.int (f k))
def AJ (Z : State) (h : Heap) (a : Addr) (n : Nat) (f : Nat → Int64) : Prop := ∃ cl : Cell, Arr Z h a cl .long ∧ cl.slots.size = n ∧ n < 2 ^ 31 ∧ ∀ k, k < n → cl.slots[k]? = some (.long (f k))
def AB (Z : State) (h : Heap) (a : Addr) (n : Nat) (f : Nat → Int32) : Prop := ∃ cl : Cell, Arr Z h a cl .byte ∧ cl.slots.size = n ∧ n < 2 ^ 31 ∧ ∀ k, k < n → cl.slots[k]? = some (.int (f k))
def ownSet {α : Type} (f : Nat → α) (i : Nat) (x : α) : Nat → α := fun k => if k = i then x else f k
theorem inb {j : Int32} {i n : Nat} (hj : j.toInt = (i : Int)) (hi : i < n) : ¬ (j < 0 ∨ n ≤ j.toNatClampNeg) ∧ j.toNatClampNeg = i := by
  have e : j.toNatClampNeg = i := by simp [Int32.toNatClampNeg, hj]
  refine ⟨?_, e⟩
  rw [e, Int32.lt_iff_toInt_lt, hj]
  simp; omega
theorem AI.ext {h' : Heap} {a : Addr} {n : Nat} {f : Nat → Int32} (F : AI Z h a n f) (E : Ext h h') : AI Z h' a n f := by obtain ⟨c, A, r⟩ := F; exact ⟨c, A.ext E, r⟩
theorem AI.other {h' : Heap} {a b : Addr} {sl n : Nat} {v : Value} {f : Nat → Int32} (F : AI Z h b n f) (W : Wr h h' a sl v) (q : b ≠ a) : AI Z h' b n f := by obtain ⟨c, A, r⟩ := F; exact ⟨c, A.other W q, r⟩
theorem AI.keep {h' : Heap} {a : Addr} {n : Nat} {ws : List Addr} {f : Nat → Int32} (F : AI Z h a n f) (K : Keep h h' ws) (q : a ∉ ws) : AI Z h' a n f := by obtain ⟨c, A, r⟩ := F; exact ⟨c, ⟨K.2.1 a c A.1 q, A.2⟩, r⟩
theorem AI.lt {a : Addr} {n : Nat} {f : Nat → Int32} (F : AI Z h a n f) : a < h.size := by obtain ⟨c, A, -⟩ := F; exact A.lt
theorem AI.set {h' : Heap} {a : Addr} {n i : Nat} {x : Int32} {f : Nat → Int32} (F : AI Z h a n f) (W : Wr h h' a i (.int x)) : AI Z h' a n (ownSet f i x) := by
  obtain ⟨c, A, r1, r2, r3⟩ := F
  refine ⟨_, A.same W, by rw [sz_set]; exact r1, r2, fun k hk => ?_⟩
  by_cases e : k = i
  · subst e; simp [Cell.setSlot, ownSet, r1, hk]
  · rw [show (c.setSlot i (.int x)).slots[k]? = c.slots[k]? from Array.getElem?_setIfInBounds_ne (Ne.symm e), r3 k hk]; simp [ownSet, e]
theorem AI.cong {a : Addr} {n : Nat} {f g : Nat → Int32} (F : AI Z h a n f) (q : ∀ k, k < n → f k = g k) : AI Z h a n g := by obtain ⟨c, A, r1, r2, r3⟩ := F; exact ⟨c, A, r1, r2, fun k hk => by rw [r3 k hk, q k hk]⟩
theorem AJ.ext {h' : Heap} {a : Addr} {n : Nat} {f : Nat → Int64} (F : AJ Z h a n f) (E : Ext h h') : AJ Z h' a n f := by obtain ⟨c, A, r⟩ := F; exact ⟨c, A.ext E, r⟩
theorem AJ.other {h' : Heap} {a b : Addr} {sl n : Nat} {v : Value} {f : Nat → Int64} (F : AJ Z h b n f) (W : Wr h h' a sl v) (q : b ≠ a) : AJ Z h' b n f := by obtain ⟨c, A, r⟩ := F; exact ⟨c, A.other W q, r⟩
theorem AJ.keep {h' : Heap} {a : Addr} {n : Nat} {ws : List Addr} {f : Nat → Int64} (F : AJ Z h a n f) (K : Keep h h' ws) (q : a ∉ ws) : AJ Z h' a n f := by obtain ⟨c, A, r⟩ := F; exact ⟨c, ⟨K.2.1 a c A.1 q, A.2⟩, r⟩
theorem AJ.lt {a : Addr} {n : Nat} {f : Nat → Int64} (F : AJ Z h a n f) : a < h.size := by obtain ⟨c, A, -⟩ := F; exact A.lt
theorem AJ.set {h' : Heap} {a : Addr} {n i : Nat} {x : Int64} {f : Nat → Int64} (F : AJ Z h a n f) (W : Wr h h' a i (.long x)) : AJ Z h' a n (ownSet f i x) := by
  obtain ⟨c, A, r1, r2, r3⟩ := F
  refine ⟨_, A.same W, by rw [sz_set]; exact r1, r2, fun k hk => ?_⟩
  by_cases e : k = i
  · subst e; simp [Cell.setSlot, ownSet, r1, hk]
  · rw [show (c.setSlot i (.long x)).slots[k]? = c.slots[k]? from Array.getElem?_setIfInBounds_ne (Ne.symm e), r3 k hk]; simp [ownSet, e]
theorem AJ.cong {a : Addr} {n : Nat} {f g : Nat → Int64} (F : AJ Z h a n f) (q : ∀ k, k < n → f k = g k) : AJ Z h a n g := by obtain ⟨c, A, r1, r2, r3⟩ := F; exact ⟨c, A, r1, r2, fun k hk => by rw [r3 k hk, q k hk]⟩
theorem AB.ext {h' : Heap} {a : Addr} {n : Nat} {f : Nat → Int32} (F : AB Z h a n f) (E : Ext h h') : AB Z h' a n f := by obtain ⟨c, A, r⟩ := F; exact ⟨c, A.ext E, r⟩
theorem AB.other {h' : Heap} {a b : Addr} {sl n : Nat} {v : Value} {f : Nat → Int32} (F : AB Z h b n f) (W : Wr h h' a sl v) (q : b ≠ a) : AB Z h' b n f := by obtain ⟨c, A, r⟩ := F; exact ⟨c, A.other W q, r⟩
theorem AB.keep {h' : Heap} {a : Addr} {n : Nat} {ws : List Addr} {f : Nat → Int32} (F : AB Z h a n f) (K : Keep h h' ws) (q : a ∉ ws) : AB Z h' a n f := by obtain ⟨c, A, r⟩ := F; exact ⟨c, ⟨K.2.1 a c A.1 q, A.2⟩, r⟩
theorem AB.lt {a : Addr} {n : Nat} {f : Nat → Int32} (F : AB Z h a n f) : a < h.size := by obtain ⟨c, A, -⟩ := F; exact A.lt
theorem AB.set {h' : Heap} {a : Addr} {n i : Nat} {x : Int32} {f : Nat → Int32} (F : AB Z h a n f) (W : Wr h h' a i (.int x)) : AB Z h' a n (ownSet f i x) := by
  obtain ⟨c, A, r1, r2, r3⟩ := F
  refine ⟨_, A.same W, by rw [sz_set]; exact r1, r2, fun k hk => ?_⟩
  by_cases e : k = i
  · subst e; simp [Cell.setSlot, ownSet, r1, hk]
  · rw [show (c.setSlot i (.int x)).slots[k]? = c.slots[k]? from Array.getElem?_setIfInBounds_ne (Ne.symm e), r3 k hk]; simp [ownSet, e]
theorem AB.cong {a : Addr} {n : Nat} {f g : Nat → Int32} (F : AB Z h a n f) (q : ∀ k, k < n → f k = g k) : AB Z h a n g := by obtain ⟨c, A, r1, r2, r3⟩ := F; exact ⟨c, A, r1, r2, fun k hk => by rw [r3 k hk, q k hk]⟩
theorem iaload {a : Addr} {j : Int32} {i n : Nat} {f : Nat → Int32} (hd : decode bs pc = .ok (.iaload, 1)) (hp : pc + 1 = pc') (A : AI Z h a n f) (hj : j.toInt = (i : Int)) (hi : i < n) (hr : Go K rm Z n0 bs ml ret own nm Q kc ks h pc' L (.int (f i) :: S)) : Go K rm Z n0 bs ml ret own nm Q kc ks h pc L (.int j :: .ref a :: S) := by
  subst hp
  obtain ⟨p, l, e, s, m, args, below, meth, c⟩ := K
  intro hx hby hml hret hlk hnm vm0 k0 hSn hk0 hZ hown hEW hCH T locs X hF hh
  obtain ⟨cl, A1, r1, r2, r3⟩ := A
  obtain ⟨g1, g2⟩ := inb hj hi
  obtain ⟨s₂, v, L', st, r⟩ := hr hx hby hml hret hlk hnm vm0 k0 hSn hk0 hZ hown hEW hCH T locs X hF hh
  exact ⟨s₂, v, L', X.iaload hx (j := j) (v := .int (f i)) (by rw [hh]; exact A1.1) (State.isArrayOf_alike hZ.alike A1.2.1) A1.2.2 (by rw [r1]; exact g1) (by rw [g2]; exact r3 i hi) (g := mkF m pc L (.int j :: .ref a :: S)) rfl rfl (hb hby hd) _ st, r⟩
theorem laload {a : Addr} {j : Int32} {i n : Nat} {f : Nat → Int64} (hd : decode bs pc = .ok (.laload, 1)) (hp : pc + 1 = pc') (A : AJ Z h a n f) (hj : j.toInt = (i : Int)) (hi : i < n) (hr : Go K rm Z n0 bs ml ret own nm Q kc ks h pc' L (.long (f i) :: S)) : Go K rm Z n0 bs ml ret own nm Q kc ks h pc L (.int j :: .ref a :: S) := by
  subst hp
  obtain ⟨p, l, e, s, m, args, below, meth, c⟩ := K
  intro hx hby hml hret hlk hnm vm0 k0 hSn hk0 hZ hown hEW hCH T locs X hF hh
  obtain ⟨cl, A1, r1, r2, r3⟩ := A
  obtain ⟨g1, g2⟩ := inb hj hi
  obtain ⟨s₂, v, L', st, r⟩ := hr hx hby hml hret hlk hnm vm0 k0 hSn hk0 hZ hown hEW hCH T locs X hF hh
  exact ⟨s₂, v, L', X.laload hx (j := j) (v := .long (f i)) (by rw [hh]; exact A1.1) (State.isArrayOf_alike hZ.alike A1.2.1) A1.2.2 (by rw [r1]; exact g1) (by rw [g2]; exact r3 i hi) (g := mkF m pc L (.int j :: .ref a :: S)) rfl rfl (hb hby hd) _ st, r⟩
theorem baload {a : Addr} {j : Int32} {i n : Nat} {f : Nat → Int32} (hd : decode bs pc = .ok (.baload, 1)) (hp : pc + 1 = pc') (A : AB Z h a n f) (hj : j.toInt = (i : Int)) (hi : i < n) (hr : Go K rm Z n0 bs ml ret own nm Q kc ks h pc' L (.int (f i) :: S)) : Go K rm Z n0 bs ml ret own nm Q kc ks h pc L (.int j :: .ref a :: S) := by
  subst hp
  obtain ⟨p, l, e, s, m, args, below, meth, c⟩ := K
  intro hx hby hml hret hlk hnm vm0 k0 hSn hk0 hZ hown hEW hCH T locs X hF hh
  obtain ⟨cl, A1, r1, r2, r3⟩ := A
  obtain ⟨g1, g2⟩ := inb hj hi
  obtain ⟨s₂, v, L', st, r⟩ := hr hx hby hml hret hlk hnm vm0 k0 hSn hk0 hZ hown hEW hCH T locs X hF hh
  exact ⟨s₂, v, L', X.baloadBytes hx (j := j) (v := .int (f i)) (by rw [hh]; exact A1.1) (State.isArrayOf_alike hZ.alike A1.2.1) A1.2.2 (by rw [r1]; exact g1) (by rw [g2]; exact r3 i hi) (g := mkF m pc L (.int j :: .ref a :: S)) rfl rfl (hb hby hd) _ st, r⟩
theorem lenI {a : Addr} {n : Nat} {f : Nat → Int32} (hd : decode bs pc = .ok (.arraylength, 1)) (hp : pc + 1 = pc') (A : AI Z h a n f) (hr : ∀ z : Int32, z.toInt = (n : Int) → Go K rm Z n0 bs ml ret own nm Q kc ks h pc' L (.int z :: S)) : Go K rm Z n0 bs ml ret own nm Q kc ks h pc L (.ref a :: S) := by
  subst hp
  obtain ⟨p, l, e, s, m, args, below, meth, c⟩ := K
  intro hx hby hml hret hlk hnm vm0 k0 hSn hk0 hZ hown hEW hCH T locs X hF hh
  obtain ⟨cl, A1, r1, r2, r3⟩ := A
  obtain ⟨s₂, v, L', st, r⟩ := hr cl.slots.size.toInt32 (by rw [r1]; exact len_toInt r2) hx hby hml hret hlk hnm vm0 k0 hSn hk0 hZ hown hEW hCH T locs X hF hh
  exact ⟨s₂, v, L', X.arraylength hx (by rw [hh]; exact A1.1) (State.isArrayOf_alike hZ.alike A1.2.1) (g := mkF m pc L (.ref a :: S)) rfl rfl (hb hby hd) _ st, r⟩
theorem lenIE {a : Addr} {n : Nat} {z : Int32} {f : Nat → Int32} (hd : decode bs pc = .ok (.arraylength, 1)) (hp : pc + 1 = pc') (A : AI Z h a n f) (hz : z.toInt = (n : Int)) (hr : Go K rm Z n0 bs ml ret own nm Q kc ks h pc' L (.int z :: S)) : Go K rm Z n0 bs ml ret own nm Q kc ks h pc L (.ref a :: S) :=
  lenI hd hp A fun z' e => by obtain rfl : z' = z := Int32.toInt_inj.mp (e.trans hz.symm); exact hr
theorem lenJ {a : Addr} {n : Nat} {f : Nat → Int64} (hd : decode bs pc = .ok (.arraylength, 1)) (hp : pc + 1 = pc') (A : AJ Z h a n f) (hr : ∀ z : Int32, z.toInt = (n : Int) → Go K rm Z n0 bs ml ret own nm Q kc ks h pc' L (.int z :: S)) : Go K rm Z n0 bs ml ret own nm Q kc ks h pc L (.ref a :: S) := by
  subst hp
  obtain ⟨p, l, e, s, m, args, below, meth, c⟩ := K
  intro hx hby hml hret hlk hnm vm0 k0 hSn hk0 hZ hown hEW hCH T locs X hF hh
  obtain ⟨cl, A1, r1, r2, r3⟩ := A
  obtain ⟨s₂, v, L', st, r⟩ := hr cl.slots.size.toInt32 (by rw [r1]; exact len_toInt r2) hx hby hml hret hlk hnm vm0 k0 hSn hk0 hZ hown hEW hCH T locs X hF hh
  exact ⟨s₂, v, L', X.arraylength hx (by rw [hh]; exact A1.1) (State.isArrayOf_alike hZ.alike A1.2.1) (g := mkF m pc L (.ref a :: S)) rfl rfl (hb hby hd) _ st, r⟩
theorem lenJE {a : Addr} {n : Nat} {z : Int32} {f : Nat → Int64} (hd : decode bs pc = .ok (.arraylength, 1)) (hp : pc + 1 = pc') (A : AJ Z h a n f) (hz : z.toInt = (n : Int)) (hr : Go K rm Z n0 bs ml ret own nm Q kc ks h pc' L (.int z :: S)) : Go K rm Z n0 bs ml ret own nm Q kc ks h pc L (.ref a :: S) :=
  lenJ hd hp A fun z' e => by obtain rfl : z' = z := Int32.toInt_inj.mp (e.trans hz.symm); exact hr
theorem lenB {a : Addr} {n : Nat} {f : Nat → Int32} (hd : decode bs pc = .ok (.arraylength, 1)) (hp : pc + 1 = pc') (A : AB Z h a n f) (hr : ∀ z : Int32, z.toInt = (n : Int) → Go K rm Z n0 bs ml ret own nm Q kc ks h pc' L (.int z :: S)) : Go K rm Z n0 bs ml ret own nm Q kc ks h pc L (.ref a :: S) := by
  subst hp
  obtain ⟨p, l, e, s, m, args, below, meth, c⟩ := K
  intro hx hby hml hret hlk hnm vm0 k0 hSn hk0 hZ hown hEW hCH T locs X hF hh
  obtain ⟨cl, A1, r1, r2, r3⟩ := A
  obtain ⟨s₂, v, L', st, r⟩ := hr cl.slots.size.toInt32 (by rw [r1]; exact len_toInt r2) hx hby hml hret hlk hnm vm0 k0 hSn hk0 hZ hown hEW hCH T locs X hF hh
  exact ⟨s₂, v, L', X.arraylength hx (by rw [hh]; exact A1.1) (State.isArrayOf_alike hZ.alike A1.2.1) (g := mkF m pc L (.ref a :: S)) rfl rfl (hb hby hd) _ st, r⟩
theorem lenBE {a : Addr} {n : Nat} {z : Int32} {f : Nat → Int32} (hd : decode bs pc = .ok (.arraylength, 1)) (hp : pc + 1 = pc') (A : AB Z h a n f) (hz : z.toInt = (n : Int)) (hr : Go K rm Z n0 bs ml ret own nm Q kc ks h pc' L (.int z :: S)) : Go K rm Z n0 bs ml ret own nm Q kc ks h pc L (.ref a :: S) :=
  lenB hd hp A fun z' e => by obtain rfl : z' = z := Int32.toInt_inj.mp (e.trans hz.symm); exact hr
theorem clamp_of {j : Int32} {i : Nat} (hj : j.toInt = (i : Int)) : j.toNatClampNeg = i ∧ ¬ j < 0 := by
  refine ⟨by simp [Int32.toNatClampNeg, hj], ?_⟩
  rw [Int32.lt_iff_toInt_lt, hj]; simp
theorem AJ.arv {a : Addr} {n : Nat} {f : Nat → Int64} (F : AJ Z h a n f) : ∃ k, Arv Z h a k .long (Int32.ofInt n) ((List.range n).map fun i => Value.long (f i)) (.long 0) ∧ (Int32.ofInt (n : Int)).toNatClampNeg = n := by
  obtain ⟨c, A, r1, r2, r3⟩ := F
  have e : (Int32.ofInt (n : Int)).toInt = (n : Int) := by rw [Int32.toInt_ofInt]; exact LawKit.bmod32 (by omega) (by omega)
  obtain ⟨e1, e2⟩ := clamp_of e
  refine ⟨c.cls, ⟨c, A, rfl, by rw [r1, e1], e2, fun k hk => ?_, fun k hk => ?_⟩, e1⟩
  · rw [r1] at hk; rw [r3 k hk]; simp [List.getD_eq_getElem?_getD, hk]
  · rw [r1] at hk; simp [List.getD_eq_getElem?_getD, hk, fits]
def ownL (l : List Int32) : Nat → Int32 := fun k => l.getD k 0
theorem AB.of_arv {b : Addr} {k : ClassId} {z : Int32} {l : List Int32} (A : Arv Z h b k .byte z (l.map Value.int) (.int 0)) (hz : z.toInt = (l.length : Int)) (h31 : l.length < 2 ^ 31) : AB Z h b l.length (ownL l) := by
  obtain ⟨c, A1, -, q1, -, q2, -⟩ := A
  obtain ⟨e1, -⟩ := clamp_of hz
  rw [e1] at q1
  refine ⟨c, A1, q1, h31, fun j hj => ?_⟩
  rw [q2 j (by rw [q1]; exact hj)]
  simp [ownL, List.getD_eq_getElem?_getD, hj]
theorem ldcStr {text : String} {i n : Nat} {l : List Int32} {z : Int32} (hd : decode bs pc = .ok (.ldc i, 2)) (hp : pc + 2 = pc') (w : (Jvm.Cond.stringLink own i text).before a0 Z = true) (wS : ∀ a ∈ Bundle.stringAtoms, a.before a0 Z = true) (hmem : (own, i) ∈ ownEL)
    (ht : (∀ c ∈ text.toList, c.toNat < 256) ∧ text.toList.map (fun c => Value.int (Jvm.Lit.byteI c.toNat.toUInt16)) = l.map Value.int) (hz : z.toInt = (l.length : Int)) (h31 : l.length < 2 ^ 31) (hn : 4 * text.toList.length ≤ n) (hbig : n ≤ 536870912) (hc : kc + 2 ≤ rm.cells) (hs : ks + (n + 4) ≤ rm.slots)
    (hr : ∀ a b h', Ext h h' → Exa Z h' a "java/lang/String" → Fld Z h' a "java/lang/String" "coder" "B" (.int 0) → Fld Z h' a "java/lang/String" "value" "[B" (.ref b) → AB Z h' b l.length (ownL l) → Go K rm Z n0 bs ml ret own nm Q (kc + 2) (ks + (n + 4)) h' pc' L (.ref a :: S)) : Go K rm Z n0 bs ml ret own nm Q kc ks h pc L S := by
  subst hp
  obtain ⟨zc1, zc2⟩ := clamp_of hz
  obtain ⟨p, l, e, s, m, args, below, meth, c⟩ := K
  intro hx hby hml hret hlk hnm vm0 k0 hSn hk0 hZ hown hEW hCH T locs X hF hh
  obtain ⟨a, T', h', k1, b, k, X', e', E', hS3, hk1, hZ2, hown2, g1, g2, g3, g4, -, -, hC2, -, -, st'⟩ := ldcCH X hx hZ hown w wS hh hSn hk0 (hEW _) hmem hCH.1 ht zc2 (by rw [zc1, List.length_map]) (g := mkF m pc L S) rfl (hb hby hd) hn hbig hc hs
  obtain ⟨s₂, v, L', st, r⟩ := hr a b h' E' g1 g2 g3 (AB.of_arv g4 hz h31) hx hby hml hret hlk hnm _ _ hS3 hk1 hZ2 hown2 hEW (hCH.trans hC2) T' _ X' hF e'
  exact ⟨s₂, v, L', st' _ st, r⟩
/-- an array of C of n places that hold f 0 .. f (n - 1) -/
def AR (Z : State) (h : Heap) (a : Addr) (C : String) (n : Nat) (f : Nat → Value) : Prop := ∃ cl : Cell, Arr Z h a cl (.object C) ∧ Ovr Z cl.cls C ∧ cl.slots.size = n ∧ n < 2 ^ 31 ∧ ∀ k, k < n → cl.slots[k]? = some (f k) ∧ (f k).isRef = true
def AZ (Z : State) (h : Heap) (a : Addr) (n : Nat) (f : Nat → Int32) : Prop := ∃ cl : Cell, Arr Z h a cl .boolean ∧ cl.slots.size = n ∧ n < 2 ^ 31 ∧ ∀ k, k < n → cl.slots[k]? = some (.int (f k))
theorem AZ.ext {h' : Heap} {a : Addr} {n : Nat} {f : Nat → Int32} (F : AZ Z h a n f) (E : Ext h h') : AZ Z h' a n f := by obtain ⟨c, A, r⟩ := F; exact ⟨c, A.ext E, r⟩
theorem AZ.other {h' : Heap} {a b : Addr} {sl n : Nat} {v : Value} {f : Nat → Int32} (F : AZ Z h b n f) (W : Wr h h' a sl v) (q : b ≠ a) : AZ Z h' b n f := by obtain ⟨c, A, r⟩ := F; exact ⟨c, A.other W q, r⟩
theorem AZ.keep {h' : Heap} {a : Addr} {n : Nat} {ws : List Addr} {f : Nat → Int32} (F : AZ Z h a n f) (K : Keep h h' ws) (q : a ∉ ws) : AZ Z h' a n f := by obtain ⟨c, A, r⟩ := F; exact ⟨c, ⟨K.2.1 a c A.1 q, A.2⟩, r⟩
theorem AZ.lt {a : Addr} {n : Nat} {f : Nat → Int32} (F : AZ Z h a n f) : a < h.size := by obtain ⟨c, A, -⟩ := F; exact A.lt
theorem AR.ext {h' : Heap} {a : Addr} {C : String} {n : Nat} {f : Nat → Value} (F : AR Z h a C n f) (E : Ext h h') : AR Z h' a C n f := by obtain ⟨c, A, r⟩ := F; exact ⟨c, A.ext E, r⟩
theorem AR.other {h' : Heap} {a b : Addr} {C : String} {sl n : Nat} {v : Value} {f : Nat → Value} (F : AR Z h b C n f) (W : Wr h h' a sl v) (q : b ≠ a) : AR Z h' b C n f := by obtain ⟨c, A, r⟩ := F; exact ⟨c, A.other W q, r⟩
theorem AR.keep {h' : Heap} {a : Addr} {C : String} {n : Nat} {ws : List Addr} {f : Nat → Value} (F : AR Z h a C n f) (K : Keep h h' ws) (q : a ∉ ws) : AR Z h' a C n f := by obtain ⟨c, A, r⟩ := F; exact ⟨c, ⟨K.2.1 a c A.1 q, A.2⟩, r⟩
theorem AR.lt {a : Addr} {C : String} {n : Nat} {f : Nat → Value} (F : AR Z h a C n f) : a < h.size := by obtain ⟨c, A, -⟩ := F; exact A.lt
theorem AR.set {h' : Heap} {a : Addr} {C : String} {n i : Nat} {x : Value} {f : Nat → Value} (F : AR Z h a C n f) (W : Wr h h' a i x) (hx : x.isRef = true) : AR Z h' a C n (ownSet f i x) := by
  obtain ⟨c, A, O, r1, r2, r3⟩ := F
  refine ⟨_, A.same W, O, by rw [sz_set]; exact r1, r2, fun k hk => ?_⟩
  by_cases e : k = i
  · subst e; simp [Cell.setSlot, ownSet, r1, hk, hx]
  · rw [show (c.setSlot i x).slots[k]? = c.slots[k]? from Array.getElem?_setIfInBounds_ne (Ne.symm e)]
    have := r3 k hk
    simp only [ownSet, if_neg e]; exact this
theorem aaload {a : Addr} {C : String} {j : Int32} {i n : Nat} {f : Nat → Value} (hd : decode bs pc = .ok (.aaload, 1)) (hp : pc + 1 = pc') (A : AR Z h a C n f) (hj : j.toInt = (i : Int)) (hi : i < n) (hr : Go K rm Z n0 bs ml ret own nm Q kc ks h pc' L (f i :: S)) : Go K rm Z n0 bs ml ret own nm Q kc ks h pc L (.int j :: .ref a :: S) := by
  subst hp
  obtain ⟨p, l, e, s, m, args, below, meth, c⟩ := K
  intro hx hby hml hret hlk hnm vm0 k0 hSn hk0 hZ hown hEW hCH T locs X hF hh
  obtain ⟨cl, A1, O1, r1, r2, r3⟩ := A
  obtain ⟨g1, g2⟩ := inb hj hi
  obtain ⟨s₂, v, L', st, r⟩ := hr hx hby hml hret hlk hnm vm0 k0 hSn hk0 hZ hown hEW hCH T locs X hF hh
  exact ⟨s₂, v, L', X.aaload hx (j := j) (v := f i) (by rw [hh]; exact A1.1) (State.isArrayOf_alike hZ.alike A1.2.1) rfl A1.2.2 (by rw [r1]; exact g1) (by rw [g2]; exact (r3 i hi).1) (g := mkF m pc L (.int j :: .ref a :: S)) rfl rfl (hb hby hd) _ st, r⟩
theorem lenR {a : Addr} {C : String} {n : Nat} {f : Nat → Value} (hd : decode bs pc = .ok (.arraylength, 1)) (hp : pc + 1 = pc') (A : AR Z h a C n f) (hr : ∀ z : Int32, z.toInt = (n : Int) → Go K rm Z n0 bs ml ret own nm Q kc ks h pc' L (.int z :: S)) : Go K rm Z n0 bs ml ret own nm Q kc ks h pc L (.ref a :: S) := by
  subst hp
  obtain ⟨p, l, e, s, m, args, below, meth, c⟩ := K
  intro hx hby hml hret hlk hnm vm0 k0 hSn hk0 hZ hown hEW hCH T locs X hF hh
  obtain ⟨cl, A1, O1, r1, r2, r3⟩ := A
  obtain ⟨s₂, v, L', st, r⟩ := hr cl.slots.size.toInt32 (by rw [r1]; exact len_toInt r2) hx hby hml hret hlk hnm vm0 k0 hSn hk0 hZ hown hEW hCH T locs X hF hh
  exact ⟨s₂, v, L', X.arraylength hx (by rw [hh]; exact A1.1) (State.isArrayOf_alike hZ.alike A1.2.1) (g := mkF m pc L (.ref a :: S)) rfl rfl (hb hby hd) _ st, r⟩
theorem lenRE {a : Addr} {C : String} {n : Nat} {z : Int32} {f : Nat → Value} (hd : decode bs pc = .ok (.arraylength, 1)) (hp : pc + 1 = pc') (A : AR Z h a C n f) (hz : z.toInt = (n : Int)) (hr : Go K rm Z n0 bs ml ret own nm Q kc ks h pc' L (.int z :: S)) : Go K rm Z n0 bs ml ret own nm Q kc ks h pc L (.ref a :: S) :=
  lenR hd hp A fun z' e => by obtain rfl : z' = z := Int32.toInt_inj.mp (e.trans hz.symm); exact hr
theorem AR.arv {a : Addr} {C : String} {n : Nat} {f : Nat → Value} (F : AR Z h a C n f) : ∃ k, Arv Z h a k (.object C) (Int32.ofInt n) ((List.range n).map f) .null ∧ (Int32.ofInt (n : Int)).toNatClampNeg = n := by
  obtain ⟨c, A, -, r1, r2, r3⟩ := F
  have e : (Int32.ofInt (n : Int)).toInt = (n : Int) := by rw [Int32.toInt_ofInt]; exact LawKit.bmod32 (by omega) (by omega)
  obtain ⟨e1, e2⟩ := clamp_of e
  refine ⟨c.cls, ⟨c, A, rfl, by rw [r1, e1], e2, fun k hk => ?_, fun k hk => ?_⟩, e1⟩
  · rw [r1] at hk; rw [(r3 k hk).1]; simp [List.getD_eq_getElem?_getD, hk]
  · rw [r1] at hk; have := (r3 k hk).2; simp [List.getD_eq_getElem?_getD, hk]; rcases ref_cases this with q | ⟨x, q⟩ <;> rw [q] <;> rfl
end Laws
end Jvm.Own
@@BLOCK:NumsL.lean.txt@@
namespace Jvm.Own
theorem i64_nat (x : Int64) (h : 0 ≤ x.toInt) : (x.toBitVec.toNat : Int) = x.toInt := by
  have hl := x.toBitVec.isLt
  have e : x.toInt = x.toBitVec.toInt := rfl
  rw [e] at h ⊢
  rw [BitVec.toInt_eq_toNat_cond] at h ⊢
  split at h <;> rename_i hc
  · rw [if_pos hc]
  · omega
theorem i64_ofnat (x : Int64) (h : x.toBitVec.toNat < 2 ^ 63) : x.toInt = (x.toBitVec.toNat : Int) := by
  show x.toBitVec.toInt = _
  rw [BitVec.toInt_eq_toNat_cond, if_pos (by omega)]
theorem i64_or (x y : Int64) (k q : Nat) (hx : x.toInt = (q : Int) * 2 ^ k) (hy0 : 0 ≤ y.toInt) (hy : y.toInt < 2 ^ k) (hb : (q : Int) * 2 ^ k + 2 ^ k ≤ 2 ^ 63) : (x ||| y).toInt = x.toInt + y.toInt := by
  have c : ((q * 2 ^ k : Nat) : Int) = (q : Int) * 2 ^ k := by simp
  have c2 : ((2 ^ k : Nat) : Int) = 2 ^ k := by simp
  have x0 : 0 ≤ x.toInt := by omega
  have hx' := i64_nat x x0
  have hy' := i64_nat y hy0
  have ex : x.toBitVec.toNat = 2 ^ k * q := by rw [Nat.mul_comm]; omega
  have ey : y.toBitVec.toNat < 2 ^ k := by omega
  have e : (x ||| y).toBitVec.toNat = x.toBitVec.toNat + y.toBitVec.toNat := by
    rw [Int64.toBitVec_or, BitVec.toNat_or, ex, ← Nat.two_pow_add_eq_or_of_lt ey]
  rw [i64_ofnat _ (by omega), e]; omega
theorem i64_hi (x m : Int64) (k : Nat) (hk : k < 63) (hm : m.toBitVec.toNat = (2 ^ (64 - k) - 1) * 2 ^ k) (h0 : 0 ≤ x.toInt) : (x &&& m).toInt = x.toInt / 2 ^ k * 2 ^ k := by
  have hx' := i64_nat x h0
  have hl := x.toBitVec.isLt
  have c2 : ((2 ^ k : Nat) : Int) = 2 ^ k := by simp
  have hlt := Int64.toInt_lt x
  have e : (x &&& m).toBitVec.toNat = x.toBitVec.toNat / 2 ^ k * 2 ^ k := by
    rw [Int64.toBitVec_and, BitVec.toNat_and, hm, ← Nat.shiftLeft_eq, ← Nat.shiftLeft_eq, ← Nat.shiftRight_eq_div_pow]
    apply Nat.eq_of_testBit_eq
    intro i
    rw [Nat.testBit_and, Nat.testBit_shiftLeft, Nat.testBit_shiftLeft, Nat.testBit_two_pow_sub_one, Nat.testBit_shiftRight]
    by_cases q : k ≤ i
    · rw [show k + (i - k) = i by omega]
      by_cases q2 : i < 64
      · simp [q, show i - k < 64 - k by omega]
      · rw [Nat.testBit_lt_two_pow (Nat.lt_of_lt_of_le hl (Nat.pow_le_pow_right (by omega) (by omega)))]; simp
    · simp [q]
  have le : x.toBitVec.toNat / 2 ^ k * 2 ^ k ≤ x.toBitVec.toNat := Nat.div_mul_le_self _ _
  rw [i64_ofnat _ (by omega), e, ← hx', ← c2]; simp
theorem i32_nat (x : Int32) (h : 0 ≤ x.toInt) : (x.toBitVec.toNat : Int) = x.toInt := by
  have hl := x.toBitVec.isLt
  have e : x.toInt = x.toBitVec.toInt := rfl
  rw [e] at h ⊢
  rw [BitVec.toInt_eq_toNat_cond] at h ⊢
  split at h <;> rename_i hc
  · rw [if_pos hc]
  · omega
theorem i32_ofnat (x : Int32) (h : x.toBitVec.toNat < 2 ^ 31) : x.toInt = (x.toBitVec.toNat : Int) := by
  show x.toBitVec.toInt = _
  rw [BitVec.toInt_eq_toNat_cond, if_pos (by omega)]
theorem i2c_small (y : Int32) (h0 : 0 ≤ y.toInt) (h1 : y.toInt < 65536) : y.toUInt32.toUInt16.toUInt32.toInt32 = y := by
  apply Int32.toBitVec_inj.mp
  apply BitVec.eq_of_toNat_eq
  have h := i32_nat y h0
  have e : y.toUInt32.toUInt16.toUInt32.toInt32.toBitVec.toNat = y.toUInt32.toUInt16.toUInt32.toNat := rfl
  rw [e, UInt16.toNat_toUInt32, UInt32.toNat_toUInt16]
  show y.toBitVec.toNat % 2 ^ 16 = _
  omega
theorem ushrL_nn (x : Int64) (h0 : 0 ≤ x.toInt) (y : Int32) {k : Nat} (hy : y.toInt = (k : Int)) (hk : k < 64) : (Jvm.Own.ushrL x y).toInt = x.toInt / 2 ^ k := by
  refine Jvm.Kit.i64_lushr (Jvm.Kit.i64_nonneg.mpr h0) ?_ hk
  have e1 := i32_nat y (by omega)
  have e2 : y.toInt64.toBitVec.toNat = k := by
    have := i64_nat y.toInt64 (by rw [Int32.toInt_toInt64]; omega)
    rw [Int32.toInt_toInt64] at this; omega
  have e4 := Jvm.Kit.i32_mask y 63 (k := 6) (by decide) (by decide)
  have e5 := i64_nat (y &&& 63).toInt64 (by rw [Int32.toInt_toInt64]; omega)
  rw [Int32.toInt_toInt64] at e5
  have e6 : (y &&& 63).toInt64.toUInt64.toNat = (y &&& 63).toInt64.toBitVec.toNat := rfl
  omega
theorem ushrL_bv (x : Int64) (y : Int32) (k : Nat) (hy : y.toInt = (k : Int)) (hk : k < 64) : Jvm.Own.ushrL x y = Int64.ofBitVec (x.toBitVec >>> k) := by
  have e4 := Jvm.Kit.i32_mask y 63 (k := 6) (by decide) (by decide)
  have e5 := i64_nat (y &&& 63).toInt64 (by rw [Int32.toInt_toInt64]; omega)
  rw [Int32.toInt_toInt64] at e5
  have e6 : (y &&& 63).toInt64.toUInt64.toBitVec.toNat = k := by
    have : (y &&& 63).toInt64.toUInt64.toBitVec.toNat = (y &&& 63).toInt64.toBitVec.toNat := rfl
    omega
  apply Int64.toBitVec_inj.mp
  apply BitVec.eq_of_toNat_eq
  show (x.toUInt64 >>> (y &&& 63).toInt64.toUInt64).toBitVec.toNat = (x.toBitVec >>> k).toNat
  rw [UInt64.toBitVec_shiftRight, BitVec.ushiftRight_eq', BitVec.toNat_ushiftRight, BitVec.toNat_ushiftRight, BitVec.toNat_umod, e6]
  show x.toBitVec.toNat >>> (k % 64) = _
  rw [Nat.mod_eq_of_lt hk]
end Jvm.Own
namespace Jvm.Pilot.@@N@@
open Jvm Jvm.ClassFile Sem Op Lib Jvm.Free Jvm.Stand Jvm.LawKit Jvm.RoadKit Bundle Jvm.Own Jvm.Pilot.@@N@@.Jvm.D
theorem own_wS {Z : State} {a0 : Array Value} (hw : ∀ d ∈ tables_1, d.before a0 Z = true) : ∀ a ∈ Bundle.stringAtoms, a.before a0 Z = true := by
  intro d hd
  simp only [Bundle.stringAtoms, List.mem_cons, List.not_mem_nil, or_false] at hd
  rcases hd with rfl | rfl | rfl | rfl | rfl | rfl | rfl
  · exact hw _ (List.mem_of_getElem? (i := 4) rfl)
  · exact hw _ (List.mem_of_getElem? (i := 5) rfl)
  · exact hw _ (List.mem_of_getElem? (i := 6) rfl)
  · exact hw _ (List.mem_of_getElem? (i := 7) rfl)
  · exact hw _ (List.mem_of_getElem? (i := 8) rfl)
  · exact hw _ (List.mem_of_getElem? (i := 9) rfl)
  · exact hw _ (List.mem_of_getElem? (i := 10) rfl)
theorem own_ws {Z : State} {a0 aw : Array Value} {own t : String} {i : Nat} (w : (Jvm.Cond.stringLink own i t).before a0 Z = true) : (Jvm.Cond.stringLink own i t).before aw Z = true := mvS (s := Z) (State.Warmed39.refl Z) w
theorem own_EW {Z : State} {a0 : Array Value} (hw : ∀ d ∈ tables_1, d.before a0 Z = true) : ∀ aw, EW Z aw ownEL := fun aw => (EW.cons (own_ws (hw _ (List.mem_of_getElem? (i := 44) rfl))) (by decide) (EW.cons (own_ws (hw _ (List.mem_of_getElem? (i := 3) rfl))) (by decide) (EW.cons (own_ws (hw _ (List.mem_of_getElem? (i := 51) rfl))) (by decide) (EW.cons (own_ws (hw _ (List.mem_of_getElem? (i := 47) rfl))) (by decide) (EW.cons (own_ws (hw _ (List.mem_of_getElem? (i := 43) rfl))) (by decide) EW.nil)))))
theorem own_eqI {args : Array Value} {first s : State} {o : Option Outcome} {idx : List Nat} {a b : Term} {y : Int32} (h : (Jvm.Cond.eq a b).value args first o s idx = some true) (hb : b.eval args first o idx s = some (.int y)) : a.eval args first o idx s = some (.int y) := by
  cases ha : a.eval args first o idx s with
  | none => simp [Cond.value, ha] at h
  | some x => cases x <;> simp [Cond.value, ha, hb] at h ⊢ <;> exact h
theorem own_eqR {args : Array Value} {first s : State} {o : Option Outcome} {idx : List Nat} {a b : Term} {y : Addr} (h : (Jvm.Cond.eq a b).value args first o s idx = some true) (hb : b.eval args first o idx s = some (.ref y)) : a.eval args first o idx s = some (.ref y) := by
  cases ha : a.eval args first o idx s with
  | none => simp [Cond.value, ha] at h
  | some x => cases x <;> simp [Cond.value, ha, hb] at h ⊢ <;> exact h
theorem own_AB {Z : State} {args : Array Value} {t : Term} {a : Addr} {l : List Int32} {z : Int32} (ev : t.eval args Z none [] Z = some (.ref a)) (hx : (Jvm.Cond.arrayOf t .byte).value args Z none Z [] = some true) (hl : (Term.length t).eval args Z none [] Z = some (.int z)) (hz : z.toInt = (l.length : Int))
    (he : ∀ k, k < l.length → (Term.elem t (.int (Int32.ofNat k))).eval args Z none [] Z = some (.int (l.getD k 0))) : AB Z Z.heap a l.length (ownL l) := by
  obtain ⟨c, A⟩ := Arr.start ev hx
  have ha : Z.arrayAt? a = some c := A.fin (Vm.Alike.refl _)
  have hn : c.slots.size < 2147483648 := by
    by_cases q : c.slots.size < 2147483648
    · exact q
    · simp [Term.eval, ev, ha, q] at hl
  rw [len_f ev ha hn] at hl
  have e1 : c.slots.size = l.length := by
    have e := congrArg Int32.toInt (Value.int.inj (Option.some.inj hl)); rw [len_toInt hn, hz] at e; omega
  refine ⟨c, A, e1, by omega, fun k hk => ?_⟩
  obtain ⟨e2, e3⟩ := elem_in (he k hk) ev (Term.int_eval _) A.1
  have e4 : (Int32.ofNat k).toNatClampNeg = k := by simp [Int32.toNatClampNeg, Int32.toInt_ofNat_of_lt (show k < 2 ^ 31 by omega)]
  rw [e4] at e3; exact e3
theorem own_ne0 {args : Array Value} {first s : State} {o : Option Outcome} {idx : List Nat} {t : Term} {y : Int32} (h : (Jvm.Cond.not (Jvm.Cond.eq t (.int 0))).value args first o s idx = some true) (ht : t.eval args first o idx s = some (.int y)) : y ≠ 0 := fun e => by
  subst e; simp [Cond.value, ht, Term.int_eval] at h
theorem own_arr_v {args : Array Value} {first s : State} {o : Option Outcome} {idx : List Nat} {t : Term} {ty : FieldType} (h : (Jvm.Cond.arrayOf t ty).value args first o s idx = some true) : ∃ x, t.eval args first o idx s = some (.ref x) := by
  cases ha : t.eval args first o idx s with
  | none => simp [Cond.value, ha] at h
  | some x => cases x <;> simp [Cond.value, ha] at h ⊢

theorem d_prog_21_method_4_0 : decode prog_21_method_4_code 0 = .ok (.aload_n 0, 1) := by decide +kernel
theorem d_prog_21_method_4_1 : decode prog_21_method_4_code 1 = .ok (.getfield 32, 3) := by decide +kernel
theorem d_prog_21_method_4_4 : decode prog_21_method_4_code 4 = .ok (.areturn, 1) := by decide +kernel
theorem d_prog_7_method_7_0 : decode prog_7_method_7_code 0 = .ok (.aload_n 0, 1) := by decide +kernel
theorem d_prog_7_method_7_1 : decode prog_7_method_7_code 1 = .ok (.getfield 35, 3) := by decide +kernel
theorem d_prog_7_method_7_4 : decode prog_7_method_7_code 4 = .ok (.ifnonnull 8, 3) := by decide +kernel
theorem d_prog_7_method_7_12 : decode prog_7_method_7_code 12 = .ok (.aload_n 0, 1) := by decide +kernel
theorem d_prog_7_method_7_13 : decode prog_7_method_7_code 13 = .ok (.getfield 35, 3) := by decide +kernel
theorem d_prog_7_method_7_16 : decode prog_7_method_7_code 16 = .ok (.invokevirtual 80, 3) := by decide +kernel
theorem d_prog_7_method_7_19 : decode prog_7_method_7_code 19 = .ok (.areturn, 1) := by decide +kernel
theorem d_prog_7_method_7_7 : decode prog_7_method_7_code 7 = .ok (.ldc 78, 2) := by decide +kernel
theorem d_prog_7_method_7_9 : decode prog_7_method_7_code 9 = .ok (.goto 10, 3) := by decide +kernel
theorem d_jdk_43_method_13_0 : decode jdk_43_method_13_code 0 = .ok (.aload_n 0, 1) := by decide +kernel
theorem d_jdk_43_method_13_1 : decode jdk_43_method_13_code 1 = .ok (.arraylength, 1) := by decide +kernel
theorem d_jdk_43_method_13_2 : decode jdk_43_method_13_code 2 = .ok (.aload_n 1, 1) := by decide +kernel
theorem d_jdk_43_method_13_3 : decode jdk_43_method_13_code 3 = .ok (.arraylength, 1) := by decide +kernel
theorem d_jdk_43_method_13_4 : decode jdk_43_method_13_code 4 = .ok (.if_icmp .ne 30, 3) := by decide +kernel
theorem d_jdk_43_method_13_7 : decode jdk_43_method_13_code 7 = .ok (.iconst 0, 1) := by decide +kernel
theorem d_jdk_43_method_13_8 : decode jdk_43_method_13_code 8 = .ok (.istore_n 2, 1) := by decide +kernel
theorem d_jdk_43_method_13_9 : decode jdk_43_method_13_code 9 = .ok (.iload_n 2, 1) := by decide +kernel
theorem d_jdk_43_method_13_10 : decode jdk_43_method_13_code 10 = .ok (.aload_n 0, 1) := by decide +kernel
theorem d_jdk_43_method_13_11 : decode jdk_43_method_13_code 11 = .ok (.arraylength, 1) := by decide +kernel
theorem d_jdk_43_method_13_12 : decode jdk_43_method_13_code 12 = .ok (.if_icmp .ge 20, 3) := by decide +kernel
theorem d_jdk_43_method_13_15 : decode jdk_43_method_13_code 15 = .ok (.aload_n 0, 1) := by decide +kernel
theorem d_jdk_43_method_13_16 : decode jdk_43_method_13_code 16 = .ok (.iload_n 2, 1) := by decide +kernel
theorem d_jdk_43_method_13_17 : decode jdk_43_method_13_code 17 = .ok (.baload, 1) := by decide +kernel
theorem d_jdk_43_method_13_18 : decode jdk_43_method_13_code 18 = .ok (.aload_n 1, 1) := by decide +kernel
theorem d_jdk_43_method_13_19 : decode jdk_43_method_13_code 19 = .ok (.iload_n 2, 1) := by decide +kernel
theorem d_jdk_43_method_13_20 : decode jdk_43_method_13_code 20 = .ok (.baload, 1) := by decide +kernel
theorem d_jdk_43_method_13_21 : decode jdk_43_method_13_code 21 = .ok (.if_icmp .eq 5, 3) := by decide +kernel
theorem d_jdk_43_method_13_26 : decode jdk_43_method_13_code 26 = .ok (.iinc 2 1, 3) := by decide +kernel
theorem d_jdk_43_method_13_29 : decode jdk_43_method_13_code 29 = .ok (.goto (-20), 3) := by decide +kernel
theorem d_jdk_43_method_13_32 : decode jdk_43_method_13_code 32 = .ok (.iconst 1, 1) := by decide +kernel
theorem d_jdk_43_method_13_33 : decode jdk_43_method_13_code 33 = .ok (.ireturn, 1) := by decide +kernel
theorem d_jdk_42_method_66_0 : decode jdk_42_method_66_code 0 = .ok (.aload_n 0, 1) := by decide +kernel
theorem d_jdk_42_method_66_1 : decode jdk_42_method_66_code 1 = .ok (.aload_n 1, 1) := by decide +kernel
theorem d_jdk_42_method_66_2 : decode jdk_42_method_66_code 2 = .ok (.if_acmp .ne 5, 3) := by decide +kernel
theorem d_jdk_42_method_66_5 : decode jdk_42_method_66_code 5 = .ok (.iconst 1, 1) := by decide +kernel
theorem d_jdk_42_method_66_6 : decode jdk_42_method_66_code 6 = .ok (.ireturn, 1) := by decide +kernel
theorem d_jdk_42_method_66_7 : decode jdk_42_method_66_code 7 = .ok (.aload_n 1, 1) := by decide +kernel
theorem d_jdk_42_method_66_8 : decode jdk_42_method_66_code 8 = .ok (.instanceof 10, 3) := by decide +kernel
theorem d_jdk_42_method_66_11 : decode jdk_42_method_66_code 11 = .ok (.ifCond .eq 43, 3) := by decide +kernel
theorem d_jdk_42_method_66_14 : decode jdk_42_method_66_code 14 = .ok (.aload_n 1, 1) := by decide +kernel
theorem d_jdk_42_method_66_15 : decode jdk_42_method_66_code 15 = .ok (.checkcast 10, 3) := by decide +kernel
theorem d_jdk_42_method_66_18 : decode jdk_42_method_66_code 18 = .ok (.astore_n 2, 1) := by decide +kernel
theorem d_jdk_42_method_66_19 : decode jdk_42_method_66_code 19 = .ok (.getstatic 38, 3) := by decide +kernel
theorem d_jdk_42_method_66_22 : decode jdk_42_method_66_code 22 = .ok (.ifCond .eq 14, 3) := by decide +kernel
theorem d_jdk_42_method_66_25 : decode jdk_42_method_66_code 25 = .ok (.aload_n 0, 1) := by decide +kernel
theorem d_jdk_42_method_66_26 : decode jdk_42_method_66_code 26 = .ok (.getfield 15, 3) := by decide +kernel
theorem d_jdk_42_method_66_29 : decode jdk_42_method_66_code 29 = .ok (.aload_n 2, 1) := by decide +kernel
theorem d_jdk_42_method_66_30 : decode jdk_42_method_66_code 30 = .ok (.getfield 15, 3) := by decide +kernel
theorem d_jdk_42_method_66_33 : decode jdk_42_method_66_code 33 = .ok (.if_icmp .ne 21, 3) := by decide +kernel
theorem d_jdk_42_method_66_36 : decode jdk_42_method_66_code 36 = .ok (.aload_n 0, 1) := by decide +kernel
theorem d_jdk_42_method_66_37 : decode jdk_42_method_66_code 37 = .ok (.getfield 9, 3) := by decide +kernel
theorem d_jdk_42_method_66_40 : decode jdk_42_method_66_code 40 = .ok (.aload_n 2, 1) := by decide +kernel
theorem d_jdk_42_method_66_41 : decode jdk_42_method_66_code 41 = .ok (.getfield 9, 3) := by decide +kernel
theorem d_jdk_42_method_66_44 : decode jdk_42_method_66_code 44 = .ok (.invokestatic 541, 3) := by decide +kernel
theorem d_jdk_42_method_66_47 : decode jdk_42_method_66_code 47 = .ok (.ifCond .eq 7, 3) := by decide +kernel
theorem d_jdk_42_method_66_50 : decode jdk_42_method_66_code 50 = .ok (.iconst 1, 1) := by decide +kernel
theorem d_jdk_42_method_66_51 : decode jdk_42_method_66_code 51 = .ok (.goto 4, 3) := by decide +kernel
theorem d_jdk_42_method_66_55 : decode jdk_42_method_66_code 55 = .ok (.ireturn, 1) := by decide +kernel
theorem pn_0 : plainName "com/example/vouch/vouch/core/InteractionMode" = true := by first | (simp [plainName, overriddenIn]; done) | decide +kernel
theorem pn_1 : plainName "com/example/vouch/vouch/core/Answer" = true := by first | (simp [plainName, overriddenIn]; done) | decide +kernel
theorem pn_2 : plainName "java/lang/StringLatin1" = true := by first | (simp [plainName, overriddenIn]; done) | decide +kernel
theorem pn_3 : plainName "java/lang/String" = true := by first | (simp [plainName, overriddenIn]; done) | decide +kernel
theorem pn_4 : plainName "com/example/vouch/vouch/core/AnswerKeywordPinLaw" = true := by first | (simp [plainName, overriddenIn]; done) | decide +kernel
theorem pd_0 : parseMethodDescriptor "()Ljava/lang/String;" = some ⟨[], some (.object "java/lang/String")⟩ := by decide +kernel
theorem pd_1 : parseMethodDescriptor "([B[B)Z" = some ⟨[(.array .byte), (.array .byte)], some .boolean⟩ := by decide +kernel
theorem pd_2 : parseMethodDescriptor "(Ljava/lang/Object;)Z" = some ⟨[(.object "java/lang/Object")], some .boolean⟩ := by decide +kernel
set_option maxRecDepth 65536 in
set_option maxHeartbeats 40000000 in
theorem c_imk (Z : State) (a0 : Array Value) (hw : ∀ d ∈ tables_1, d.before a0 Z = true) (n0 : Nat) (h : Heap) (hZ0 : n0 ≤ h.size) (o : Addr) (k : Addr) (F1 : Fld Z h o "com/example/vouch/vouch/core/InteractionMode" "keyword" "Ljava/lang/String;" (.ref k)) :
    Con Z n0 (⟨"com/example/vouch/vouch/core/InteractionMode", "keyword", "()Ljava/lang/String;"⟩ : MethodName) prog_21_method_4_code 1 (some (.object "java/lang/String")) ({ frames := 0, cells := 0, slots := 0, locals := 0 } : Room) [(.ref o)] h (fun v h' => v = some (.ref k) ∧ h = h') := by
  refine Own.enter (plainFor_of_name pn_0) (own_EW hw) (L0 := #[.val (.ref o)]) (fun m => by first | (simp [entryFrame, mkF, argsToLocals, Value.category]; done) | rfl) fun K => ?_
  show Go K _ _ _ _ _ _ "com/example/vouch/vouch/core/InteractionMode" "keyword" _ 0 0 h 0 #[.val (.ref o)] []
  refine Own.aloadN (pc' := 1) d_prog_21_method_4_0 rfl rfl rfl ?_
  refine Own.getfield (pc' := 4) d_prog_21_method_4_1 rfl (host := "") (Or.inl (hw _ (List.mem_of_getElem? (i := 25) rfl))) Via.refl F1 ?_
  exact Own.areturn d_prog_21_method_4_4 rfl rfl rfl rfl (⟨rfl, rfl⟩) (by decide) (by decide)
set_option maxRecDepth 65536 in
set_option maxHeartbeats 40000000 in
theorem c_ank (Z : State) (a0 : Array Value) (hw : ∀ d ∈ tables_1, d.before a0 Z = true) (n0 : Nat) (h : Heap) (hZ0 : n0 ≤ h.size) (o : Addr) (mm k : Addr) (F1 : Fld Z h o "com/example/vouch/vouch/core/Answer" "mode" "Lcom/example/vouch/vouch/core/InteractionMode;" (.ref mm)) (E1 : Exa Z h mm "com/example/vouch/vouch/core/InteractionMode") (F2 : Fld Z h mm "com/example/vouch/vouch/core/InteractionMode" "keyword" "Ljava/lang/String;" (.ref k)) :
    Con Z n0 (⟨"com/example/vouch/vouch/core/Answer", "keyword", "()Ljava/lang/String;"⟩ : MethodName) prog_7_method_7_code 1 (some (.object "java/lang/String")) ({ frames := 1, cells := 0, slots := 0, locals := 12 } : Room) [(.ref o)] h (fun v h' => v = some (.ref k) ∧ h = h') := by
  refine Own.enter (plainFor_of_name pn_1) (own_EW hw) (L0 := #[.val (.ref o)]) (fun m => by first | (simp [entryFrame, mkF, argsToLocals, Value.category]; done) | rfl) fun K => ?_
  show Go K _ _ _ _ _ _ "com/example/vouch/vouch/core/Answer" "keyword" _ 0 0 h 0 #[.val (.ref o)] []
  refine Own.aloadN (pc' := 1) d_prog_7_method_7_0 rfl rfl rfl ?_
  refine Own.getfield (pc' := 4) d_prog_7_method_7_1 rfl (host := "") (Or.inl (hw _ (List.mem_of_getElem? (i := 16) rfl))) Via.refl F1 ?_
  refine Own.ifnonnull_yes (pc' := 12) d_prog_7_method_7_4 (by decide) (by decide) ?_
  refine Own.aloadN (pc' := 13) d_prog_7_method_7_12 rfl rfl rfl ?_
  refine Own.getfield (pc' := 16) d_prog_7_method_7_13 rfl (host := "") (Or.inl (hw _ (List.mem_of_getElem? (i := 16) rfl))) Via.refl F1 ?_
  refine Own.virtual (pc' := 19) (y := (⟨"com/example/vouch/vouch/core/InteractionMode", "keyword", "()Ljava/lang/String;"⟩ : MethodName)) (rm' := ({ frames := 0, cells := 0, slots := 0, locals := 0 } : Room)) (W := 0) (as := []) (rest := []) (a := mm) d_prog_7_method_7_16 rfl (hw _ (List.mem_of_getElem? (i := 20) rfl)) (hw _ (List.mem_of_getElem? (i := 21) rfl)) (hw _ (List.mem_of_getElem? (i := 23) rfl)) (hw _ (List.mem_of_getElem? (i := 22) rfl)) (hw _ (List.mem_of_getElem? (i := 18) rfl)) (hw _ (List.mem_of_getElem? (i := 24) rfl)) (by decide) E1 (c_imk Z a0 hw n0 h hZ0 mm k F2) rfl rfl (lenOf pd_0 rfl) (by decide) rfl (by decide) (by decide) (by decide) fun r2 h1 qh1 => ?_
  obtain ⟨e2, e1⟩ := qh1
  subst e1 e2
  show Go K _ _ _ _ _ _ _ _ _ 0 0 h 19 #[.val (.ref o)] [(.ref k)]
  exact Own.areturn d_prog_7_method_7_19 rfl rfl rfl rfl (⟨rfl, rfl⟩) (by decide) (by decide)
set_option maxRecDepth 65536 in
set_option maxHeartbeats 40000000 in
theorem c_ankD (Z : State) (a0 : Array Value) (hw : ∀ d ∈ tables_1, d.before a0 Z = true) (n0 : Nat) (h : Heap) (hZ0 : n0 ≤ h.size) (o : Addr) (F1 : Fld Z h o "com/example/vouch/vouch/core/Answer" "mode" "Lcom/example/vouch/vouch/core/InteractionMode;" .null) :
    Con Z n0 (⟨"com/example/vouch/vouch/core/Answer", "keyword", "()Ljava/lang/String;"⟩ : MethodName) prog_7_method_7_code 1 (some (.object "java/lang/String")) ({ frames := 0, cells := 2, slots := 20, locals := 0 } : Room) [(.ref o)] h (fun v h' => ∃ a b, v = some (.ref a) ∧ Ext h h' ∧ Exa Z h' a "java/lang/String" ∧ Fld Z h' a "java/lang/String" "coder" "B" (.int 0) ∧ Fld Z h' a "java/lang/String" "value" "[B" (.ref b) ∧ AB Z h' b 4 (ownL [100, 101, 110, 121])) := by
  refine Own.enter (plainFor_of_name pn_1) (own_EW hw) (L0 := #[.val (.ref o)]) (fun m => by first | (simp [entryFrame, mkF, argsToLocals, Value.category]; done) | rfl) fun K => ?_
  show Go K _ _ _ _ _ _ "com/example/vouch/vouch/core/Answer" "keyword" _ 0 0 h 0 #[.val (.ref o)] []
  refine Own.aloadN (pc' := 1) d_prog_7_method_7_0 rfl rfl rfl ?_
  refine Own.getfield (pc' := 4) d_prog_7_method_7_1 rfl (host := "") (Or.inl (hw _ (List.mem_of_getElem? (i := 16) rfl))) Via.refl F1 ?_
  refine Own.ifnonnull_no (pc' := 7) d_prog_7_method_7_4 rfl ?_
  refine Own.ldcStr (pc' := 9) (n := 16) (l := [100, 101, 110, 121]) (z := 4) d_prog_7_method_7_7 rfl (hw _ (List.mem_of_getElem? (i := 44) rfl)) (own_wS hw) (by decide) (by decide) (by decide) (by decide) (by decide) (by decide) (by decide) (by decide) fun a3 a5 h4 Eh4 Xa3 Ca3 Va3 Aa5 => ?_
  have Zh4 : n0 ≤ h4.size := Nat.le_trans hZ0 Eh4.1
  have f6 := F1.ext Eh4
  show Go K _ _ _ _ _ _ _ _ _ 2 20 h4 9 #[.val (.ref o)] [(.ref a3)]
  refine Own.goto (pc' := 19) d_prog_7_method_7_9 (by decide) (by decide) ?_
  exact Own.areturn d_prog_7_method_7_19 rfl rfl rfl rfl (⟨a3, a5, rfl, Eh4, Xa3, Ca3, Va3, Aa5⟩) (by decide) (by decide)
set_option maxRecDepth 65536 in
set_option maxHeartbeats 40000000 in
theorem c_seq_blanket (Z : State) (a0 : Array Value) (hw : ∀ d ∈ tables_1, d.before a0 Z = true) (n0 : Nat) (h : Heap) (hZ0 : n0 ≤ h.size) (p : Addr) (r : Addr) (Ap : AB Z h p 7 (ownL [98, 108, 97, 110, 107, 101, 116])) (Ar : AB Z h r 7 (ownL [98, 108, 97, 110, 107, 101, 116])) :
    Con Z n0 (⟨"java/lang/StringLatin1", "equals", "([B[B)Z"⟩ : MethodName) jdk_43_method_13_code 3 (some .boolean) ({ frames := 0, cells := 0, slots := 0, locals := 0 } : Room) [(.ref p), (.ref r)] h (fun v h' => v = some (.int 1) ∧ h = h') := by
  refine Own.enter (plainFor_of_name pn_2) (own_EW hw) (L0 := #[.val (.ref p), .val (.ref r), .unset]) (fun m => by first | (simp [entryFrame, mkF, argsToLocals, Value.category]; done) | rfl) fun K => ?_
  show Go K _ _ _ _ _ _ "java/lang/StringLatin1" "equals" _ 0 0 h 0 #[.val (.ref p), .val (.ref r), .unset] []
  refine Own.aloadN (pc' := 1) d_jdk_43_method_13_0 rfl rfl rfl ?_
  refine Own.lenB (pc' := 2) d_jdk_43_method_13_1 rfl Ap fun v7 hv7 => ?_
  obtain rfl : v7 = (7 : Int32) := Int32.toInt_inj.mp (hv7.trans (by decide))
  refine Own.aloadN (pc' := 3) d_jdk_43_method_13_2 rfl rfl rfl ?_
  refine Own.lenB (pc' := 4) d_jdk_43_method_13_3 rfl Ar fun v8 hv8 => ?_
  obtain rfl : v8 = (7 : Int32) := Int32.toInt_inj.mp (hv8.trans (by decide))
  refine Own.icmp_ne (pc' := 34) (pc2 := 7) d_jdk_43_method_13_4 (by decide) (by decide) rfl (fun q => absurd q (by decide)) (fun _ => ?_)
  refine Own.iconst (pc' := 8) (v := (0 : Int32)) d_jdk_43_method_13_7 (by decide) rfl ?_
  refine Own.istoreN (pc' := 9) (L1 := #[.val (.ref p), .val (.ref r), .val (.int (0 : Int32))]) d_jdk_43_method_13_8 rfl rfl ?_
  refine Own.iloadN (pc' := 10) d_jdk_43_method_13_9 rfl rfl ?_
  refine Own.aloadN (pc' := 11) d_jdk_43_method_13_10 rfl rfl rfl ?_
  refine Own.lenB (pc' := 12) d_jdk_43_method_13_11 rfl Ap fun v10 hv10 => ?_
  obtain rfl : v10 = (7 : Int32) := Int32.toInt_inj.mp (hv10.trans (by decide))
  refine Own.icmp_ge (pc' := 32) (pc2 := 15) d_jdk_43_method_13_12 (by decide) (by decide) rfl (fun q => absurd q (by decide)) (fun _ => ?_)
  refine Own.aloadN (pc' := 16) d_jdk_43_method_13_15 rfl rfl rfl ?_
  refine Own.iloadN (pc' := 17) d_jdk_43_method_13_16 rfl rfl ?_
  refine Own.baload (pc' := 18) (i := 0) d_jdk_43_method_13_17 rfl Ap (by decide) (by decide) ?_
  show Go K _ _ _ _ _ _ _ _ _ 0 0 h 18 #[.val (.ref p), .val (.ref r), .val (.int (0 : Int32))] [(.int (98 : Int32))]
  refine Own.aloadN (pc' := 19) d_jdk_43_method_13_18 rfl rfl rfl ?_
  refine Own.iloadN (pc' := 20) d_jdk_43_method_13_19 rfl rfl ?_
  refine Own.baload (pc' := 21) (i := 0) d_jdk_43_method_13_20 rfl Ar (by decide) (by decide) ?_
  show Go K _ _ _ _ _ _ _ _ _ 0 0 h 21 #[.val (.ref p), .val (.ref r), .val (.int (0 : Int32))] [(.int (98 : Int32)), (.int (98 : Int32))]
  refine Own.icmp_eq (pc' := 26) (pc2 := 24) d_jdk_43_method_13_21 (by decide) (by decide) rfl (fun _ => ?_) (fun q => absurd (by decide) q)
  refine Own.iincE (pc' := 29) (L1 := fun zz => #[.val (.ref p), .val (.ref r), .val (.int zz)]) d_jdk_43_method_13_26 rfl (fun _ => rfl) rfl (z := (1 : Int32)) (by decide) ?_
  show Go K _ _ _ _ _ _ _ _ _ 0 0 h 29 #[.val (.ref p), .val (.ref r), .val (.int (1 : Int32))] []
  refine Own.goto (pc' := 9) d_jdk_43_method_13_29 (by decide) (by decide) ?_
  refine Own.iloadN (pc' := 10) d_jdk_43_method_13_9 rfl rfl ?_
  refine Own.aloadN (pc' := 11) d_jdk_43_method_13_10 rfl rfl rfl ?_
  refine Own.lenB (pc' := 12) d_jdk_43_method_13_11 rfl Ap fun v14 hv14 => ?_
  obtain rfl : v14 = (7 : Int32) := Int32.toInt_inj.mp (hv14.trans (by decide))
  refine Own.icmp_ge (pc' := 32) (pc2 := 15) d_jdk_43_method_13_12 (by decide) (by decide) rfl (fun q => absurd q (by decide)) (fun _ => ?_)
  refine Own.aloadN (pc' := 16) d_jdk_43_method_13_15 rfl rfl rfl ?_
  refine Own.iloadN (pc' := 17) d_jdk_43_method_13_16 rfl rfl ?_
  refine Own.baload (pc' := 18) (i := 1) d_jdk_43_method_13_17 rfl Ap (by decide) (by decide) ?_
  show Go K _ _ _ _ _ _ _ _ _ 0 0 h 18 #[.val (.ref p), .val (.ref r), .val (.int (1 : Int32))] [(.int (108 : Int32))]
  refine Own.aloadN (pc' := 19) d_jdk_43_method_13_18 rfl rfl rfl ?_
  refine Own.iloadN (pc' := 20) d_jdk_43_method_13_19 rfl rfl ?_
  refine Own.baload (pc' := 21) (i := 1) d_jdk_43_method_13_20 rfl Ar (by decide) (by decide) ?_
  show Go K _ _ _ _ _ _ _ _ _ 0 0 h 21 #[.val (.ref p), .val (.ref r), .val (.int (1 : Int32))] [(.int (108 : Int32)), (.int (108 : Int32))]
  refine Own.icmp_eq (pc' := 26) (pc2 := 24) d_jdk_43_method_13_21 (by decide) (by decide) rfl (fun _ => ?_) (fun q => absurd (by decide) q)
  refine Own.iincE (pc' := 29) (L1 := fun zz => #[.val (.ref p), .val (.ref r), .val (.int zz)]) d_jdk_43_method_13_26 rfl (fun _ => rfl) rfl (z := (2 : Int32)) (by decide) ?_
  show Go K _ _ _ _ _ _ _ _ _ 0 0 h 29 #[.val (.ref p), .val (.ref r), .val (.int (2 : Int32))] []
  refine Own.goto (pc' := 9) d_jdk_43_method_13_29 (by decide) (by decide) ?_
  refine Own.iloadN (pc' := 10) d_jdk_43_method_13_9 rfl rfl ?_
  refine Own.aloadN (pc' := 11) d_jdk_43_method_13_10 rfl rfl rfl ?_
  refine Own.lenB (pc' := 12) d_jdk_43_method_13_11 rfl Ap fun v18 hv18 => ?_
  obtain rfl : v18 = (7 : Int32) := Int32.toInt_inj.mp (hv18.trans (by decide))
  refine Own.icmp_ge (pc' := 32) (pc2 := 15) d_jdk_43_method_13_12 (by decide) (by decide) rfl (fun q => absurd q (by decide)) (fun _ => ?_)
  refine Own.aloadN (pc' := 16) d_jdk_43_method_13_15 rfl rfl rfl ?_
  refine Own.iloadN (pc' := 17) d_jdk_43_method_13_16 rfl rfl ?_
  refine Own.baload (pc' := 18) (i := 2) d_jdk_43_method_13_17 rfl Ap (by decide) (by decide) ?_
  show Go K _ _ _ _ _ _ _ _ _ 0 0 h 18 #[.val (.ref p), .val (.ref r), .val (.int (2 : Int32))] [(.int (97 : Int32))]
  refine Own.aloadN (pc' := 19) d_jdk_43_method_13_18 rfl rfl rfl ?_
  refine Own.iloadN (pc' := 20) d_jdk_43_method_13_19 rfl rfl ?_
  refine Own.baload (pc' := 21) (i := 2) d_jdk_43_method_13_20 rfl Ar (by decide) (by decide) ?_
  show Go K _ _ _ _ _ _ _ _ _ 0 0 h 21 #[.val (.ref p), .val (.ref r), .val (.int (2 : Int32))] [(.int (97 : Int32)), (.int (97 : Int32))]
  refine Own.icmp_eq (pc' := 26) (pc2 := 24) d_jdk_43_method_13_21 (by decide) (by decide) rfl (fun _ => ?_) (fun q => absurd (by decide) q)
  refine Own.iincE (pc' := 29) (L1 := fun zz => #[.val (.ref p), .val (.ref r), .val (.int zz)]) d_jdk_43_method_13_26 rfl (fun _ => rfl) rfl (z := (3 : Int32)) (by decide) ?_
  show Go K _ _ _ _ _ _ _ _ _ 0 0 h 29 #[.val (.ref p), .val (.ref r), .val (.int (3 : Int32))] []
  refine Own.goto (pc' := 9) d_jdk_43_method_13_29 (by decide) (by decide) ?_
  refine Own.iloadN (pc' := 10) d_jdk_43_method_13_9 rfl rfl ?_
  refine Own.aloadN (pc' := 11) d_jdk_43_method_13_10 rfl rfl rfl ?_
  refine Own.lenB (pc' := 12) d_jdk_43_method_13_11 rfl Ap fun v22 hv22 => ?_
  obtain rfl : v22 = (7 : Int32) := Int32.toInt_inj.mp (hv22.trans (by decide))
  refine Own.icmp_ge (pc' := 32) (pc2 := 15) d_jdk_43_method_13_12 (by decide) (by decide) rfl (fun q => absurd q (by decide)) (fun _ => ?_)
  refine Own.aloadN (pc' := 16) d_jdk_43_method_13_15 rfl rfl rfl ?_
  refine Own.iloadN (pc' := 17) d_jdk_43_method_13_16 rfl rfl ?_
  refine Own.baload (pc' := 18) (i := 3) d_jdk_43_method_13_17 rfl Ap (by decide) (by decide) ?_
  show Go K _ _ _ _ _ _ _ _ _ 0 0 h 18 #[.val (.ref p), .val (.ref r), .val (.int (3 : Int32))] [(.int (110 : Int32))]
  refine Own.aloadN (pc' := 19) d_jdk_43_method_13_18 rfl rfl rfl ?_
  refine Own.iloadN (pc' := 20) d_jdk_43_method_13_19 rfl rfl ?_
  refine Own.baload (pc' := 21) (i := 3) d_jdk_43_method_13_20 rfl Ar (by decide) (by decide) ?_
  show Go K _ _ _ _ _ _ _ _ _ 0 0 h 21 #[.val (.ref p), .val (.ref r), .val (.int (3 : Int32))] [(.int (110 : Int32)), (.int (110 : Int32))]
  refine Own.icmp_eq (pc' := 26) (pc2 := 24) d_jdk_43_method_13_21 (by decide) (by decide) rfl (fun _ => ?_) (fun q => absurd (by decide) q)
  refine Own.iincE (pc' := 29) (L1 := fun zz => #[.val (.ref p), .val (.ref r), .val (.int zz)]) d_jdk_43_method_13_26 rfl (fun _ => rfl) rfl (z := (4 : Int32)) (by decide) ?_
  show Go K _ _ _ _ _ _ _ _ _ 0 0 h 29 #[.val (.ref p), .val (.ref r), .val (.int (4 : Int32))] []
  refine Own.goto (pc' := 9) d_jdk_43_method_13_29 (by decide) (by decide) ?_
  refine Own.iloadN (pc' := 10) d_jdk_43_method_13_9 rfl rfl ?_
  refine Own.aloadN (pc' := 11) d_jdk_43_method_13_10 rfl rfl rfl ?_
  refine Own.lenB (pc' := 12) d_jdk_43_method_13_11 rfl Ap fun v26 hv26 => ?_
  obtain rfl : v26 = (7 : Int32) := Int32.toInt_inj.mp (hv26.trans (by decide))
  refine Own.icmp_ge (pc' := 32) (pc2 := 15) d_jdk_43_method_13_12 (by decide) (by decide) rfl (fun q => absurd q (by decide)) (fun _ => ?_)
  refine Own.aloadN (pc' := 16) d_jdk_43_method_13_15 rfl rfl rfl ?_
  refine Own.iloadN (pc' := 17) d_jdk_43_method_13_16 rfl rfl ?_
  refine Own.baload (pc' := 18) (i := 4) d_jdk_43_method_13_17 rfl Ap (by decide) (by decide) ?_
  show Go K _ _ _ _ _ _ _ _ _ 0 0 h 18 #[.val (.ref p), .val (.ref r), .val (.int (4 : Int32))] [(.int (107 : Int32))]
  refine Own.aloadN (pc' := 19) d_jdk_43_method_13_18 rfl rfl rfl ?_
  refine Own.iloadN (pc' := 20) d_jdk_43_method_13_19 rfl rfl ?_
  refine Own.baload (pc' := 21) (i := 4) d_jdk_43_method_13_20 rfl Ar (by decide) (by decide) ?_
  show Go K _ _ _ _ _ _ _ _ _ 0 0 h 21 #[.val (.ref p), .val (.ref r), .val (.int (4 : Int32))] [(.int (107 : Int32)), (.int (107 : Int32))]
  refine Own.icmp_eq (pc' := 26) (pc2 := 24) d_jdk_43_method_13_21 (by decide) (by decide) rfl (fun _ => ?_) (fun q => absurd (by decide) q)
  refine Own.iincE (pc' := 29) (L1 := fun zz => #[.val (.ref p), .val (.ref r), .val (.int zz)]) d_jdk_43_method_13_26 rfl (fun _ => rfl) rfl (z := (5 : Int32)) (by decide) ?_
  show Go K _ _ _ _ _ _ _ _ _ 0 0 h 29 #[.val (.ref p), .val (.ref r), .val (.int (5 : Int32))] []
  refine Own.goto (pc' := 9) d_jdk_43_method_13_29 (by decide) (by decide) ?_
  refine Own.iloadN (pc' := 10) d_jdk_43_method_13_9 rfl rfl ?_
  refine Own.aloadN (pc' := 11) d_jdk_43_method_13_10 rfl rfl rfl ?_
  refine Own.lenB (pc' := 12) d_jdk_43_method_13_11 rfl Ap fun v30 hv30 => ?_
  obtain rfl : v30 = (7 : Int32) := Int32.toInt_inj.mp (hv30.trans (by decide))
  refine Own.icmp_ge (pc' := 32) (pc2 := 15) d_jdk_43_method_13_12 (by decide) (by decide) rfl (fun q => absurd q (by decide)) (fun _ => ?_)
  refine Own.aloadN (pc' := 16) d_jdk_43_method_13_15 rfl rfl rfl ?_
  refine Own.iloadN (pc' := 17) d_jdk_43_method_13_16 rfl rfl ?_
  refine Own.baload (pc' := 18) (i := 5) d_jdk_43_method_13_17 rfl Ap (by decide) (by decide) ?_
  show Go K _ _ _ _ _ _ _ _ _ 0 0 h 18 #[.val (.ref p), .val (.ref r), .val (.int (5 : Int32))] [(.int (101 : Int32))]
  refine Own.aloadN (pc' := 19) d_jdk_43_method_13_18 rfl rfl rfl ?_
  refine Own.iloadN (pc' := 20) d_jdk_43_method_13_19 rfl rfl ?_
  refine Own.baload (pc' := 21) (i := 5) d_jdk_43_method_13_20 rfl Ar (by decide) (by decide) ?_
  show Go K _ _ _ _ _ _ _ _ _ 0 0 h 21 #[.val (.ref p), .val (.ref r), .val (.int (5 : Int32))] [(.int (101 : Int32)), (.int (101 : Int32))]
  refine Own.icmp_eq (pc' := 26) (pc2 := 24) d_jdk_43_method_13_21 (by decide) (by decide) rfl (fun _ => ?_) (fun q => absurd (by decide) q)
  refine Own.iincE (pc' := 29) (L1 := fun zz => #[.val (.ref p), .val (.ref r), .val (.int zz)]) d_jdk_43_method_13_26 rfl (fun _ => rfl) rfl (z := (6 : Int32)) (by decide) ?_
  show Go K _ _ _ _ _ _ _ _ _ 0 0 h 29 #[.val (.ref p), .val (.ref r), .val (.int (6 : Int32))] []
  refine Own.goto (pc' := 9) d_jdk_43_method_13_29 (by decide) (by decide) ?_
  refine Own.iloadN (pc' := 10) d_jdk_43_method_13_9 rfl rfl ?_
  refine Own.aloadN (pc' := 11) d_jdk_43_method_13_10 rfl rfl rfl ?_
  refine Own.lenB (pc' := 12) d_jdk_43_method_13_11 rfl Ap fun v34 hv34 => ?_
  obtain rfl : v34 = (7 : Int32) := Int32.toInt_inj.mp (hv34.trans (by decide))
  refine Own.icmp_ge (pc' := 32) (pc2 := 15) d_jdk_43_method_13_12 (by decide) (by decide) rfl (fun q => absurd q (by decide)) (fun _ => ?_)
  refine Own.aloadN (pc' := 16) d_jdk_43_method_13_15 rfl rfl rfl ?_
  refine Own.iloadN (pc' := 17) d_jdk_43_method_13_16 rfl rfl ?_
  refine Own.baload (pc' := 18) (i := 6) d_jdk_43_method_13_17 rfl Ap (by decide) (by decide) ?_
  show Go K _ _ _ _ _ _ _ _ _ 0 0 h 18 #[.val (.ref p), .val (.ref r), .val (.int (6 : Int32))] [(.int (116 : Int32))]
  refine Own.aloadN (pc' := 19) d_jdk_43_method_13_18 rfl rfl rfl ?_
  refine Own.iloadN (pc' := 20) d_jdk_43_method_13_19 rfl rfl ?_
  refine Own.baload (pc' := 21) (i := 6) d_jdk_43_method_13_20 rfl Ar (by decide) (by decide) ?_
  show Go K _ _ _ _ _ _ _ _ _ 0 0 h 21 #[.val (.ref p), .val (.ref r), .val (.int (6 : Int32))] [(.int (116 : Int32)), (.int (116 : Int32))]
  refine Own.icmp_eq (pc' := 26) (pc2 := 24) d_jdk_43_method_13_21 (by decide) (by decide) rfl (fun _ => ?_) (fun q => absurd (by decide) q)
  refine Own.iincE (pc' := 29) (L1 := fun zz => #[.val (.ref p), .val (.ref r), .val (.int zz)]) d_jdk_43_method_13_26 rfl (fun _ => rfl) rfl (z := (7 : Int32)) (by decide) ?_
  show Go K _ _ _ _ _ _ _ _ _ 0 0 h 29 #[.val (.ref p), .val (.ref r), .val (.int (7 : Int32))] []
  refine Own.goto (pc' := 9) d_jdk_43_method_13_29 (by decide) (by decide) ?_
  refine Own.iloadN (pc' := 10) d_jdk_43_method_13_9 rfl rfl ?_
  refine Own.aloadN (pc' := 11) d_jdk_43_method_13_10 rfl rfl rfl ?_
  refine Own.lenB (pc' := 12) d_jdk_43_method_13_11 rfl Ap fun v38 hv38 => ?_
  obtain rfl : v38 = (7 : Int32) := Int32.toInt_inj.mp (hv38.trans (by decide))
  refine Own.icmp_ge (pc' := 32) (pc2 := 15) d_jdk_43_method_13_12 (by decide) (by decide) rfl (fun _ => ?_) (fun q => absurd (by decide) q)
  refine Own.iconst (pc' := 33) (v := (1 : Int32)) d_jdk_43_method_13_32 (by decide) rfl ?_
  exact Own.ireturnZ (z' := (1 : Int32)) d_jdk_43_method_13_33 rfl (by decide) (⟨rfl, rfl⟩) (by decide) (by decide)
set_option maxRecDepth 65536 in
set_option maxHeartbeats 40000000 in
theorem c_eq_blanket (Z : State) (a0 : Array Value) (hw : ∀ d ∈ tables_1, d.before a0 Z = true) (n0 : Nat) (h : Heap) (hZ0 : n0 ≤ h.size) (o : Addr) (r : Addr) (p1 p2 : Addr) (cz : Int32) (hcz : cz ≠ 0) (SC : Sta Z h "java/lang/String" "COMPACT_STRINGS" "Z" (.int cz)) (Xo : Exa Z h o "java/lang/String") (Co : Fld Z h o "java/lang/String" "coder" "B" (.int 0)) (Vo : Fld Z h o "java/lang/String" "value" "[B" (.ref p1)) (Ap1 : AB Z h p1 7 (ownL [98, 108, 97, 110, 107, 101, 116])) (Xr : Exa Z h r "java/lang/String") (Cr : Fld Z h r "java/lang/String" "coder" "B" (.int 0)) (Vr : Fld Z h r "java/lang/String" "value" "[B" (.ref p2)) (Ap2 : AB Z h p2 7 (ownL [98, 108, 97, 110, 107, 101, 116])) :
    Con Z n0 (⟨"java/lang/String", "equals", "(Ljava/lang/Object;)Z"⟩ : MethodName) jdk_42_method_66_code 3 (some .boolean) ({ frames := 1, cells := 0, slots := 0, locals := 14 } : Room) [(.ref o), (.ref r)] h (fun v h' => v = some (.int 1) ∧ h = h') := by
  refine Own.enter (plainFor_of_name pn_3) (own_EW hw) (L0 := #[.val (.ref o), .val (.ref r), .unset]) (fun m => by first | (simp [entryFrame, mkF, argsToLocals, Value.category]; done) | rfl) fun K => ?_
  show Go K _ _ _ _ _ _ "java/lang/String" "equals" _ 0 0 h 0 #[.val (.ref o), .val (.ref r), .unset] []
  refine Own.aloadN (pc' := 1) d_jdk_42_method_66_0 rfl rfl rfl ?_
  refine Own.aloadN (pc' := 2) d_jdk_42_method_66_1 rfl rfl rfl ?_
  refine Own.acmp2 (pcs := 5) (pcd := 7) d_jdk_42_method_66_2 rfl rfl (by decide) (by decide) (by decide) (fun c2_39 => ?_) (fun c2_39 => ?_)
  · refine Own.iconst (pc' := 6) (v := (1 : Int32)) d_jdk_42_method_66_5 (by decide) rfl ?_
    exact Own.ireturnZ (z' := (1 : Int32)) d_jdk_42_method_66_6 rfl (by decide) (⟨rfl, rfl⟩) (by decide) (by decide)
  · refine Own.aloadN (pc' := 8) d_jdk_42_method_66_7 rfl rfl rfl ?_
    refine Own.instof (pc' := 11) d_jdk_42_method_66_8 rfl (hw _ (List.mem_of_getElem? (i := 32) rfl)) (Ins.self Xr) ?_
    refine Own.if_eq (pc' := 54) (pc2 := 14) d_jdk_42_method_66_11 (by decide) (by decide) rfl (fun q => absurd q (by decide)) (fun _ => ?_)
    refine Own.aloadN (pc' := 15) d_jdk_42_method_66_14 rfl rfl rfl ?_
    refine Own.chcast (pc' := 18) d_jdk_42_method_66_15 rfl (hw _ (List.mem_of_getElem? (i := 32) rfl)) (Ins.self Xr) ?_
    refine Own.astoreN (pc' := 19) (L1 := #[.val (.ref o), .val (.ref r), .val (.ref r)]) d_jdk_42_method_66_18 rfl rfl rfl ?_
    refine Own.getstatic (pc' := 22) d_jdk_42_method_66_19 rfl (hw _ (List.mem_of_getElem? (i := 34) rfl)) Via.refl SC ?_
    refine Own.if_eq (pc' := 36) (pc2 := 25) d_jdk_42_method_66_22 (by decide) (by decide) rfl (fun c22_41 => False.elim (by exact hcz c22_41)) (fun c22_41 => ?_)
    refine Own.aloadN (pc' := 26) d_jdk_42_method_66_25 rfl rfl rfl ?_
    refine Own.getfield (pc' := 29) d_jdk_42_method_66_26 rfl (host := "") (Or.inl (hw _ (List.mem_of_getElem? (i := 35) rfl))) Via.refl Co ?_
    refine Own.aloadN (pc' := 30) d_jdk_42_method_66_29 rfl rfl rfl ?_
    refine Own.getfield (pc' := 33) d_jdk_42_method_66_30 rfl (host := "") (Or.inl (hw _ (List.mem_of_getElem? (i := 35) rfl))) Via.refl Cr ?_
    refine Own.icmp_ne (pc' := 54) (pc2 := 36) d_jdk_42_method_66_33 (by decide) (by decide) rfl (fun q => absurd q (by decide)) (fun _ => ?_)
    refine Own.aloadN (pc' := 37) d_jdk_42_method_66_36 rfl rfl rfl ?_
    refine Own.getfield (pc' := 40) d_jdk_42_method_66_37 rfl (host := "") (Or.inl (hw _ (List.mem_of_getElem? (i := 36) rfl))) Via.refl Vo ?_
    refine Own.aloadN (pc' := 41) d_jdk_42_method_66_40 rfl rfl rfl ?_
    refine Own.getfield (pc' := 44) d_jdk_42_method_66_41 rfl (host := "") (Or.inl (hw _ (List.mem_of_getElem? (i := 36) rfl))) Via.refl Vr ?_
    refine Own.static (pc' := 47) (y := (⟨"java/lang/StringLatin1", "equals", "([B[B)Z"⟩ : MethodName)) (rm' := ({ frames := 0, cells := 0, slots := 0, locals := 0 } : Room)) (W := 0) (as := [(.ref p1), (.ref p2)]) (rest := []) d_jdk_42_method_66_44 rfl (hw _ (List.mem_of_getElem? (i := 37) rfl)) (hw _ (List.mem_of_getElem? (i := 38) rfl)) (hw _ (List.mem_of_getElem? (i := 39) rfl)) (hw _ (List.mem_of_getElem? (i := 40) rfl)) (by decide) (c_seq_blanket Z a0 hw n0 h hZ0 p1 p2 Ap1 Ap2) rfl rfl (lenOf pd_1 rfl) (by decide) rfl (by decide) (by decide) (by decide) fun r45 h44 qh44 => ?_
    obtain ⟨e2, e1⟩ := qh44
    subst e1 e2
    show Go K _ _ _ _ _ _ _ _ _ 0 0 h 47 #[.val (.ref o), .val (.ref r), .val (.ref r)] [(.int (1 : Int32))]
    refine Own.if_eq (pc' := 54) (pc2 := 50) d_jdk_42_method_66_47 (by decide) (by decide) rfl (fun q => absurd q (by decide)) (fun _ => ?_)
    refine Own.iconst (pc' := 51) (v := (1 : Int32)) d_jdk_42_method_66_50 (by decide) rfl ?_
    refine Own.goto (pc' := 55) d_jdk_42_method_66_51 (by decide) (by decide) ?_
    exact Own.ireturnZ (z' := (1 : Int32)) d_jdk_42_method_66_55 rfl (by decide) (⟨rfl, rfl⟩) (by decide) (by decide)
set_option maxRecDepth 65536 in
set_option maxHeartbeats 40000000 in
theorem c_seq_session (Z : State) (a0 : Array Value) (hw : ∀ d ∈ tables_1, d.before a0 Z = true) (n0 : Nat) (h : Heap) (hZ0 : n0 ≤ h.size) (p : Addr) (r : Addr) (Ap : AB Z h p 7 (ownL [115, 101, 115, 115, 105, 111, 110])) (Ar : AB Z h r 7 (ownL [115, 101, 115, 115, 105, 111, 110])) :
    Con Z n0 (⟨"java/lang/StringLatin1", "equals", "([B[B)Z"⟩ : MethodName) jdk_43_method_13_code 3 (some .boolean) ({ frames := 0, cells := 0, slots := 0, locals := 0 } : Room) [(.ref p), (.ref r)] h (fun v h' => v = some (.int 1) ∧ h = h') := by
  refine Own.enter (plainFor_of_name pn_2) (own_EW hw) (L0 := #[.val (.ref p), .val (.ref r), .unset]) (fun m => by first | (simp [entryFrame, mkF, argsToLocals, Value.category]; done) | rfl) fun K => ?_
  show Go K _ _ _ _ _ _ "java/lang/StringLatin1" "equals" _ 0 0 h 0 #[.val (.ref p), .val (.ref r), .unset] []
  refine Own.aloadN (pc' := 1) d_jdk_43_method_13_0 rfl rfl rfl ?_
  refine Own.lenB (pc' := 2) d_jdk_43_method_13_1 rfl Ap fun v47 hv47 => ?_
  obtain rfl : v47 = (7 : Int32) := Int32.toInt_inj.mp (hv47.trans (by decide))
  refine Own.aloadN (pc' := 3) d_jdk_43_method_13_2 rfl rfl rfl ?_
  refine Own.lenB (pc' := 4) d_jdk_43_method_13_3 rfl Ar fun v48 hv48 => ?_
  obtain rfl : v48 = (7 : Int32) := Int32.toInt_inj.mp (hv48.trans (by decide))
  refine Own.icmp_ne (pc' := 34) (pc2 := 7) d_jdk_43_method_13_4 (by decide) (by decide) rfl (fun q => absurd q (by decide)) (fun _ => ?_)
  refine Own.iconst (pc' := 8) (v := (0 : Int32)) d_jdk_43_method_13_7 (by decide) rfl ?_
  refine Own.istoreN (pc' := 9) (L1 := #[.val (.ref p), .val (.ref r), .val (.int (0 : Int32))]) d_jdk_43_method_13_8 rfl rfl ?_
  refine Own.iloadN (pc' := 10) d_jdk_43_method_13_9 rfl rfl ?_
  refine Own.aloadN (pc' := 11) d_jdk_43_method_13_10 rfl rfl rfl ?_
  refine Own.lenB (pc' := 12) d_jdk_43_method_13_11 rfl Ap fun v50 hv50 => ?_
  obtain rfl : v50 = (7 : Int32) := Int32.toInt_inj.mp (hv50.trans (by decide))
  refine Own.icmp_ge (pc' := 32) (pc2 := 15) d_jdk_43_method_13_12 (by decide) (by decide) rfl (fun q => absurd q (by decide)) (fun _ => ?_)
  refine Own.aloadN (pc' := 16) d_jdk_43_method_13_15 rfl rfl rfl ?_
  refine Own.iloadN (pc' := 17) d_jdk_43_method_13_16 rfl rfl ?_
  refine Own.baload (pc' := 18) (i := 0) d_jdk_43_method_13_17 rfl Ap (by decide) (by decide) ?_
  show Go K _ _ _ _ _ _ _ _ _ 0 0 h 18 #[.val (.ref p), .val (.ref r), .val (.int (0 : Int32))] [(.int (115 : Int32))]
  refine Own.aloadN (pc' := 19) d_jdk_43_method_13_18 rfl rfl rfl ?_
  refine Own.iloadN (pc' := 20) d_jdk_43_method_13_19 rfl rfl ?_
  refine Own.baload (pc' := 21) (i := 0) d_jdk_43_method_13_20 rfl Ar (by decide) (by decide) ?_
  show Go K _ _ _ _ _ _ _ _ _ 0 0 h 21 #[.val (.ref p), .val (.ref r), .val (.int (0 : Int32))] [(.int (115 : Int32)), (.int (115 : Int32))]
  refine Own.icmp_eq (pc' := 26) (pc2 := 24) d_jdk_43_method_13_21 (by decide) (by decide) rfl (fun _ => ?_) (fun q => absurd (by decide) q)
  refine Own.iincE (pc' := 29) (L1 := fun zz => #[.val (.ref p), .val (.ref r), .val (.int zz)]) d_jdk_43_method_13_26 rfl (fun _ => rfl) rfl (z := (1 : Int32)) (by decide) ?_
  show Go K _ _ _ _ _ _ _ _ _ 0 0 h 29 #[.val (.ref p), .val (.ref r), .val (.int (1 : Int32))] []
  refine Own.goto (pc' := 9) d_jdk_43_method_13_29 (by decide) (by decide) ?_
  refine Own.iloadN (pc' := 10) d_jdk_43_method_13_9 rfl rfl ?_
  refine Own.aloadN (pc' := 11) d_jdk_43_method_13_10 rfl rfl rfl ?_
  refine Own.lenB (pc' := 12) d_jdk_43_method_13_11 rfl Ap fun v54 hv54 => ?_
  obtain rfl : v54 = (7 : Int32) := Int32.toInt_inj.mp (hv54.trans (by decide))
  refine Own.icmp_ge (pc' := 32) (pc2 := 15) d_jdk_43_method_13_12 (by decide) (by decide) rfl (fun q => absurd q (by decide)) (fun _ => ?_)
  refine Own.aloadN (pc' := 16) d_jdk_43_method_13_15 rfl rfl rfl ?_
  refine Own.iloadN (pc' := 17) d_jdk_43_method_13_16 rfl rfl ?_
  refine Own.baload (pc' := 18) (i := 1) d_jdk_43_method_13_17 rfl Ap (by decide) (by decide) ?_
  show Go K _ _ _ _ _ _ _ _ _ 0 0 h 18 #[.val (.ref p), .val (.ref r), .val (.int (1 : Int32))] [(.int (101 : Int32))]
  refine Own.aloadN (pc' := 19) d_jdk_43_method_13_18 rfl rfl rfl ?_
  refine Own.iloadN (pc' := 20) d_jdk_43_method_13_19 rfl rfl ?_
  refine Own.baload (pc' := 21) (i := 1) d_jdk_43_method_13_20 rfl Ar (by decide) (by decide) ?_
  show Go K _ _ _ _ _ _ _ _ _ 0 0 h 21 #[.val (.ref p), .val (.ref r), .val (.int (1 : Int32))] [(.int (101 : Int32)), (.int (101 : Int32))]
  refine Own.icmp_eq (pc' := 26) (pc2 := 24) d_jdk_43_method_13_21 (by decide) (by decide) rfl (fun _ => ?_) (fun q => absurd (by decide) q)
  refine Own.iincE (pc' := 29) (L1 := fun zz => #[.val (.ref p), .val (.ref r), .val (.int zz)]) d_jdk_43_method_13_26 rfl (fun _ => rfl) rfl (z := (2 : Int32)) (by decide) ?_
  show Go K _ _ _ _ _ _ _ _ _ 0 0 h 29 #[.val (.ref p), .val (.ref r), .val (.int (2 : Int32))] []
  refine Own.goto (pc' := 9) d_jdk_43_method_13_29 (by decide) (by decide) ?_
  refine Own.iloadN (pc' := 10) d_jdk_43_method_13_9 rfl rfl ?_
  refine Own.aloadN (pc' := 11) d_jdk_43_method_13_10 rfl rfl rfl ?_
  refine Own.lenB (pc' := 12) d_jdk_43_method_13_11 rfl Ap fun v58 hv58 => ?_
  obtain rfl : v58 = (7 : Int32) := Int32.toInt_inj.mp (hv58.trans (by decide))
  refine Own.icmp_ge (pc' := 32) (pc2 := 15) d_jdk_43_method_13_12 (by decide) (by decide) rfl (fun q => absurd q (by decide)) (fun _ => ?_)
  refine Own.aloadN (pc' := 16) d_jdk_43_method_13_15 rfl rfl rfl ?_
  refine Own.iloadN (pc' := 17) d_jdk_43_method_13_16 rfl rfl ?_
  refine Own.baload (pc' := 18) (i := 2) d_jdk_43_method_13_17 rfl Ap (by decide) (by decide) ?_
  show Go K _ _ _ _ _ _ _ _ _ 0 0 h 18 #[.val (.ref p), .val (.ref r), .val (.int (2 : Int32))] [(.int (115 : Int32))]
  refine Own.aloadN (pc' := 19) d_jdk_43_method_13_18 rfl rfl rfl ?_
  refine Own.iloadN (pc' := 20) d_jdk_43_method_13_19 rfl rfl ?_
  refine Own.baload (pc' := 21) (i := 2) d_jdk_43_method_13_20 rfl Ar (by decide) (by decide) ?_
  show Go K _ _ _ _ _ _ _ _ _ 0 0 h 21 #[.val (.ref p), .val (.ref r), .val (.int (2 : Int32))] [(.int (115 : Int32)), (.int (115 : Int32))]
  refine Own.icmp_eq (pc' := 26) (pc2 := 24) d_jdk_43_method_13_21 (by decide) (by decide) rfl (fun _ => ?_) (fun q => absurd (by decide) q)
  refine Own.iincE (pc' := 29) (L1 := fun zz => #[.val (.ref p), .val (.ref r), .val (.int zz)]) d_jdk_43_method_13_26 rfl (fun _ => rfl) rfl (z := (3 : Int32)) (by decide) ?_
  show Go K _ _ _ _ _ _ _ _ _ 0 0 h 29 #[.val (.ref p), .val (.ref r), .val (.int (3 : Int32))] []
  refine Own.goto (pc' := 9) d_jdk_43_method_13_29 (by decide) (by decide) ?_
  refine Own.iloadN (pc' := 10) d_jdk_43_method_13_9 rfl rfl ?_
  refine Own.aloadN (pc' := 11) d_jdk_43_method_13_10 rfl rfl rfl ?_
  refine Own.lenB (pc' := 12) d_jdk_43_method_13_11 rfl Ap fun v62 hv62 => ?_
  obtain rfl : v62 = (7 : Int32) := Int32.toInt_inj.mp (hv62.trans (by decide))
  refine Own.icmp_ge (pc' := 32) (pc2 := 15) d_jdk_43_method_13_12 (by decide) (by decide) rfl (fun q => absurd q (by decide)) (fun _ => ?_)
  refine Own.aloadN (pc' := 16) d_jdk_43_method_13_15 rfl rfl rfl ?_
  refine Own.iloadN (pc' := 17) d_jdk_43_method_13_16 rfl rfl ?_
  refine Own.baload (pc' := 18) (i := 3) d_jdk_43_method_13_17 rfl Ap (by decide) (by decide) ?_
  show Go K _ _ _ _ _ _ _ _ _ 0 0 h 18 #[.val (.ref p), .val (.ref r), .val (.int (3 : Int32))] [(.int (115 : Int32))]
  refine Own.aloadN (pc' := 19) d_jdk_43_method_13_18 rfl rfl rfl ?_
  refine Own.iloadN (pc' := 20) d_jdk_43_method_13_19 rfl rfl ?_
  refine Own.baload (pc' := 21) (i := 3) d_jdk_43_method_13_20 rfl Ar (by decide) (by decide) ?_
  show Go K _ _ _ _ _ _ _ _ _ 0 0 h 21 #[.val (.ref p), .val (.ref r), .val (.int (3 : Int32))] [(.int (115 : Int32)), (.int (115 : Int32))]
  refine Own.icmp_eq (pc' := 26) (pc2 := 24) d_jdk_43_method_13_21 (by decide) (by decide) rfl (fun _ => ?_) (fun q => absurd (by decide) q)
  refine Own.iincE (pc' := 29) (L1 := fun zz => #[.val (.ref p), .val (.ref r), .val (.int zz)]) d_jdk_43_method_13_26 rfl (fun _ => rfl) rfl (z := (4 : Int32)) (by decide) ?_
  show Go K _ _ _ _ _ _ _ _ _ 0 0 h 29 #[.val (.ref p), .val (.ref r), .val (.int (4 : Int32))] []
  refine Own.goto (pc' := 9) d_jdk_43_method_13_29 (by decide) (by decide) ?_
  refine Own.iloadN (pc' := 10) d_jdk_43_method_13_9 rfl rfl ?_
  refine Own.aloadN (pc' := 11) d_jdk_43_method_13_10 rfl rfl rfl ?_
  refine Own.lenB (pc' := 12) d_jdk_43_method_13_11 rfl Ap fun v66 hv66 => ?_
  obtain rfl : v66 = (7 : Int32) := Int32.toInt_inj.mp (hv66.trans (by decide))
  refine Own.icmp_ge (pc' := 32) (pc2 := 15) d_jdk_43_method_13_12 (by decide) (by decide) rfl (fun q => absurd q (by decide)) (fun _ => ?_)
  refine Own.aloadN (pc' := 16) d_jdk_43_method_13_15 rfl rfl rfl ?_
  refine Own.iloadN (pc' := 17) d_jdk_43_method_13_16 rfl rfl ?_
  refine Own.baload (pc' := 18) (i := 4) d_jdk_43_method_13_17 rfl Ap (by decide) (by decide) ?_
  show Go K _ _ _ _ _ _ _ _ _ 0 0 h 18 #[.val (.ref p), .val (.ref r), .val (.int (4 : Int32))] [(.int (105 : Int32))]
  refine Own.aloadN (pc' := 19) d_jdk_43_method_13_18 rfl rfl rfl ?_
  refine Own.iloadN (pc' := 20) d_jdk_43_method_13_19 rfl rfl ?_
  refine Own.baload (pc' := 21) (i := 4) d_jdk_43_method_13_20 rfl Ar (by decide) (by decide) ?_
  show Go K _ _ _ _ _ _ _ _ _ 0 0 h 21 #[.val (.ref p), .val (.ref r), .val (.int (4 : Int32))] [(.int (105 : Int32)), (.int (105 : Int32))]
  refine Own.icmp_eq (pc' := 26) (pc2 := 24) d_jdk_43_method_13_21 (by decide) (by decide) rfl (fun _ => ?_) (fun q => absurd (by decide) q)
  refine Own.iincE (pc' := 29) (L1 := fun zz => #[.val (.ref p), .val (.ref r), .val (.int zz)]) d_jdk_43_method_13_26 rfl (fun _ => rfl) rfl (z := (5 : Int32)) (by decide) ?_
  show Go K _ _ _ _ _ _ _ _ _ 0 0 h 29 #[.val (.ref p), .val (.ref r), .val (.int (5 : Int32))] []
  refine Own.goto (pc' := 9) d_jdk_43_method_13_29 (by decide) (by decide) ?_
  refine Own.iloadN (pc' := 10) d_jdk_43_method_13_9 rfl rfl ?_
  refine Own.aloadN (pc' := 11) d_jdk_43_method_13_10 rfl rfl rfl ?_
  refine Own.lenB (pc' := 12) d_jdk_43_method_13_11 rfl Ap fun v70 hv70 => ?_
  obtain rfl : v70 = (7 : Int32) := Int32.toInt_inj.mp (hv70.trans (by decide))
  refine Own.icmp_ge (pc' := 32) (pc2 := 15) d_jdk_43_method_13_12 (by decide) (by decide) rfl (fun q => absurd q (by decide)) (fun _ => ?_)
  refine Own.aloadN (pc' := 16) d_jdk_43_method_13_15 rfl rfl rfl ?_
  refine Own.iloadN (pc' := 17) d_jdk_43_method_13_16 rfl rfl ?_
  refine Own.baload (pc' := 18) (i := 5) d_jdk_43_method_13_17 rfl Ap (by decide) (by decide) ?_
  show Go K _ _ _ _ _ _ _ _ _ 0 0 h 18 #[.val (.ref p), .val (.ref r), .val (.int (5 : Int32))] [(.int (111 : Int32))]
  refine Own.aloadN (pc' := 19) d_jdk_43_method_13_18 rfl rfl rfl ?_
  refine Own.iloadN (pc' := 20) d_jdk_43_method_13_19 rfl rfl ?_
  refine Own.baload (pc' := 21) (i := 5) d_jdk_43_method_13_20 rfl Ar (by decide) (by decide) ?_
  show Go K _ _ _ _ _ _ _ _ _ 0 0 h 21 #[.val (.ref p), .val (.ref r), .val (.int (5 : Int32))] [(.int (111 : Int32)), (.int (111 : Int32))]
  refine Own.icmp_eq (pc' := 26) (pc2 := 24) d_jdk_43_method_13_21 (by decide) (by decide) rfl (fun _ => ?_) (fun q => absurd (by decide) q)
  refine Own.iincE (pc' := 29) (L1 := fun zz => #[.val (.ref p), .val (.ref r), .val (.int zz)]) d_jdk_43_method_13_26 rfl (fun _ => rfl) rfl (z := (6 : Int32)) (by decide) ?_
  show Go K _ _ _ _ _ _ _ _ _ 0 0 h 29 #[.val (.ref p), .val (.ref r), .val (.int (6 : Int32))] []
  refine Own.goto (pc' := 9) d_jdk_43_method_13_29 (by decide) (by decide) ?_
  refine Own.iloadN (pc' := 10) d_jdk_43_method_13_9 rfl rfl ?_
  refine Own.aloadN (pc' := 11) d_jdk_43_method_13_10 rfl rfl rfl ?_
  refine Own.lenB (pc' := 12) d_jdk_43_method_13_11 rfl Ap fun v74 hv74 => ?_
  obtain rfl : v74 = (7 : Int32) := Int32.toInt_inj.mp (hv74.trans (by decide))
  refine Own.icmp_ge (pc' := 32) (pc2 := 15) d_jdk_43_method_13_12 (by decide) (by decide) rfl (fun q => absurd q (by decide)) (fun _ => ?_)
  refine Own.aloadN (pc' := 16) d_jdk_43_method_13_15 rfl rfl rfl ?_
  refine Own.iloadN (pc' := 17) d_jdk_43_method_13_16 rfl rfl ?_
  refine Own.baload (pc' := 18) (i := 6) d_jdk_43_method_13_17 rfl Ap (by decide) (by decide) ?_
  show Go K _ _ _ _ _ _ _ _ _ 0 0 h 18 #[.val (.ref p), .val (.ref r), .val (.int (6 : Int32))] [(.int (110 : Int32))]
  refine Own.aloadN (pc' := 19) d_jdk_43_method_13_18 rfl rfl rfl ?_
  refine Own.iloadN (pc' := 20) d_jdk_43_method_13_19 rfl rfl ?_
  refine Own.baload (pc' := 21) (i := 6) d_jdk_43_method_13_20 rfl Ar (by decide) (by decide) ?_
  show Go K _ _ _ _ _ _ _ _ _ 0 0 h 21 #[.val (.ref p), .val (.ref r), .val (.int (6 : Int32))] [(.int (110 : Int32)), (.int (110 : Int32))]
  refine Own.icmp_eq (pc' := 26) (pc2 := 24) d_jdk_43_method_13_21 (by decide) (by decide) rfl (fun _ => ?_) (fun q => absurd (by decide) q)
  refine Own.iincE (pc' := 29) (L1 := fun zz => #[.val (.ref p), .val (.ref r), .val (.int zz)]) d_jdk_43_method_13_26 rfl (fun _ => rfl) rfl (z := (7 : Int32)) (by decide) ?_
  show Go K _ _ _ _ _ _ _ _ _ 0 0 h 29 #[.val (.ref p), .val (.ref r), .val (.int (7 : Int32))] []
  refine Own.goto (pc' := 9) d_jdk_43_method_13_29 (by decide) (by decide) ?_
  refine Own.iloadN (pc' := 10) d_jdk_43_method_13_9 rfl rfl ?_
  refine Own.aloadN (pc' := 11) d_jdk_43_method_13_10 rfl rfl rfl ?_
  refine Own.lenB (pc' := 12) d_jdk_43_method_13_11 rfl Ap fun v78 hv78 => ?_
  obtain rfl : v78 = (7 : Int32) := Int32.toInt_inj.mp (hv78.trans (by decide))
  refine Own.icmp_ge (pc' := 32) (pc2 := 15) d_jdk_43_method_13_12 (by decide) (by decide) rfl (fun _ => ?_) (fun q => absurd (by decide) q)
  refine Own.iconst (pc' := 33) (v := (1 : Int32)) d_jdk_43_method_13_32 (by decide) rfl ?_
  exact Own.ireturnZ (z' := (1 : Int32)) d_jdk_43_method_13_33 rfl (by decide) (⟨rfl, rfl⟩) (by decide) (by decide)
set_option maxRecDepth 65536 in
set_option maxHeartbeats 40000000 in
theorem c_eq_session (Z : State) (a0 : Array Value) (hw : ∀ d ∈ tables_1, d.before a0 Z = true) (n0 : Nat) (h : Heap) (hZ0 : n0 ≤ h.size) (o : Addr) (r : Addr) (p1 p2 : Addr) (cz : Int32) (hcz : cz ≠ 0) (SC : Sta Z h "java/lang/String" "COMPACT_STRINGS" "Z" (.int cz)) (Xo : Exa Z h o "java/lang/String") (Co : Fld Z h o "java/lang/String" "coder" "B" (.int 0)) (Vo : Fld Z h o "java/lang/String" "value" "[B" (.ref p1)) (Ap1 : AB Z h p1 7 (ownL [115, 101, 115, 115, 105, 111, 110])) (Xr : Exa Z h r "java/lang/String") (Cr : Fld Z h r "java/lang/String" "coder" "B" (.int 0)) (Vr : Fld Z h r "java/lang/String" "value" "[B" (.ref p2)) (Ap2 : AB Z h p2 7 (ownL [115, 101, 115, 115, 105, 111, 110])) :
    Con Z n0 (⟨"java/lang/String", "equals", "(Ljava/lang/Object;)Z"⟩ : MethodName) jdk_42_method_66_code 3 (some .boolean) ({ frames := 1, cells := 0, slots := 0, locals := 14 } : Room) [(.ref o), (.ref r)] h (fun v h' => v = some (.int 1) ∧ h = h') := by
  refine Own.enter (plainFor_of_name pn_3) (own_EW hw) (L0 := #[.val (.ref o), .val (.ref r), .unset]) (fun m => by first | (simp [entryFrame, mkF, argsToLocals, Value.category]; done) | rfl) fun K => ?_
  show Go K _ _ _ _ _ _ "java/lang/String" "equals" _ 0 0 h 0 #[.val (.ref o), .val (.ref r), .unset] []
  refine Own.aloadN (pc' := 1) d_jdk_42_method_66_0 rfl rfl rfl ?_
  refine Own.aloadN (pc' := 2) d_jdk_42_method_66_1 rfl rfl rfl ?_
  refine Own.acmp2 (pcs := 5) (pcd := 7) d_jdk_42_method_66_2 rfl rfl (by decide) (by decide) (by decide) (fun c2_79 => ?_) (fun c2_79 => ?_)
  · refine Own.iconst (pc' := 6) (v := (1 : Int32)) d_jdk_42_method_66_5 (by decide) rfl ?_
    exact Own.ireturnZ (z' := (1 : Int32)) d_jdk_42_method_66_6 rfl (by decide) (⟨rfl, rfl⟩) (by decide) (by decide)
  · refine Own.aloadN (pc' := 8) d_jdk_42_method_66_7 rfl rfl rfl ?_
    refine Own.instof (pc' := 11) d_jdk_42_method_66_8 rfl (hw _ (List.mem_of_getElem? (i := 32) rfl)) (Ins.self Xr) ?_
    refine Own.if_eq (pc' := 54) (pc2 := 14) d_jdk_42_method_66_11 (by decide) (by decide) rfl (fun q => absurd q (by decide)) (fun _ => ?_)
    refine Own.aloadN (pc' := 15) d_jdk_42_method_66_14 rfl rfl rfl ?_
    refine Own.chcast (pc' := 18) d_jdk_42_method_66_15 rfl (hw _ (List.mem_of_getElem? (i := 32) rfl)) (Ins.self Xr) ?_
    refine Own.astoreN (pc' := 19) (L1 := #[.val (.ref o), .val (.ref r), .val (.ref r)]) d_jdk_42_method_66_18 rfl rfl rfl ?_
    refine Own.getstatic (pc' := 22) d_jdk_42_method_66_19 rfl (hw _ (List.mem_of_getElem? (i := 34) rfl)) Via.refl SC ?_
    refine Own.if_eq (pc' := 36) (pc2 := 25) d_jdk_42_method_66_22 (by decide) (by decide) rfl (fun c22_81 => False.elim (by exact hcz c22_81)) (fun c22_81 => ?_)
    refine Own.aloadN (pc' := 26) d_jdk_42_method_66_25 rfl rfl rfl ?_
    refine Own.getfield (pc' := 29) d_jdk_42_method_66_26 rfl (host := "") (Or.inl (hw _ (List.mem_of_getElem? (i := 35) rfl))) Via.refl Co ?_
    refine Own.aloadN (pc' := 30) d_jdk_42_method_66_29 rfl rfl rfl ?_
    refine Own.getfield (pc' := 33) d_jdk_42_method_66_30 rfl (host := "") (Or.inl (hw _ (List.mem_of_getElem? (i := 35) rfl))) Via.refl Cr ?_
    refine Own.icmp_ne (pc' := 54) (pc2 := 36) d_jdk_42_method_66_33 (by decide) (by decide) rfl (fun q => absurd q (by decide)) (fun _ => ?_)
    refine Own.aloadN (pc' := 37) d_jdk_42_method_66_36 rfl rfl rfl ?_
    refine Own.getfield (pc' := 40) d_jdk_42_method_66_37 rfl (host := "") (Or.inl (hw _ (List.mem_of_getElem? (i := 36) rfl))) Via.refl Vo ?_
    refine Own.aloadN (pc' := 41) d_jdk_42_method_66_40 rfl rfl rfl ?_
    refine Own.getfield (pc' := 44) d_jdk_42_method_66_41 rfl (host := "") (Or.inl (hw _ (List.mem_of_getElem? (i := 36) rfl))) Via.refl Vr ?_
    refine Own.static (pc' := 47) (y := (⟨"java/lang/StringLatin1", "equals", "([B[B)Z"⟩ : MethodName)) (rm' := ({ frames := 0, cells := 0, slots := 0, locals := 0 } : Room)) (W := 0) (as := [(.ref p1), (.ref p2)]) (rest := []) d_jdk_42_method_66_44 rfl (hw _ (List.mem_of_getElem? (i := 37) rfl)) (hw _ (List.mem_of_getElem? (i := 38) rfl)) (hw _ (List.mem_of_getElem? (i := 39) rfl)) (hw _ (List.mem_of_getElem? (i := 40) rfl)) (by decide) (c_seq_session Z a0 hw n0 h hZ0 p1 p2 Ap1 Ap2) rfl rfl (lenOf pd_1 rfl) (by decide) rfl (by decide) (by decide) (by decide) fun r85 h84 qh84 => ?_
    obtain ⟨e2, e1⟩ := qh84
    subst e1 e2
    show Go K _ _ _ _ _ _ _ _ _ 0 0 h 47 #[.val (.ref o), .val (.ref r), .val (.ref r)] [(.int (1 : Int32))]
    refine Own.if_eq (pc' := 54) (pc2 := 50) d_jdk_42_method_66_47 (by decide) (by decide) rfl (fun q => absurd q (by decide)) (fun _ => ?_)
    refine Own.iconst (pc' := 51) (v := (1 : Int32)) d_jdk_42_method_66_50 (by decide) rfl ?_
    refine Own.goto (pc' := 55) d_jdk_42_method_66_51 (by decide) (by decide) ?_
    exact Own.ireturnZ (z' := (1 : Int32)) d_jdk_42_method_66_55 rfl (by decide) (⟨rfl, rfl⟩) (by decide) (by decide)
set_option maxRecDepth 65536 in
set_option maxHeartbeats 40000000 in
theorem c_seq_oneshot (Z : State) (a0 : Array Value) (hw : ∀ d ∈ tables_1, d.before a0 Z = true) (n0 : Nat) (h : Heap) (hZ0 : n0 ≤ h.size) (p : Addr) (r : Addr) (Ap : AB Z h p 7 (ownL [111, 110, 101, 115, 104, 111, 116])) (Ar : AB Z h r 7 (ownL [111, 110, 101, 115, 104, 111, 116])) :
    Con Z n0 (⟨"java/lang/StringLatin1", "equals", "([B[B)Z"⟩ : MethodName) jdk_43_method_13_code 3 (some .boolean) ({ frames := 0, cells := 0, slots := 0, locals := 0 } : Room) [(.ref p), (.ref r)] h (fun v h' => v = some (.int 1) ∧ h = h') := by
  refine Own.enter (plainFor_of_name pn_2) (own_EW hw) (L0 := #[.val (.ref p), .val (.ref r), .unset]) (fun m => by first | (simp [entryFrame, mkF, argsToLocals, Value.category]; done) | rfl) fun K => ?_
  show Go K _ _ _ _ _ _ "java/lang/StringLatin1" "equals" _ 0 0 h 0 #[.val (.ref p), .val (.ref r), .unset] []
  refine Own.aloadN (pc' := 1) d_jdk_43_method_13_0 rfl rfl rfl ?_
  refine Own.lenB (pc' := 2) d_jdk_43_method_13_1 rfl Ap fun v87 hv87 => ?_
  obtain rfl : v87 = (7 : Int32) := Int32.toInt_inj.mp (hv87.trans (by decide))
  refine Own.aloadN (pc' := 3) d_jdk_43_method_13_2 rfl rfl rfl ?_
  refine Own.lenB (pc' := 4) d_jdk_43_method_13_3 rfl Ar fun v88 hv88 => ?_
  obtain rfl : v88 = (7 : Int32) := Int32.toInt_inj.mp (hv88.trans (by decide))
  refine Own.icmp_ne (pc' := 34) (pc2 := 7) d_jdk_43_method_13_4 (by decide) (by decide) rfl (fun q => absurd q (by decide)) (fun _ => ?_)
  refine Own.iconst (pc' := 8) (v := (0 : Int32)) d_jdk_43_method_13_7 (by decide) rfl ?_
  refine Own.istoreN (pc' := 9) (L1 := #[.val (.ref p), .val (.ref r), .val (.int (0 : Int32))]) d_jdk_43_method_13_8 rfl rfl ?_
  refine Own.iloadN (pc' := 10) d_jdk_43_method_13_9 rfl rfl ?_
  refine Own.aloadN (pc' := 11) d_jdk_43_method_13_10 rfl rfl rfl ?_
  refine Own.lenB (pc' := 12) d_jdk_43_method_13_11 rfl Ap fun v90 hv90 => ?_
  obtain rfl : v90 = (7 : Int32) := Int32.toInt_inj.mp (hv90.trans (by decide))
  refine Own.icmp_ge (pc' := 32) (pc2 := 15) d_jdk_43_method_13_12 (by decide) (by decide) rfl (fun q => absurd q (by decide)) (fun _ => ?_)
  refine Own.aloadN (pc' := 16) d_jdk_43_method_13_15 rfl rfl rfl ?_
  refine Own.iloadN (pc' := 17) d_jdk_43_method_13_16 rfl rfl ?_
  refine Own.baload (pc' := 18) (i := 0) d_jdk_43_method_13_17 rfl Ap (by decide) (by decide) ?_
  show Go K _ _ _ _ _ _ _ _ _ 0 0 h 18 #[.val (.ref p), .val (.ref r), .val (.int (0 : Int32))] [(.int (111 : Int32))]
  refine Own.aloadN (pc' := 19) d_jdk_43_method_13_18 rfl rfl rfl ?_
  refine Own.iloadN (pc' := 20) d_jdk_43_method_13_19 rfl rfl ?_
  refine Own.baload (pc' := 21) (i := 0) d_jdk_43_method_13_20 rfl Ar (by decide) (by decide) ?_
  show Go K _ _ _ _ _ _ _ _ _ 0 0 h 21 #[.val (.ref p), .val (.ref r), .val (.int (0 : Int32))] [(.int (111 : Int32)), (.int (111 : Int32))]
  refine Own.icmp_eq (pc' := 26) (pc2 := 24) d_jdk_43_method_13_21 (by decide) (by decide) rfl (fun _ => ?_) (fun q => absurd (by decide) q)
  refine Own.iincE (pc' := 29) (L1 := fun zz => #[.val (.ref p), .val (.ref r), .val (.int zz)]) d_jdk_43_method_13_26 rfl (fun _ => rfl) rfl (z := (1 : Int32)) (by decide) ?_
  show Go K _ _ _ _ _ _ _ _ _ 0 0 h 29 #[.val (.ref p), .val (.ref r), .val (.int (1 : Int32))] []
  refine Own.goto (pc' := 9) d_jdk_43_method_13_29 (by decide) (by decide) ?_
  refine Own.iloadN (pc' := 10) d_jdk_43_method_13_9 rfl rfl ?_
  refine Own.aloadN (pc' := 11) d_jdk_43_method_13_10 rfl rfl rfl ?_
  refine Own.lenB (pc' := 12) d_jdk_43_method_13_11 rfl Ap fun v94 hv94 => ?_
  obtain rfl : v94 = (7 : Int32) := Int32.toInt_inj.mp (hv94.trans (by decide))
  refine Own.icmp_ge (pc' := 32) (pc2 := 15) d_jdk_43_method_13_12 (by decide) (by decide) rfl (fun q => absurd q (by decide)) (fun _ => ?_)
  refine Own.aloadN (pc' := 16) d_jdk_43_method_13_15 rfl rfl rfl ?_
  refine Own.iloadN (pc' := 17) d_jdk_43_method_13_16 rfl rfl ?_
  refine Own.baload (pc' := 18) (i := 1) d_jdk_43_method_13_17 rfl Ap (by decide) (by decide) ?_
  show Go K _ _ _ _ _ _ _ _ _ 0 0 h 18 #[.val (.ref p), .val (.ref r), .val (.int (1 : Int32))] [(.int (110 : Int32))]
  refine Own.aloadN (pc' := 19) d_jdk_43_method_13_18 rfl rfl rfl ?_
  refine Own.iloadN (pc' := 20) d_jdk_43_method_13_19 rfl rfl ?_
  refine Own.baload (pc' := 21) (i := 1) d_jdk_43_method_13_20 rfl Ar (by decide) (by decide) ?_
  show Go K _ _ _ _ _ _ _ _ _ 0 0 h 21 #[.val (.ref p), .val (.ref r), .val (.int (1 : Int32))] [(.int (110 : Int32)), (.int (110 : Int32))]
  refine Own.icmp_eq (pc' := 26) (pc2 := 24) d_jdk_43_method_13_21 (by decide) (by decide) rfl (fun _ => ?_) (fun q => absurd (by decide) q)
  refine Own.iincE (pc' := 29) (L1 := fun zz => #[.val (.ref p), .val (.ref r), .val (.int zz)]) d_jdk_43_method_13_26 rfl (fun _ => rfl) rfl (z := (2 : Int32)) (by decide) ?_
  show Go K _ _ _ _ _ _ _ _ _ 0 0 h 29 #[.val (.ref p), .val (.ref r), .val (.int (2 : Int32))] []
  refine Own.goto (pc' := 9) d_jdk_43_method_13_29 (by decide) (by decide) ?_
  refine Own.iloadN (pc' := 10) d_jdk_43_method_13_9 rfl rfl ?_
  refine Own.aloadN (pc' := 11) d_jdk_43_method_13_10 rfl rfl rfl ?_
  refine Own.lenB (pc' := 12) d_jdk_43_method_13_11 rfl Ap fun v98 hv98 => ?_
  obtain rfl : v98 = (7 : Int32) := Int32.toInt_inj.mp (hv98.trans (by decide))
  refine Own.icmp_ge (pc' := 32) (pc2 := 15) d_jdk_43_method_13_12 (by decide) (by decide) rfl (fun q => absurd q (by decide)) (fun _ => ?_)
  refine Own.aloadN (pc' := 16) d_jdk_43_method_13_15 rfl rfl rfl ?_
  refine Own.iloadN (pc' := 17) d_jdk_43_method_13_16 rfl rfl ?_
  refine Own.baload (pc' := 18) (i := 2) d_jdk_43_method_13_17 rfl Ap (by decide) (by decide) ?_
  show Go K _ _ _ _ _ _ _ _ _ 0 0 h 18 #[.val (.ref p), .val (.ref r), .val (.int (2 : Int32))] [(.int (101 : Int32))]
  refine Own.aloadN (pc' := 19) d_jdk_43_method_13_18 rfl rfl rfl ?_
  refine Own.iloadN (pc' := 20) d_jdk_43_method_13_19 rfl rfl ?_
  refine Own.baload (pc' := 21) (i := 2) d_jdk_43_method_13_20 rfl Ar (by decide) (by decide) ?_
  show Go K _ _ _ _ _ _ _ _ _ 0 0 h 21 #[.val (.ref p), .val (.ref r), .val (.int (2 : Int32))] [(.int (101 : Int32)), (.int (101 : Int32))]
  refine Own.icmp_eq (pc' := 26) (pc2 := 24) d_jdk_43_method_13_21 (by decide) (by decide) rfl (fun _ => ?_) (fun q => absurd (by decide) q)
  refine Own.iincE (pc' := 29) (L1 := fun zz => #[.val (.ref p), .val (.ref r), .val (.int zz)]) d_jdk_43_method_13_26 rfl (fun _ => rfl) rfl (z := (3 : Int32)) (by decide) ?_
  show Go K _ _ _ _ _ _ _ _ _ 0 0 h 29 #[.val (.ref p), .val (.ref r), .val (.int (3 : Int32))] []
  refine Own.goto (pc' := 9) d_jdk_43_method_13_29 (by decide) (by decide) ?_
  refine Own.iloadN (pc' := 10) d_jdk_43_method_13_9 rfl rfl ?_
  refine Own.aloadN (pc' := 11) d_jdk_43_method_13_10 rfl rfl rfl ?_
  refine Own.lenB (pc' := 12) d_jdk_43_method_13_11 rfl Ap fun v102 hv102 => ?_
  obtain rfl : v102 = (7 : Int32) := Int32.toInt_inj.mp (hv102.trans (by decide))
  refine Own.icmp_ge (pc' := 32) (pc2 := 15) d_jdk_43_method_13_12 (by decide) (by decide) rfl (fun q => absurd q (by decide)) (fun _ => ?_)
  refine Own.aloadN (pc' := 16) d_jdk_43_method_13_15 rfl rfl rfl ?_
  refine Own.iloadN (pc' := 17) d_jdk_43_method_13_16 rfl rfl ?_
  refine Own.baload (pc' := 18) (i := 3) d_jdk_43_method_13_17 rfl Ap (by decide) (by decide) ?_
  show Go K _ _ _ _ _ _ _ _ _ 0 0 h 18 #[.val (.ref p), .val (.ref r), .val (.int (3 : Int32))] [(.int (115 : Int32))]
  refine Own.aloadN (pc' := 19) d_jdk_43_method_13_18 rfl rfl rfl ?_
  refine Own.iloadN (pc' := 20) d_jdk_43_method_13_19 rfl rfl ?_
  refine Own.baload (pc' := 21) (i := 3) d_jdk_43_method_13_20 rfl Ar (by decide) (by decide) ?_
  show Go K _ _ _ _ _ _ _ _ _ 0 0 h 21 #[.val (.ref p), .val (.ref r), .val (.int (3 : Int32))] [(.int (115 : Int32)), (.int (115 : Int32))]
  refine Own.icmp_eq (pc' := 26) (pc2 := 24) d_jdk_43_method_13_21 (by decide) (by decide) rfl (fun _ => ?_) (fun q => absurd (by decide) q)
  refine Own.iincE (pc' := 29) (L1 := fun zz => #[.val (.ref p), .val (.ref r), .val (.int zz)]) d_jdk_43_method_13_26 rfl (fun _ => rfl) rfl (z := (4 : Int32)) (by decide) ?_
  show Go K _ _ _ _ _ _ _ _ _ 0 0 h 29 #[.val (.ref p), .val (.ref r), .val (.int (4 : Int32))] []
  refine Own.goto (pc' := 9) d_jdk_43_method_13_29 (by decide) (by decide) ?_
  refine Own.iloadN (pc' := 10) d_jdk_43_method_13_9 rfl rfl ?_
  refine Own.aloadN (pc' := 11) d_jdk_43_method_13_10 rfl rfl rfl ?_
  refine Own.lenB (pc' := 12) d_jdk_43_method_13_11 rfl Ap fun v106 hv106 => ?_
  obtain rfl : v106 = (7 : Int32) := Int32.toInt_inj.mp (hv106.trans (by decide))
  refine Own.icmp_ge (pc' := 32) (pc2 := 15) d_jdk_43_method_13_12 (by decide) (by decide) rfl (fun q => absurd q (by decide)) (fun _ => ?_)
  refine Own.aloadN (pc' := 16) d_jdk_43_method_13_15 rfl rfl rfl ?_
  refine Own.iloadN (pc' := 17) d_jdk_43_method_13_16 rfl rfl ?_
  refine Own.baload (pc' := 18) (i := 4) d_jdk_43_method_13_17 rfl Ap (by decide) (by decide) ?_
  show Go K _ _ _ _ _ _ _ _ _ 0 0 h 18 #[.val (.ref p), .val (.ref r), .val (.int (4 : Int32))] [(.int (104 : Int32))]
  refine Own.aloadN (pc' := 19) d_jdk_43_method_13_18 rfl rfl rfl ?_
  refine Own.iloadN (pc' := 20) d_jdk_43_method_13_19 rfl rfl ?_
  refine Own.baload (pc' := 21) (i := 4) d_jdk_43_method_13_20 rfl Ar (by decide) (by decide) ?_
  show Go K _ _ _ _ _ _ _ _ _ 0 0 h 21 #[.val (.ref p), .val (.ref r), .val (.int (4 : Int32))] [(.int (104 : Int32)), (.int (104 : Int32))]
  refine Own.icmp_eq (pc' := 26) (pc2 := 24) d_jdk_43_method_13_21 (by decide) (by decide) rfl (fun _ => ?_) (fun q => absurd (by decide) q)
  refine Own.iincE (pc' := 29) (L1 := fun zz => #[.val (.ref p), .val (.ref r), .val (.int zz)]) d_jdk_43_method_13_26 rfl (fun _ => rfl) rfl (z := (5 : Int32)) (by decide) ?_
  show Go K _ _ _ _ _ _ _ _ _ 0 0 h 29 #[.val (.ref p), .val (.ref r), .val (.int (5 : Int32))] []
  refine Own.goto (pc' := 9) d_jdk_43_method_13_29 (by decide) (by decide) ?_
  refine Own.iloadN (pc' := 10) d_jdk_43_method_13_9 rfl rfl ?_
  refine Own.aloadN (pc' := 11) d_jdk_43_method_13_10 rfl rfl rfl ?_
  refine Own.lenB (pc' := 12) d_jdk_43_method_13_11 rfl Ap fun v110 hv110 => ?_
  obtain rfl : v110 = (7 : Int32) := Int32.toInt_inj.mp (hv110.trans (by decide))
  refine Own.icmp_ge (pc' := 32) (pc2 := 15) d_jdk_43_method_13_12 (by decide) (by decide) rfl (fun q => absurd q (by decide)) (fun _ => ?_)
  refine Own.aloadN (pc' := 16) d_jdk_43_method_13_15 rfl rfl rfl ?_
  refine Own.iloadN (pc' := 17) d_jdk_43_method_13_16 rfl rfl ?_
  refine Own.baload (pc' := 18) (i := 5) d_jdk_43_method_13_17 rfl Ap (by decide) (by decide) ?_
  show Go K _ _ _ _ _ _ _ _ _ 0 0 h 18 #[.val (.ref p), .val (.ref r), .val (.int (5 : Int32))] [(.int (111 : Int32))]
  refine Own.aloadN (pc' := 19) d_jdk_43_method_13_18 rfl rfl rfl ?_
  refine Own.iloadN (pc' := 20) d_jdk_43_method_13_19 rfl rfl ?_
  refine Own.baload (pc' := 21) (i := 5) d_jdk_43_method_13_20 rfl Ar (by decide) (by decide) ?_
  show Go K _ _ _ _ _ _ _ _ _ 0 0 h 21 #[.val (.ref p), .val (.ref r), .val (.int (5 : Int32))] [(.int (111 : Int32)), (.int (111 : Int32))]
  refine Own.icmp_eq (pc' := 26) (pc2 := 24) d_jdk_43_method_13_21 (by decide) (by decide) rfl (fun _ => ?_) (fun q => absurd (by decide) q)
  refine Own.iincE (pc' := 29) (L1 := fun zz => #[.val (.ref p), .val (.ref r), .val (.int zz)]) d_jdk_43_method_13_26 rfl (fun _ => rfl) rfl (z := (6 : Int32)) (by decide) ?_
  show Go K _ _ _ _ _ _ _ _ _ 0 0 h 29 #[.val (.ref p), .val (.ref r), .val (.int (6 : Int32))] []
  refine Own.goto (pc' := 9) d_jdk_43_method_13_29 (by decide) (by decide) ?_
  refine Own.iloadN (pc' := 10) d_jdk_43_method_13_9 rfl rfl ?_
  refine Own.aloadN (pc' := 11) d_jdk_43_method_13_10 rfl rfl rfl ?_
  refine Own.lenB (pc' := 12) d_jdk_43_method_13_11 rfl Ap fun v114 hv114 => ?_
  obtain rfl : v114 = (7 : Int32) := Int32.toInt_inj.mp (hv114.trans (by decide))
  refine Own.icmp_ge (pc' := 32) (pc2 := 15) d_jdk_43_method_13_12 (by decide) (by decide) rfl (fun q => absurd q (by decide)) (fun _ => ?_)
  refine Own.aloadN (pc' := 16) d_jdk_43_method_13_15 rfl rfl rfl ?_
  refine Own.iloadN (pc' := 17) d_jdk_43_method_13_16 rfl rfl ?_
  refine Own.baload (pc' := 18) (i := 6) d_jdk_43_method_13_17 rfl Ap (by decide) (by decide) ?_
  show Go K _ _ _ _ _ _ _ _ _ 0 0 h 18 #[.val (.ref p), .val (.ref r), .val (.int (6 : Int32))] [(.int (116 : Int32))]
  refine Own.aloadN (pc' := 19) d_jdk_43_method_13_18 rfl rfl rfl ?_
  refine Own.iloadN (pc' := 20) d_jdk_43_method_13_19 rfl rfl ?_
  refine Own.baload (pc' := 21) (i := 6) d_jdk_43_method_13_20 rfl Ar (by decide) (by decide) ?_
  show Go K _ _ _ _ _ _ _ _ _ 0 0 h 21 #[.val (.ref p), .val (.ref r), .val (.int (6 : Int32))] [(.int (116 : Int32)), (.int (116 : Int32))]
  refine Own.icmp_eq (pc' := 26) (pc2 := 24) d_jdk_43_method_13_21 (by decide) (by decide) rfl (fun _ => ?_) (fun q => absurd (by decide) q)
  refine Own.iincE (pc' := 29) (L1 := fun zz => #[.val (.ref p), .val (.ref r), .val (.int zz)]) d_jdk_43_method_13_26 rfl (fun _ => rfl) rfl (z := (7 : Int32)) (by decide) ?_
  show Go K _ _ _ _ _ _ _ _ _ 0 0 h 29 #[.val (.ref p), .val (.ref r), .val (.int (7 : Int32))] []
  refine Own.goto (pc' := 9) d_jdk_43_method_13_29 (by decide) (by decide) ?_
  refine Own.iloadN (pc' := 10) d_jdk_43_method_13_9 rfl rfl ?_
  refine Own.aloadN (pc' := 11) d_jdk_43_method_13_10 rfl rfl rfl ?_
  refine Own.lenB (pc' := 12) d_jdk_43_method_13_11 rfl Ap fun v118 hv118 => ?_
  obtain rfl : v118 = (7 : Int32) := Int32.toInt_inj.mp (hv118.trans (by decide))
  refine Own.icmp_ge (pc' := 32) (pc2 := 15) d_jdk_43_method_13_12 (by decide) (by decide) rfl (fun _ => ?_) (fun q => absurd (by decide) q)
  refine Own.iconst (pc' := 33) (v := (1 : Int32)) d_jdk_43_method_13_32 (by decide) rfl ?_
  exact Own.ireturnZ (z' := (1 : Int32)) d_jdk_43_method_13_33 rfl (by decide) (⟨rfl, rfl⟩) (by decide) (by decide)
set_option maxRecDepth 65536 in
set_option maxHeartbeats 40000000 in
theorem c_eq_oneshot (Z : State) (a0 : Array Value) (hw : ∀ d ∈ tables_1, d.before a0 Z = true) (n0 : Nat) (h : Heap) (hZ0 : n0 ≤ h.size) (o : Addr) (r : Addr) (p1 p2 : Addr) (cz : Int32) (hcz : cz ≠ 0) (SC : Sta Z h "java/lang/String" "COMPACT_STRINGS" "Z" (.int cz)) (Xo : Exa Z h o "java/lang/String") (Co : Fld Z h o "java/lang/String" "coder" "B" (.int 0)) (Vo : Fld Z h o "java/lang/String" "value" "[B" (.ref p1)) (Ap1 : AB Z h p1 7 (ownL [111, 110, 101, 115, 104, 111, 116])) (Xr : Exa Z h r "java/lang/String") (Cr : Fld Z h r "java/lang/String" "coder" "B" (.int 0)) (Vr : Fld Z h r "java/lang/String" "value" "[B" (.ref p2)) (Ap2 : AB Z h p2 7 (ownL [111, 110, 101, 115, 104, 111, 116])) :
    Con Z n0 (⟨"java/lang/String", "equals", "(Ljava/lang/Object;)Z"⟩ : MethodName) jdk_42_method_66_code 3 (some .boolean) ({ frames := 1, cells := 0, slots := 0, locals := 14 } : Room) [(.ref o), (.ref r)] h (fun v h' => v = some (.int 1) ∧ h = h') := by
  refine Own.enter (plainFor_of_name pn_3) (own_EW hw) (L0 := #[.val (.ref o), .val (.ref r), .unset]) (fun m => by first | (simp [entryFrame, mkF, argsToLocals, Value.category]; done) | rfl) fun K => ?_
  show Go K _ _ _ _ _ _ "java/lang/String" "equals" _ 0 0 h 0 #[.val (.ref o), .val (.ref r), .unset] []
  refine Own.aloadN (pc' := 1) d_jdk_42_method_66_0 rfl rfl rfl ?_
  refine Own.aloadN (pc' := 2) d_jdk_42_method_66_1 rfl rfl rfl ?_
  refine Own.acmp2 (pcs := 5) (pcd := 7) d_jdk_42_method_66_2 rfl rfl (by decide) (by decide) (by decide) (fun c2_119 => ?_) (fun c2_119 => ?_)
  · refine Own.iconst (pc' := 6) (v := (1 : Int32)) d_jdk_42_method_66_5 (by decide) rfl ?_
    exact Own.ireturnZ (z' := (1 : Int32)) d_jdk_42_method_66_6 rfl (by decide) (⟨rfl, rfl⟩) (by decide) (by decide)
  · refine Own.aloadN (pc' := 8) d_jdk_42_method_66_7 rfl rfl rfl ?_
    refine Own.instof (pc' := 11) d_jdk_42_method_66_8 rfl (hw _ (List.mem_of_getElem? (i := 32) rfl)) (Ins.self Xr) ?_
    refine Own.if_eq (pc' := 54) (pc2 := 14) d_jdk_42_method_66_11 (by decide) (by decide) rfl (fun q => absurd q (by decide)) (fun _ => ?_)
    refine Own.aloadN (pc' := 15) d_jdk_42_method_66_14 rfl rfl rfl ?_
    refine Own.chcast (pc' := 18) d_jdk_42_method_66_15 rfl (hw _ (List.mem_of_getElem? (i := 32) rfl)) (Ins.self Xr) ?_
    refine Own.astoreN (pc' := 19) (L1 := #[.val (.ref o), .val (.ref r), .val (.ref r)]) d_jdk_42_method_66_18 rfl rfl rfl ?_
    refine Own.getstatic (pc' := 22) d_jdk_42_method_66_19 rfl (hw _ (List.mem_of_getElem? (i := 34) rfl)) Via.refl SC ?_
    refine Own.if_eq (pc' := 36) (pc2 := 25) d_jdk_42_method_66_22 (by decide) (by decide) rfl (fun c22_121 => False.elim (by exact hcz c22_121)) (fun c22_121 => ?_)
    refine Own.aloadN (pc' := 26) d_jdk_42_method_66_25 rfl rfl rfl ?_
    refine Own.getfield (pc' := 29) d_jdk_42_method_66_26 rfl (host := "") (Or.inl (hw _ (List.mem_of_getElem? (i := 35) rfl))) Via.refl Co ?_
    refine Own.aloadN (pc' := 30) d_jdk_42_method_66_29 rfl rfl rfl ?_
    refine Own.getfield (pc' := 33) d_jdk_42_method_66_30 rfl (host := "") (Or.inl (hw _ (List.mem_of_getElem? (i := 35) rfl))) Via.refl Cr ?_
    refine Own.icmp_ne (pc' := 54) (pc2 := 36) d_jdk_42_method_66_33 (by decide) (by decide) rfl (fun q => absurd q (by decide)) (fun _ => ?_)
    refine Own.aloadN (pc' := 37) d_jdk_42_method_66_36 rfl rfl rfl ?_
    refine Own.getfield (pc' := 40) d_jdk_42_method_66_37 rfl (host := "") (Or.inl (hw _ (List.mem_of_getElem? (i := 36) rfl))) Via.refl Vo ?_
    refine Own.aloadN (pc' := 41) d_jdk_42_method_66_40 rfl rfl rfl ?_
    refine Own.getfield (pc' := 44) d_jdk_42_method_66_41 rfl (host := "") (Or.inl (hw _ (List.mem_of_getElem? (i := 36) rfl))) Via.refl Vr ?_
    refine Own.static (pc' := 47) (y := (⟨"java/lang/StringLatin1", "equals", "([B[B)Z"⟩ : MethodName)) (rm' := ({ frames := 0, cells := 0, slots := 0, locals := 0 } : Room)) (W := 0) (as := [(.ref p1), (.ref p2)]) (rest := []) d_jdk_42_method_66_44 rfl (hw _ (List.mem_of_getElem? (i := 37) rfl)) (hw _ (List.mem_of_getElem? (i := 38) rfl)) (hw _ (List.mem_of_getElem? (i := 39) rfl)) (hw _ (List.mem_of_getElem? (i := 40) rfl)) (by decide) (c_seq_oneshot Z a0 hw n0 h hZ0 p1 p2 Ap1 Ap2) rfl rfl (lenOf pd_1 rfl) (by decide) rfl (by decide) (by decide) (by decide) fun r125 h124 qh124 => ?_
    obtain ⟨e2, e1⟩ := qh124
    subst e1 e2
    show Go K _ _ _ _ _ _ _ _ _ 0 0 h 47 #[.val (.ref o), .val (.ref r), .val (.ref r)] [(.int (1 : Int32))]
    refine Own.if_eq (pc' := 54) (pc2 := 50) d_jdk_42_method_66_47 (by decide) (by decide) rfl (fun q => absurd q (by decide)) (fun _ => ?_)
    refine Own.iconst (pc' := 51) (v := (1 : Int32)) d_jdk_42_method_66_50 (by decide) rfl ?_
    refine Own.goto (pc' := 55) d_jdk_42_method_66_51 (by decide) (by decide) ?_
    exact Own.ireturnZ (z' := (1 : Int32)) d_jdk_42_method_66_55 rfl (by decide) (⟨rfl, rfl⟩) (by decide) (by decide)
set_option maxRecDepth 65536 in
set_option maxHeartbeats 40000000 in
theorem c_seq_deny (Z : State) (a0 : Array Value) (hw : ∀ d ∈ tables_1, d.before a0 Z = true) (n0 : Nat) (h : Heap) (hZ0 : n0 ≤ h.size) (p : Addr) (r : Addr) (Ap : AB Z h p 4 (ownL [100, 101, 110, 121])) (Ar : AB Z h r 4 (ownL [100, 101, 110, 121])) :
    Con Z n0 (⟨"java/lang/StringLatin1", "equals", "([B[B)Z"⟩ : MethodName) jdk_43_method_13_code 3 (some .boolean) ({ frames := 0, cells := 0, slots := 0, locals := 0 } : Room) [(.ref p), (.ref r)] h (fun v h' => v = some (.int 1) ∧ h = h') := by
  refine Own.enter (plainFor_of_name pn_2) (own_EW hw) (L0 := #[.val (.ref p), .val (.ref r), .unset]) (fun m => by first | (simp [entryFrame, mkF, argsToLocals, Value.category]; done) | rfl) fun K => ?_
  show Go K _ _ _ _ _ _ "java/lang/StringLatin1" "equals" _ 0 0 h 0 #[.val (.ref p), .val (.ref r), .unset] []
  refine Own.aloadN (pc' := 1) d_jdk_43_method_13_0 rfl rfl rfl ?_
  refine Own.lenB (pc' := 2) d_jdk_43_method_13_1 rfl Ap fun v127 hv127 => ?_
  obtain rfl : v127 = (4 : Int32) := Int32.toInt_inj.mp (hv127.trans (by decide))
  refine Own.aloadN (pc' := 3) d_jdk_43_method_13_2 rfl rfl rfl ?_
  refine Own.lenB (pc' := 4) d_jdk_43_method_13_3 rfl Ar fun v128 hv128 => ?_
  obtain rfl : v128 = (4 : Int32) := Int32.toInt_inj.mp (hv128.trans (by decide))
  refine Own.icmp_ne (pc' := 34) (pc2 := 7) d_jdk_43_method_13_4 (by decide) (by decide) rfl (fun q => absurd q (by decide)) (fun _ => ?_)
  refine Own.iconst (pc' := 8) (v := (0 : Int32)) d_jdk_43_method_13_7 (by decide) rfl ?_
  refine Own.istoreN (pc' := 9) (L1 := #[.val (.ref p), .val (.ref r), .val (.int (0 : Int32))]) d_jdk_43_method_13_8 rfl rfl ?_
  refine Own.iloadN (pc' := 10) d_jdk_43_method_13_9 rfl rfl ?_
  refine Own.aloadN (pc' := 11) d_jdk_43_method_13_10 rfl rfl rfl ?_
  refine Own.lenB (pc' := 12) d_jdk_43_method_13_11 rfl Ap fun v130 hv130 => ?_
  obtain rfl : v130 = (4 : Int32) := Int32.toInt_inj.mp (hv130.trans (by decide))
  refine Own.icmp_ge (pc' := 32) (pc2 := 15) d_jdk_43_method_13_12 (by decide) (by decide) rfl (fun q => absurd q (by decide)) (fun _ => ?_)
  refine Own.aloadN (pc' := 16) d_jdk_43_method_13_15 rfl rfl rfl ?_
  refine Own.iloadN (pc' := 17) d_jdk_43_method_13_16 rfl rfl ?_
  refine Own.baload (pc' := 18) (i := 0) d_jdk_43_method_13_17 rfl Ap (by decide) (by decide) ?_
  show Go K _ _ _ _ _ _ _ _ _ 0 0 h 18 #[.val (.ref p), .val (.ref r), .val (.int (0 : Int32))] [(.int (100 : Int32))]
  refine Own.aloadN (pc' := 19) d_jdk_43_method_13_18 rfl rfl rfl ?_
  refine Own.iloadN (pc' := 20) d_jdk_43_method_13_19 rfl rfl ?_
  refine Own.baload (pc' := 21) (i := 0) d_jdk_43_method_13_20 rfl Ar (by decide) (by decide) ?_
  show Go K _ _ _ _ _ _ _ _ _ 0 0 h 21 #[.val (.ref p), .val (.ref r), .val (.int (0 : Int32))] [(.int (100 : Int32)), (.int (100 : Int32))]
  refine Own.icmp_eq (pc' := 26) (pc2 := 24) d_jdk_43_method_13_21 (by decide) (by decide) rfl (fun _ => ?_) (fun q => absurd (by decide) q)
  refine Own.iincE (pc' := 29) (L1 := fun zz => #[.val (.ref p), .val (.ref r), .val (.int zz)]) d_jdk_43_method_13_26 rfl (fun _ => rfl) rfl (z := (1 : Int32)) (by decide) ?_
  show Go K _ _ _ _ _ _ _ _ _ 0 0 h 29 #[.val (.ref p), .val (.ref r), .val (.int (1 : Int32))] []
  refine Own.goto (pc' := 9) d_jdk_43_method_13_29 (by decide) (by decide) ?_
  refine Own.iloadN (pc' := 10) d_jdk_43_method_13_9 rfl rfl ?_
  refine Own.aloadN (pc' := 11) d_jdk_43_method_13_10 rfl rfl rfl ?_
  refine Own.lenB (pc' := 12) d_jdk_43_method_13_11 rfl Ap fun v134 hv134 => ?_
  obtain rfl : v134 = (4 : Int32) := Int32.toInt_inj.mp (hv134.trans (by decide))
  refine Own.icmp_ge (pc' := 32) (pc2 := 15) d_jdk_43_method_13_12 (by decide) (by decide) rfl (fun q => absurd q (by decide)) (fun _ => ?_)
  refine Own.aloadN (pc' := 16) d_jdk_43_method_13_15 rfl rfl rfl ?_
  refine Own.iloadN (pc' := 17) d_jdk_43_method_13_16 rfl rfl ?_
  refine Own.baload (pc' := 18) (i := 1) d_jdk_43_method_13_17 rfl Ap (by decide) (by decide) ?_
  show Go K _ _ _ _ _ _ _ _ _ 0 0 h 18 #[.val (.ref p), .val (.ref r), .val (.int (1 : Int32))] [(.int (101 : Int32))]
  refine Own.aloadN (pc' := 19) d_jdk_43_method_13_18 rfl rfl rfl ?_
  refine Own.iloadN (pc' := 20) d_jdk_43_method_13_19 rfl rfl ?_
  refine Own.baload (pc' := 21) (i := 1) d_jdk_43_method_13_20 rfl Ar (by decide) (by decide) ?_
  show Go K _ _ _ _ _ _ _ _ _ 0 0 h 21 #[.val (.ref p), .val (.ref r), .val (.int (1 : Int32))] [(.int (101 : Int32)), (.int (101 : Int32))]
  refine Own.icmp_eq (pc' := 26) (pc2 := 24) d_jdk_43_method_13_21 (by decide) (by decide) rfl (fun _ => ?_) (fun q => absurd (by decide) q)
  refine Own.iincE (pc' := 29) (L1 := fun zz => #[.val (.ref p), .val (.ref r), .val (.int zz)]) d_jdk_43_method_13_26 rfl (fun _ => rfl) rfl (z := (2 : Int32)) (by decide) ?_
  show Go K _ _ _ _ _ _ _ _ _ 0 0 h 29 #[.val (.ref p), .val (.ref r), .val (.int (2 : Int32))] []
  refine Own.goto (pc' := 9) d_jdk_43_method_13_29 (by decide) (by decide) ?_
  refine Own.iloadN (pc' := 10) d_jdk_43_method_13_9 rfl rfl ?_
  refine Own.aloadN (pc' := 11) d_jdk_43_method_13_10 rfl rfl rfl ?_
  refine Own.lenB (pc' := 12) d_jdk_43_method_13_11 rfl Ap fun v138 hv138 => ?_
  obtain rfl : v138 = (4 : Int32) := Int32.toInt_inj.mp (hv138.trans (by decide))
  refine Own.icmp_ge (pc' := 32) (pc2 := 15) d_jdk_43_method_13_12 (by decide) (by decide) rfl (fun q => absurd q (by decide)) (fun _ => ?_)
  refine Own.aloadN (pc' := 16) d_jdk_43_method_13_15 rfl rfl rfl ?_
  refine Own.iloadN (pc' := 17) d_jdk_43_method_13_16 rfl rfl ?_
  refine Own.baload (pc' := 18) (i := 2) d_jdk_43_method_13_17 rfl Ap (by decide) (by decide) ?_
  show Go K _ _ _ _ _ _ _ _ _ 0 0 h 18 #[.val (.ref p), .val (.ref r), .val (.int (2 : Int32))] [(.int (110 : Int32))]
  refine Own.aloadN (pc' := 19) d_jdk_43_method_13_18 rfl rfl rfl ?_
  refine Own.iloadN (pc' := 20) d_jdk_43_method_13_19 rfl rfl ?_
  refine Own.baload (pc' := 21) (i := 2) d_jdk_43_method_13_20 rfl Ar (by decide) (by decide) ?_
  show Go K _ _ _ _ _ _ _ _ _ 0 0 h 21 #[.val (.ref p), .val (.ref r), .val (.int (2 : Int32))] [(.int (110 : Int32)), (.int (110 : Int32))]
  refine Own.icmp_eq (pc' := 26) (pc2 := 24) d_jdk_43_method_13_21 (by decide) (by decide) rfl (fun _ => ?_) (fun q => absurd (by decide) q)
  refine Own.iincE (pc' := 29) (L1 := fun zz => #[.val (.ref p), .val (.ref r), .val (.int zz)]) d_jdk_43_method_13_26 rfl (fun _ => rfl) rfl (z := (3 : Int32)) (by decide) ?_
  show Go K _ _ _ _ _ _ _ _ _ 0 0 h 29 #[.val (.ref p), .val (.ref r), .val (.int (3 : Int32))] []
  refine Own.goto (pc' := 9) d_jdk_43_method_13_29 (by decide) (by decide) ?_
  refine Own.iloadN (pc' := 10) d_jdk_43_method_13_9 rfl rfl ?_
  refine Own.aloadN (pc' := 11) d_jdk_43_method_13_10 rfl rfl rfl ?_
  refine Own.lenB (pc' := 12) d_jdk_43_method_13_11 rfl Ap fun v142 hv142 => ?_
  obtain rfl : v142 = (4 : Int32) := Int32.toInt_inj.mp (hv142.trans (by decide))
  refine Own.icmp_ge (pc' := 32) (pc2 := 15) d_jdk_43_method_13_12 (by decide) (by decide) rfl (fun q => absurd q (by decide)) (fun _ => ?_)
  refine Own.aloadN (pc' := 16) d_jdk_43_method_13_15 rfl rfl rfl ?_
  refine Own.iloadN (pc' := 17) d_jdk_43_method_13_16 rfl rfl ?_
  refine Own.baload (pc' := 18) (i := 3) d_jdk_43_method_13_17 rfl Ap (by decide) (by decide) ?_
  show Go K _ _ _ _ _ _ _ _ _ 0 0 h 18 #[.val (.ref p), .val (.ref r), .val (.int (3 : Int32))] [(.int (121 : Int32))]
  refine Own.aloadN (pc' := 19) d_jdk_43_method_13_18 rfl rfl rfl ?_
  refine Own.iloadN (pc' := 20) d_jdk_43_method_13_19 rfl rfl ?_
  refine Own.baload (pc' := 21) (i := 3) d_jdk_43_method_13_20 rfl Ar (by decide) (by decide) ?_
  show Go K _ _ _ _ _ _ _ _ _ 0 0 h 21 #[.val (.ref p), .val (.ref r), .val (.int (3 : Int32))] [(.int (121 : Int32)), (.int (121 : Int32))]
  refine Own.icmp_eq (pc' := 26) (pc2 := 24) d_jdk_43_method_13_21 (by decide) (by decide) rfl (fun _ => ?_) (fun q => absurd (by decide) q)
  refine Own.iincE (pc' := 29) (L1 := fun zz => #[.val (.ref p), .val (.ref r), .val (.int zz)]) d_jdk_43_method_13_26 rfl (fun _ => rfl) rfl (z := (4 : Int32)) (by decide) ?_
  show Go K _ _ _ _ _ _ _ _ _ 0 0 h 29 #[.val (.ref p), .val (.ref r), .val (.int (4 : Int32))] []
  refine Own.goto (pc' := 9) d_jdk_43_method_13_29 (by decide) (by decide) ?_
  refine Own.iloadN (pc' := 10) d_jdk_43_method_13_9 rfl rfl ?_
  refine Own.aloadN (pc' := 11) d_jdk_43_method_13_10 rfl rfl rfl ?_
  refine Own.lenB (pc' := 12) d_jdk_43_method_13_11 rfl Ap fun v146 hv146 => ?_
  obtain rfl : v146 = (4 : Int32) := Int32.toInt_inj.mp (hv146.trans (by decide))
  refine Own.icmp_ge (pc' := 32) (pc2 := 15) d_jdk_43_method_13_12 (by decide) (by decide) rfl (fun _ => ?_) (fun q => absurd (by decide) q)
  refine Own.iconst (pc' := 33) (v := (1 : Int32)) d_jdk_43_method_13_32 (by decide) rfl ?_
  exact Own.ireturnZ (z' := (1 : Int32)) d_jdk_43_method_13_33 rfl (by decide) (⟨rfl, rfl⟩) (by decide) (by decide)
set_option maxRecDepth 65536 in
set_option maxHeartbeats 40000000 in
theorem c_eq_deny (Z : State) (a0 : Array Value) (hw : ∀ d ∈ tables_1, d.before a0 Z = true) (n0 : Nat) (h : Heap) (hZ0 : n0 ≤ h.size) (o : Addr) (r : Addr) (p1 p2 : Addr) (cz : Int32) (hcz : cz ≠ 0) (SC : Sta Z h "java/lang/String" "COMPACT_STRINGS" "Z" (.int cz)) (Xo : Exa Z h o "java/lang/String") (Co : Fld Z h o "java/lang/String" "coder" "B" (.int 0)) (Vo : Fld Z h o "java/lang/String" "value" "[B" (.ref p1)) (Ap1 : AB Z h p1 4 (ownL [100, 101, 110, 121])) (Xr : Exa Z h r "java/lang/String") (Cr : Fld Z h r "java/lang/String" "coder" "B" (.int 0)) (Vr : Fld Z h r "java/lang/String" "value" "[B" (.ref p2)) (Ap2 : AB Z h p2 4 (ownL [100, 101, 110, 121])) :
    Con Z n0 (⟨"java/lang/String", "equals", "(Ljava/lang/Object;)Z"⟩ : MethodName) jdk_42_method_66_code 3 (some .boolean) ({ frames := 1, cells := 0, slots := 0, locals := 14 } : Room) [(.ref o), (.ref r)] h (fun v h' => v = some (.int 1) ∧ h = h') := by
  refine Own.enter (plainFor_of_name pn_3) (own_EW hw) (L0 := #[.val (.ref o), .val (.ref r), .unset]) (fun m => by first | (simp [entryFrame, mkF, argsToLocals, Value.category]; done) | rfl) fun K => ?_
  show Go K _ _ _ _ _ _ "java/lang/String" "equals" _ 0 0 h 0 #[.val (.ref o), .val (.ref r), .unset] []
  refine Own.aloadN (pc' := 1) d_jdk_42_method_66_0 rfl rfl rfl ?_
  refine Own.aloadN (pc' := 2) d_jdk_42_method_66_1 rfl rfl rfl ?_
  refine Own.acmp2 (pcs := 5) (pcd := 7) d_jdk_42_method_66_2 rfl rfl (by decide) (by decide) (by decide) (fun c2_147 => ?_) (fun c2_147 => ?_)
  · refine Own.iconst (pc' := 6) (v := (1 : Int32)) d_jdk_42_method_66_5 (by decide) rfl ?_
    exact Own.ireturnZ (z' := (1 : Int32)) d_jdk_42_method_66_6 rfl (by decide) (⟨rfl, rfl⟩) (by decide) (by decide)
  · refine Own.aloadN (pc' := 8) d_jdk_42_method_66_7 rfl rfl rfl ?_
    refine Own.instof (pc' := 11) d_jdk_42_method_66_8 rfl (hw _ (List.mem_of_getElem? (i := 32) rfl)) (Ins.self Xr) ?_
    refine Own.if_eq (pc' := 54) (pc2 := 14) d_jdk_42_method_66_11 (by decide) (by decide) rfl (fun q => absurd q (by decide)) (fun _ => ?_)
    refine Own.aloadN (pc' := 15) d_jdk_42_method_66_14 rfl rfl rfl ?_
    refine Own.chcast (pc' := 18) d_jdk_42_method_66_15 rfl (hw _ (List.mem_of_getElem? (i := 32) rfl)) (Ins.self Xr) ?_
    refine Own.astoreN (pc' := 19) (L1 := #[.val (.ref o), .val (.ref r), .val (.ref r)]) d_jdk_42_method_66_18 rfl rfl rfl ?_
    refine Own.getstatic (pc' := 22) d_jdk_42_method_66_19 rfl (hw _ (List.mem_of_getElem? (i := 34) rfl)) Via.refl SC ?_
    refine Own.if_eq (pc' := 36) (pc2 := 25) d_jdk_42_method_66_22 (by decide) (by decide) rfl (fun c22_149 => False.elim (by exact hcz c22_149)) (fun c22_149 => ?_)
    refine Own.aloadN (pc' := 26) d_jdk_42_method_66_25 rfl rfl rfl ?_
    refine Own.getfield (pc' := 29) d_jdk_42_method_66_26 rfl (host := "") (Or.inl (hw _ (List.mem_of_getElem? (i := 35) rfl))) Via.refl Co ?_
    refine Own.aloadN (pc' := 30) d_jdk_42_method_66_29 rfl rfl rfl ?_
    refine Own.getfield (pc' := 33) d_jdk_42_method_66_30 rfl (host := "") (Or.inl (hw _ (List.mem_of_getElem? (i := 35) rfl))) Via.refl Cr ?_
    refine Own.icmp_ne (pc' := 54) (pc2 := 36) d_jdk_42_method_66_33 (by decide) (by decide) rfl (fun q => absurd q (by decide)) (fun _ => ?_)
    refine Own.aloadN (pc' := 37) d_jdk_42_method_66_36 rfl rfl rfl ?_
    refine Own.getfield (pc' := 40) d_jdk_42_method_66_37 rfl (host := "") (Or.inl (hw _ (List.mem_of_getElem? (i := 36) rfl))) Via.refl Vo ?_
    refine Own.aloadN (pc' := 41) d_jdk_42_method_66_40 rfl rfl rfl ?_
    refine Own.getfield (pc' := 44) d_jdk_42_method_66_41 rfl (host := "") (Or.inl (hw _ (List.mem_of_getElem? (i := 36) rfl))) Via.refl Vr ?_
    refine Own.static (pc' := 47) (y := (⟨"java/lang/StringLatin1", "equals", "([B[B)Z"⟩ : MethodName)) (rm' := ({ frames := 0, cells := 0, slots := 0, locals := 0 } : Room)) (W := 0) (as := [(.ref p1), (.ref p2)]) (rest := []) d_jdk_42_method_66_44 rfl (hw _ (List.mem_of_getElem? (i := 37) rfl)) (hw _ (List.mem_of_getElem? (i := 38) rfl)) (hw _ (List.mem_of_getElem? (i := 39) rfl)) (hw _ (List.mem_of_getElem? (i := 40) rfl)) (by decide) (c_seq_deny Z a0 hw n0 h hZ0 p1 p2 Ap1 Ap2) rfl rfl (lenOf pd_1 rfl) (by decide) rfl (by decide) (by decide) (by decide) fun r153 h152 qh152 => ?_
    obtain ⟨e2, e1⟩ := qh152
    subst e1 e2
    show Go K _ _ _ _ _ _ _ _ _ 0 0 h 47 #[.val (.ref o), .val (.ref r), .val (.ref r)] [(.int (1 : Int32))]
    refine Own.if_eq (pc' := 54) (pc2 := 50) d_jdk_42_method_66_47 (by decide) (by decide) rfl (fun q => absurd q (by decide)) (fun _ => ?_)
    refine Own.iconst (pc' := 51) (v := (1 : Int32)) d_jdk_42_method_66_50 (by decide) rfl ?_
    refine Own.goto (pc' := 55) d_jdk_42_method_66_51 (by decide) (by decide) ?_
    exact Own.ireturnZ (z' := (1 : Int32)) d_jdk_42_method_66_55 rfl (by decide) (⟨rfl, rfl⟩) (by decide) (by decide)
set_option maxRecDepth 65536 in
set_option maxHeartbeats 40000000 in
theorem own_law (l : Launch) (Z : State) (a0 : Array Value) (hw : ∀ d ∈ tables_1, d.before a0 Z = true) (ws : List Jvm.Cond) (n0 : Nat) (h : Heap) (hZ0 : n0 ≤ h.size) (i0 : Int32) (cz : Int32) (hcz : cz ≠ 0) (SC : Sta Z h "java/lang/String" "COMPACT_STRINGS" "Z" (.int cz)) (aBLANKET mBLANKET kBLANKET bBLANKET : Addr) (SABLANKET : Sta Z h "com/example/vouch/vouch/core/Answer" "BLANKET" "Lcom/example/vouch/vouch/core/Answer;" (.ref aBLANKET)) (EABLANKET : Exa Z h aBLANKET "com/example/vouch/vouch/core/Answer") (FMBLANKET : Fld Z h aBLANKET "com/example/vouch/vouch/core/Answer" "mode" "Lcom/example/vouch/vouch/core/InteractionMode;" (.ref mBLANKET)) (EMBLANKET : Exa Z h mBLANKET "com/example/vouch/vouch/core/InteractionMode") (FKBLANKET : Fld Z h mBLANKET "com/example/vouch/vouch/core/InteractionMode" "keyword" "Ljava/lang/String;" (.ref kBLANKET)) (EKBLANKET : Exa Z h kBLANKET "java/lang/String") (FCBLANKET : Fld Z h kBLANKET "java/lang/String" "coder" "B" (.int 0)) (FVBLANKET : Fld Z h kBLANKET "java/lang/String" "value" "[B" (.ref bBLANKET)) (ABBLANKET : AB Z h bBLANKET 7 (ownL [98, 108, 97, 110, 107, 101, 116])) (aSESSION mSESSION kSESSION bSESSION : Addr) (SASESSION : Sta Z h "com/example/vouch/vouch/core/Answer" "SESSION" "Lcom/example/vouch/vouch/core/Answer;" (.ref aSESSION)) (EASESSION : Exa Z h aSESSION "com/example/vouch/vouch/core/Answer") (FMSESSION : Fld Z h aSESSION "com/example/vouch/vouch/core/Answer" "mode" "Lcom/example/vouch/vouch/core/InteractionMode;" (.ref mSESSION)) (EMSESSION : Exa Z h mSESSION "com/example/vouch/vouch/core/InteractionMode") (FKSESSION : Fld Z h mSESSION "com/example/vouch/vouch/core/InteractionMode" "keyword" "Ljava/lang/String;" (.ref kSESSION)) (EKSESSION : Exa Z h kSESSION "java/lang/String") (FCSESSION : Fld Z h kSESSION "java/lang/String" "coder" "B" (.int 0)) (FVSESSION : Fld Z h kSESSION "java/lang/String" "value" "[B" (.ref bSESSION)) (ABSESSION : AB Z h bSESSION 7 (ownL [115, 101, 115, 115, 105, 111, 110])) (aONESHOT mONESHOT kONESHOT bONESHOT : Addr) (SAONESHOT : Sta Z h "com/example/vouch/vouch/core/Answer" "ONESHOT" "Lcom/example/vouch/vouch/core/Answer;" (.ref aONESHOT)) (EAONESHOT : Exa Z h aONESHOT "com/example/vouch/vouch/core/Answer") (FMONESHOT : Fld Z h aONESHOT "com/example/vouch/vouch/core/Answer" "mode" "Lcom/example/vouch/vouch/core/InteractionMode;" (.ref mONESHOT)) (EMONESHOT : Exa Z h mONESHOT "com/example/vouch/vouch/core/InteractionMode") (FKONESHOT : Fld Z h mONESHOT "com/example/vouch/vouch/core/InteractionMode" "keyword" "Ljava/lang/String;" (.ref kONESHOT)) (EKONESHOT : Exa Z h kONESHOT "java/lang/String") (FCONESHOT : Fld Z h kONESHOT "java/lang/String" "coder" "B" (.int 0)) (FVONESHOT : Fld Z h kONESHOT "java/lang/String" "value" "[B" (.ref bONESHOT)) (ABONESHOT : AB Z h bONESHOT 7 (ownL [111, 110, 101, 115, 104, 111, 116])) (aDENY : Addr) (SADENY : Sta Z h "com/example/vouch/vouch/core/Answer" "DENY" "Lcom/example/vouch/vouch/core/Answer;" (.ref aDENY)) (EADENY : Exa Z h aDENY "com/example/vouch/vouch/core/Answer") (FMDENY : Fld Z h aDENY "com/example/vouch/vouch/core/Answer" "mode" "Lcom/example/vouch/vouch/core/InteractionMode;" .null) :
    MetFree l x (head1 (Jvm.Cond.code x code maxLocals ret :: ws) room_1) (fun a U => a = #[(.int i0)] ∧ Z.Warmed39 U.vm ∧ U.heap = h ∧ CHv Z ownEL U.vm h) (fun _ _ _ _ _ => True) (fun _ U o U' => ∃ v L, o = .returned v ∧ ((fun v _ => v = some (.int 1)) v U'.heap ∧ Fr n0 L) ∧ CHr Z ownEL U.vm U.heap U'.vm U'.heap ∧ ReturnedEndW U o U' L room_1.cells room_1.slots) := by
  refine Own.enterW (Q := fun v _ => v = some (.int 1)) (plainFor_of_name pn_4) (own_EW hw) (L0 := #[.val (.int i0), .unset, .unset, .unset, .unset]) (fun m => by first | (simp [entryFrame, mkF, argsToLocals, Value.category, maxLocals]; done) | rfl) fun K => ?_
  show Go K _ _ _ code 5 (some .boolean) "com/example/vouch/vouch/core/AnswerKeywordPinLaw" "law" _ 0 0 h 0 #[.val (.int i0), .unset, .unset, .unset, .unset] []
  refine Own.iloadN (pc' := 1) at_0 rfl rfl ?_
  refine Own.iconst (pc' := 2) (v := (3 : Int32)) at_1 (by decide) rfl ?_
  refine Own.iand (pc' := 3) at_2 rfl fun v155 hv155 => ?_
  refine Own.istoreN (pc' := 4) (L1 := #[.val (.int i0), .val (.int v155), .unset, .unset, .unset]) at_3 rfl rfl ?_
  refine Own.iloadN (pc' := 5) at_4 rfl rfl ?_
  refine Own.if_ne (pc' := 18) (pc2 := 8) at_5 (by decide) (by decide) rfl (fun c5_155 => ?_) (fun c5_155 => ?_)
  · refine Own.iloadN (pc' := 19) at_18 rfl rfl ?_
    refine Own.iconst (pc' := 20) (v := (1 : Int32)) at_19 (by decide) rfl ?_
    refine Own.icmp_ne (pc' := 33) (pc2 := 23) at_20 (by decide) (by decide) rfl (fun c20_156 => ?_) (fun c20_156 => ?_)
    · refine Own.iloadN (pc' := 34) at_33 rfl rfl ?_
      refine Own.iconst (pc' := 35) (v := (2 : Int32)) at_34 (by decide) rfl ?_
      refine Own.icmp_ne (pc' := 48) (pc2 := 38) at_35 (by decide) (by decide) rfl (fun c35_157 => ?_) (fun c35_157 => ?_)
      · refine Own.getstatic (pc' := 51) at_48 rfl (hw _ (List.mem_of_getElem? (i := 41) rfl)) Via.refl SADENY ?_
        refine Own.astoreN (pc' := 52) (L1 := #[.val (.int i0), .val (.int v155), .val (.ref aDENY), .unset, .unset]) at_51 rfl rfl rfl ?_
        refine Own.ldcStr (pc' := 54) (n := 16) (l := [100, 101, 110, 121]) (z := 4) at_52 rfl (hw _ (List.mem_of_getElem? (i := 43) rfl)) (own_wS hw) (by decide) (by decide) (by decide) (by decide) (by decide) (by decide) (by decide) (by decide) fun a159 a161 h160 Eh160 Xa159 Ca159 Va159 Aa161 => ?_
        have Zh160 : n0 ≤ h160.size := Nat.le_trans hZ0 Eh160.1
        have f162 := FMBLANKET.ext Eh160
        have f163 := FKBLANKET.ext Eh160
        have f164 := FCBLANKET.ext Eh160
        have f165 := FVBLANKET.ext Eh160
        have f166 := FMSESSION.ext Eh160
        have f167 := FKSESSION.ext Eh160
        have f168 := FCSESSION.ext Eh160
        have f169 := FVSESSION.ext Eh160
        have f170 := FMONESHOT.ext Eh160
        have f171 := FKONESHOT.ext Eh160
        have f172 := FCONESHOT.ext Eh160
        have f173 := FVONESHOT.ext Eh160
        have f174 := FMDENY.ext Eh160
        have f175 := EABLANKET.ext Eh160
        have f176 := EMBLANKET.ext Eh160
        have f177 := EKBLANKET.ext Eh160
        have f178 := EASESSION.ext Eh160
        have f179 := EMSESSION.ext Eh160
        have f180 := EKSESSION.ext Eh160
        have f181 := EAONESHOT.ext Eh160
        have f182 := EMONESHOT.ext Eh160
        have f183 := EKONESHOT.ext Eh160
        have f184 := EADENY.ext Eh160
        have f185 := ABBLANKET.ext Eh160
        have f186 := ABSESSION.ext Eh160
        have f187 := ABONESHOT.ext Eh160
        have f188 := SC.ext Eh160
        have f189 := SABLANKET.ext Eh160
        have f190 := SASESSION.ext Eh160
        have f191 := SAONESHOT.ext Eh160
        have f192 := SADENY.ext Eh160
        show Go K _ _ _ _ _ _ _ _ _ 2 20 h160 54 #[.val (.int i0), .val (.int v155), .val (.ref aDENY), .unset, .unset] [(.ref a159)]
        refine Own.astoreN (pc' := 55) (L1 := #[.val (.int i0), .val (.int v155), .val (.ref aDENY), .val (.ref a159), .unset]) at_54 rfl rfl rfl ?_
        refine Own.aloadN (pc' := 56) at_55 rfl rfl rfl ?_
        refine Own.virtual (pc' := 59) (y := (⟨"com/example/vouch/vouch/core/Answer", "keyword", "()Ljava/lang/String;"⟩ : MethodName)) (rm' := ({ frames := 0, cells := 2, slots := 20, locals := 0 } : Room)) (W := 0) (as := []) (rest := []) (a := aDENY) at_56 rfl (hw _ (List.mem_of_getElem? (i := 11) rfl)) (hw _ (List.mem_of_getElem? (i := 12) rfl)) (hw _ (List.mem_of_getElem? (i := 14) rfl)) (hw _ (List.mem_of_getElem? (i := 13) rfl)) (hw _ (List.mem_of_getElem? (i := 1) rfl)) (hw _ (List.mem_of_getElem? (i := 15) rfl)) (by decide) f184 (c_ankD Z a0 hw n0 h160 Zh160 aDENY f174) rfl rfl (lenOf pd_0 rfl) (by decide) rfl (by decide) (by decide) (by decide) fun r194 h193 qh193 => ?_
        obtain ⟨a195, a196, e2, Eh193, Xa195, Ca195, Va195, Aa196⟩ := qh193
        subst e2
        have Zh193 : n0 ≤ h193.size := Nat.le_trans Zh160 Eh193.1
        have f197 := f162.ext Eh193
        have f198 := f163.ext Eh193
        have f199 := f164.ext Eh193
        have f200 := f165.ext Eh193
        have f201 := f166.ext Eh193
        have f202 := f167.ext Eh193
        have f203 := f168.ext Eh193
        have f204 := f169.ext Eh193
        have f205 := f170.ext Eh193
        have f206 := f171.ext Eh193
        have f207 := f172.ext Eh193
        have f208 := f173.ext Eh193
        have f209 := f174.ext Eh193
        have f210 := Ca159.ext Eh193
        have f211 := Va159.ext Eh193
        have f212 := f175.ext Eh193
        have f213 := f176.ext Eh193
        have f214 := f177.ext Eh193
        have f215 := f178.ext Eh193
        have f216 := f179.ext Eh193
        have f217 := f180.ext Eh193
        have f218 := f181.ext Eh193
        have f219 := f182.ext Eh193
        have f220 := f183.ext Eh193
        have f221 := f184.ext Eh193
        have f222 := Xa159.ext Eh193
        have f223 := f185.ext Eh193
        have f224 := f186.ext Eh193
        have f225 := f187.ext Eh193
        have f226 := Aa161.ext Eh193
        have f227 := f188.ext Eh193
        have f228 := f189.ext Eh193
        have f229 := f190.ext Eh193
        have f230 := f191.ext Eh193
        have f231 := f192.ext Eh193
        show Go K _ _ _ _ _ _ _ _ _ 4 40 h193 59 #[.val (.int i0), .val (.int v155), .val (.ref aDENY), .val (.ref a159), .unset] [(.ref a195)]
        refine Own.astore (pc' := 61) (L1 := #[.val (.int i0), .val (.int v155), .val (.ref aDENY), .val (.ref a159), .val (.ref a195)]) at_59 rfl rfl rfl ?_
        refine Own.aload (pc' := 63) at_61 rfl rfl rfl ?_
        refine Own.ifnull_no (pc' := 66) at_63 rfl ?_
        refine Own.aload (pc' := 68) at_66 rfl rfl rfl ?_
        refine Own.aloadN (pc' := 69) at_68 rfl rfl rfl ?_
        refine Own.virtual (pc' := 72) (y := (⟨"java/lang/String", "equals", "(Ljava/lang/Object;)Z"⟩ : MethodName)) (rm' := ({ frames := 1, cells := 0, slots := 0, locals := 14 } : Room)) (W := 0) (as := [(.ref a159)]) (rest := []) (a := a195) at_69 rfl (hw _ (List.mem_of_getElem? (i := 27) rfl)) (hw _ (List.mem_of_getElem? (i := 28) rfl)) (hw _ (List.mem_of_getElem? (i := 30) rfl)) (hw _ (List.mem_of_getElem? (i := 29) rfl)) (hw _ (List.mem_of_getElem? (i := 4) rfl)) (hw _ (List.mem_of_getElem? (i := 31) rfl)) (by decide) Xa195 (c_eq_deny Z a0 hw n0 h193 Zh193 a195 a159 a196 a161 cz hcz f227 Xa195 Ca195 Va195 Aa196 f222 f210 f211 f226) rfl rfl (lenOf pd_2 rfl) (by decide) rfl (by decide) (by decide) (by decide) fun r233 h232 qh232 => ?_
        obtain ⟨e2, e1⟩ := qh232
        subst e1 e2
        show Go K _ _ _ _ _ _ _ _ _ 4 40 h193 72 #[.val (.int i0), .val (.int v155), .val (.ref aDENY), .val (.ref a159), .val (.ref a195)] [(.int (1 : Int32))]
        refine Own.if_eq (pc' := 79) (pc2 := 75) at_72 (by decide) (by decide) rfl (fun q => absurd q (by decide)) (fun _ => ?_)
        refine Own.iconst (pc' := 76) (v := (1 : Int32)) at_75 (by decide) rfl ?_
        refine Own.goto (pc' := 80) at_76 (by decide) (by decide) ?_
        exact Own.ireturnZ (z' := (1 : Int32)) at_80 rfl (by decide) (rfl) (by decide) (by decide)
      · refine Own.getstatic (pc' := 41) at_38 rfl (hw _ (List.mem_of_getElem? (i := 45) rfl)) Via.refl SAONESHOT ?_
        refine Own.astoreN (pc' := 42) (L1 := #[.val (.int i0), .val (.int v155), .val (.ref aONESHOT), .unset, .unset]) at_41 rfl rfl rfl ?_
        refine Own.ldcStr (pc' := 44) (n := 28) (l := [111, 110, 101, 115, 104, 111, 116]) (z := 7) at_42 rfl (hw _ (List.mem_of_getElem? (i := 47) rfl)) (own_wS hw) (by decide) (by decide) (by decide) (by decide) (by decide) (by decide) (by decide) (by decide) fun a235 a237 h236 Eh236 Xa235 Ca235 Va235 Aa237 => ?_
        have Zh236 : n0 ≤ h236.size := Nat.le_trans hZ0 Eh236.1
        have f238 := FMBLANKET.ext Eh236
        have f239 := FKBLANKET.ext Eh236
        have f240 := FCBLANKET.ext Eh236
        have f241 := FVBLANKET.ext Eh236
        have f242 := FMSESSION.ext Eh236
        have f243 := FKSESSION.ext Eh236
        have f244 := FCSESSION.ext Eh236
        have f245 := FVSESSION.ext Eh236
        have f246 := FMONESHOT.ext Eh236
        have f247 := FKONESHOT.ext Eh236
        have f248 := FCONESHOT.ext Eh236
        have f249 := FVONESHOT.ext Eh236
        have f250 := FMDENY.ext Eh236
        have f251 := EABLANKET.ext Eh236
        have f252 := EMBLANKET.ext Eh236
        have f253 := EKBLANKET.ext Eh236
        have f254 := EASESSION.ext Eh236
        have f255 := EMSESSION.ext Eh236
        have f256 := EKSESSION.ext Eh236
        have f257 := EAONESHOT.ext Eh236
        have f258 := EMONESHOT.ext Eh236
        have f259 := EKONESHOT.ext Eh236
        have f260 := EADENY.ext Eh236
        have f261 := ABBLANKET.ext Eh236
        have f262 := ABSESSION.ext Eh236
        have f263 := ABONESHOT.ext Eh236
        have f264 := SC.ext Eh236
        have f265 := SABLANKET.ext Eh236
        have f266 := SASESSION.ext Eh236
        have f267 := SAONESHOT.ext Eh236
        have f268 := SADENY.ext Eh236
        show Go K _ _ _ _ _ _ _ _ _ 2 32 h236 44 #[.val (.int i0), .val (.int v155), .val (.ref aONESHOT), .unset, .unset] [(.ref a235)]
        refine Own.astoreN (pc' := 45) (L1 := #[.val (.int i0), .val (.int v155), .val (.ref aONESHOT), .val (.ref a235), .unset]) at_44 rfl rfl rfl ?_
        refine Own.goto (pc' := 55) at_45 (by decide) (by decide) ?_
        refine Own.aloadN (pc' := 56) at_55 rfl rfl rfl ?_
        refine Own.virtual (pc' := 59) (y := (⟨"com/example/vouch/vouch/core/Answer", "keyword", "()Ljava/lang/String;"⟩ : MethodName)) (rm' := ({ frames := 1, cells := 0, slots := 0, locals := 12 } : Room)) (W := 0) (as := []) (rest := []) (a := aONESHOT) at_56 rfl (hw _ (List.mem_of_getElem? (i := 11) rfl)) (hw _ (List.mem_of_getElem? (i := 12) rfl)) (hw _ (List.mem_of_getElem? (i := 14) rfl)) (hw _ (List.mem_of_getElem? (i := 13) rfl)) (hw _ (List.mem_of_getElem? (i := 1) rfl)) (hw _ (List.mem_of_getElem? (i := 15) rfl)) (by decide) f257 (c_ank Z a0 hw n0 h236 Zh236 aONESHOT mONESHOT kONESHOT f246 f258 f247) rfl rfl (lenOf pd_0 rfl) (by decide) rfl (by decide) (by decide) (by decide) fun r270 h269 qh269 => ?_
        obtain ⟨e2, e1⟩ := qh269
        subst e1 e2
        show Go K _ _ _ _ _ _ _ _ _ 2 32 h236 59 #[.val (.int i0), .val (.int v155), .val (.ref aONESHOT), .val (.ref a235), .unset] [(.ref kONESHOT)]
        refine Own.astore (pc' := 61) (L1 := #[.val (.int i0), .val (.int v155), .val (.ref aONESHOT), .val (.ref a235), .val (.ref kONESHOT)]) at_59 rfl rfl rfl ?_
        refine Own.aload (pc' := 63) at_61 rfl rfl rfl ?_
        refine Own.ifnull_no (pc' := 66) at_63 rfl ?_
        refine Own.aload (pc' := 68) at_66 rfl rfl rfl ?_
        refine Own.aloadN (pc' := 69) at_68 rfl rfl rfl ?_
        refine Own.virtual (pc' := 72) (y := (⟨"java/lang/String", "equals", "(Ljava/lang/Object;)Z"⟩ : MethodName)) (rm' := ({ frames := 1, cells := 0, slots := 0, locals := 14 } : Room)) (W := 0) (as := [(.ref a235)]) (rest := []) (a := kONESHOT) at_69 rfl (hw _ (List.mem_of_getElem? (i := 27) rfl)) (hw _ (List.mem_of_getElem? (i := 28) rfl)) (hw _ (List.mem_of_getElem? (i := 30) rfl)) (hw _ (List.mem_of_getElem? (i := 29) rfl)) (hw _ (List.mem_of_getElem? (i := 4) rfl)) (hw _ (List.mem_of_getElem? (i := 31) rfl)) (by decide) f259 (c_eq_oneshot Z a0 hw n0 h236 Zh236 kONESHOT a235 bONESHOT a237 cz hcz f264 f259 f248 f249 f263 Xa235 Ca235 Va235 Aa237) rfl rfl (lenOf pd_2 rfl) (by decide) rfl (by decide) (by decide) (by decide) fun r272 h271 qh271 => ?_
        obtain ⟨e2, e1⟩ := qh271
        subst e1 e2
        show Go K _ _ _ _ _ _ _ _ _ 2 32 h236 72 #[.val (.int i0), .val (.int v155), .val (.ref aONESHOT), .val (.ref a235), .val (.ref kONESHOT)] [(.int (1 : Int32))]
        refine Own.if_eq (pc' := 79) (pc2 := 75) at_72 (by decide) (by decide) rfl (fun q => absurd q (by decide)) (fun _ => ?_)
        refine Own.iconst (pc' := 76) (v := (1 : Int32)) at_75 (by decide) rfl ?_
        refine Own.goto (pc' := 80) at_76 (by decide) (by decide) ?_
        exact Own.ireturnZ (z' := (1 : Int32)) at_80 rfl (by decide) (rfl) (by decide) (by decide)
    · refine Own.getstatic (pc' := 26) at_23 rfl (hw _ (List.mem_of_getElem? (i := 49) rfl)) Via.refl SASESSION ?_
      refine Own.astoreN (pc' := 27) (L1 := #[.val (.int i0), .val (.int v155), .val (.ref aSESSION), .unset, .unset]) at_26 rfl rfl rfl ?_
      refine Own.ldcStr (pc' := 29) (n := 28) (l := [115, 101, 115, 115, 105, 111, 110]) (z := 7) at_27 rfl (hw _ (List.mem_of_getElem? (i := 51) rfl)) (own_wS hw) (by decide) (by decide) (by decide) (by decide) (by decide) (by decide) (by decide) (by decide) fun a274 a276 h275 Eh275 Xa274 Ca274 Va274 Aa276 => ?_
      have Zh275 : n0 ≤ h275.size := Nat.le_trans hZ0 Eh275.1
      have f277 := FMBLANKET.ext Eh275
      have f278 := FKBLANKET.ext Eh275
      have f279 := FCBLANKET.ext Eh275
      have f280 := FVBLANKET.ext Eh275
      have f281 := FMSESSION.ext Eh275
      have f282 := FKSESSION.ext Eh275
      have f283 := FCSESSION.ext Eh275
      have f284 := FVSESSION.ext Eh275
      have f285 := FMONESHOT.ext Eh275
      have f286 := FKONESHOT.ext Eh275
      have f287 := FCONESHOT.ext Eh275
      have f288 := FVONESHOT.ext Eh275
      have f289 := FMDENY.ext Eh275
      have f290 := EABLANKET.ext Eh275
      have f291 := EMBLANKET.ext Eh275
      have f292 := EKBLANKET.ext Eh275
      have f293 := EASESSION.ext Eh275
      have f294 := EMSESSION.ext Eh275
      have f295 := EKSESSION.ext Eh275
      have f296 := EAONESHOT.ext Eh275
      have f297 := EMONESHOT.ext Eh275
      have f298 := EKONESHOT.ext Eh275
      have f299 := EADENY.ext Eh275
      have f300 := ABBLANKET.ext Eh275
      have f301 := ABSESSION.ext Eh275
      have f302 := ABONESHOT.ext Eh275
      have f303 := SC.ext Eh275
      have f304 := SABLANKET.ext Eh275
      have f305 := SASESSION.ext Eh275
      have f306 := SAONESHOT.ext Eh275
      have f307 := SADENY.ext Eh275
      show Go K _ _ _ _ _ _ _ _ _ 2 32 h275 29 #[.val (.int i0), .val (.int v155), .val (.ref aSESSION), .unset, .unset] [(.ref a274)]
      refine Own.astoreN (pc' := 30) (L1 := #[.val (.int i0), .val (.int v155), .val (.ref aSESSION), .val (.ref a274), .unset]) at_29 rfl rfl rfl ?_
      refine Own.goto (pc' := 55) at_30 (by decide) (by decide) ?_
      refine Own.aloadN (pc' := 56) at_55 rfl rfl rfl ?_
      refine Own.virtual (pc' := 59) (y := (⟨"com/example/vouch/vouch/core/Answer", "keyword", "()Ljava/lang/String;"⟩ : MethodName)) (rm' := ({ frames := 1, cells := 0, slots := 0, locals := 12 } : Room)) (W := 0) (as := []) (rest := []) (a := aSESSION) at_56 rfl (hw _ (List.mem_of_getElem? (i := 11) rfl)) (hw _ (List.mem_of_getElem? (i := 12) rfl)) (hw _ (List.mem_of_getElem? (i := 14) rfl)) (hw _ (List.mem_of_getElem? (i := 13) rfl)) (hw _ (List.mem_of_getElem? (i := 1) rfl)) (hw _ (List.mem_of_getElem? (i := 15) rfl)) (by decide) f293 (c_ank Z a0 hw n0 h275 Zh275 aSESSION mSESSION kSESSION f281 f294 f282) rfl rfl (lenOf pd_0 rfl) (by decide) rfl (by decide) (by decide) (by decide) fun r309 h308 qh308 => ?_
      obtain ⟨e2, e1⟩ := qh308
      subst e1 e2
      show Go K _ _ _ _ _ _ _ _ _ 2 32 h275 59 #[.val (.int i0), .val (.int v155), .val (.ref aSESSION), .val (.ref a274), .unset] [(.ref kSESSION)]
      refine Own.astore (pc' := 61) (L1 := #[.val (.int i0), .val (.int v155), .val (.ref aSESSION), .val (.ref a274), .val (.ref kSESSION)]) at_59 rfl rfl rfl ?_
      refine Own.aload (pc' := 63) at_61 rfl rfl rfl ?_
      refine Own.ifnull_no (pc' := 66) at_63 rfl ?_
      refine Own.aload (pc' := 68) at_66 rfl rfl rfl ?_
      refine Own.aloadN (pc' := 69) at_68 rfl rfl rfl ?_
      refine Own.virtual (pc' := 72) (y := (⟨"java/lang/String", "equals", "(Ljava/lang/Object;)Z"⟩ : MethodName)) (rm' := ({ frames := 1, cells := 0, slots := 0, locals := 14 } : Room)) (W := 0) (as := [(.ref a274)]) (rest := []) (a := kSESSION) at_69 rfl (hw _ (List.mem_of_getElem? (i := 27) rfl)) (hw _ (List.mem_of_getElem? (i := 28) rfl)) (hw _ (List.mem_of_getElem? (i := 30) rfl)) (hw _ (List.mem_of_getElem? (i := 29) rfl)) (hw _ (List.mem_of_getElem? (i := 4) rfl)) (hw _ (List.mem_of_getElem? (i := 31) rfl)) (by decide) f295 (c_eq_session Z a0 hw n0 h275 Zh275 kSESSION a274 bSESSION a276 cz hcz f303 f295 f283 f284 f301 Xa274 Ca274 Va274 Aa276) rfl rfl (lenOf pd_2 rfl) (by decide) rfl (by decide) (by decide) (by decide) fun r311 h310 qh310 => ?_
      obtain ⟨e2, e1⟩ := qh310
      subst e1 e2
      show Go K _ _ _ _ _ _ _ _ _ 2 32 h275 72 #[.val (.int i0), .val (.int v155), .val (.ref aSESSION), .val (.ref a274), .val (.ref kSESSION)] [(.int (1 : Int32))]
      refine Own.if_eq (pc' := 79) (pc2 := 75) at_72 (by decide) (by decide) rfl (fun q => absurd q (by decide)) (fun _ => ?_)
      refine Own.iconst (pc' := 76) (v := (1 : Int32)) at_75 (by decide) rfl ?_
      refine Own.goto (pc' := 80) at_76 (by decide) (by decide) ?_
      exact Own.ireturnZ (z' := (1 : Int32)) at_80 rfl (by decide) (rfl) (by decide) (by decide)
  · refine Own.getstatic (pc' := 11) at_8 rfl (hw _ (List.mem_of_getElem? (i := 0) rfl)) Via.refl SABLANKET ?_
    refine Own.astoreN (pc' := 12) (L1 := #[.val (.int i0), .val (.int v155), .val (.ref aBLANKET), .unset, .unset]) at_11 rfl rfl rfl ?_
    refine Own.ldcStr (pc' := 14) (n := 28) (l := [98, 108, 97, 110, 107, 101, 116]) (z := 7) at_12 rfl (hw _ (List.mem_of_getElem? (i := 3) rfl)) (own_wS hw) (by decide) (by decide) (by decide) (by decide) (by decide) (by decide) (by decide) (by decide) fun a313 a315 h314 Eh314 Xa313 Ca313 Va313 Aa315 => ?_
    have Zh314 : n0 ≤ h314.size := Nat.le_trans hZ0 Eh314.1
    have f316 := FMBLANKET.ext Eh314
    have f317 := FKBLANKET.ext Eh314
    have f318 := FCBLANKET.ext Eh314
    have f319 := FVBLANKET.ext Eh314
    have f320 := FMSESSION.ext Eh314
    have f321 := FKSESSION.ext Eh314
    have f322 := FCSESSION.ext Eh314
    have f323 := FVSESSION.ext Eh314
    have f324 := FMONESHOT.ext Eh314
    have f325 := FKONESHOT.ext Eh314
    have f326 := FCONESHOT.ext Eh314
    have f327 := FVONESHOT.ext Eh314
    have f328 := FMDENY.ext Eh314
    have f329 := EABLANKET.ext Eh314
    have f330 := EMBLANKET.ext Eh314
    have f331 := EKBLANKET.ext Eh314
    have f332 := EASESSION.ext Eh314
    have f333 := EMSESSION.ext Eh314
    have f334 := EKSESSION.ext Eh314
    have f335 := EAONESHOT.ext Eh314
    have f336 := EMONESHOT.ext Eh314
    have f337 := EKONESHOT.ext Eh314
    have f338 := EADENY.ext Eh314
    have f339 := ABBLANKET.ext Eh314
    have f340 := ABSESSION.ext Eh314
    have f341 := ABONESHOT.ext Eh314
    have f342 := SC.ext Eh314
    have f343 := SABLANKET.ext Eh314
    have f344 := SASESSION.ext Eh314
    have f345 := SAONESHOT.ext Eh314
    have f346 := SADENY.ext Eh314
    show Go K _ _ _ _ _ _ _ _ _ 2 32 h314 14 #[.val (.int i0), .val (.int v155), .val (.ref aBLANKET), .unset, .unset] [(.ref a313)]
    refine Own.astoreN (pc' := 15) (L1 := #[.val (.int i0), .val (.int v155), .val (.ref aBLANKET), .val (.ref a313), .unset]) at_14 rfl rfl rfl ?_
    refine Own.goto (pc' := 55) at_15 (by decide) (by decide) ?_
    refine Own.aloadN (pc' := 56) at_55 rfl rfl rfl ?_
    refine Own.virtual (pc' := 59) (y := (⟨"com/example/vouch/vouch/core/Answer", "keyword", "()Ljava/lang/String;"⟩ : MethodName)) (rm' := ({ frames := 1, cells := 0, slots := 0, locals := 12 } : Room)) (W := 0) (as := []) (rest := []) (a := aBLANKET) at_56 rfl (hw _ (List.mem_of_getElem? (i := 11) rfl)) (hw _ (List.mem_of_getElem? (i := 12) rfl)) (hw _ (List.mem_of_getElem? (i := 14) rfl)) (hw _ (List.mem_of_getElem? (i := 13) rfl)) (hw _ (List.mem_of_getElem? (i := 1) rfl)) (hw _ (List.mem_of_getElem? (i := 15) rfl)) (by decide) f329 (c_ank Z a0 hw n0 h314 Zh314 aBLANKET mBLANKET kBLANKET f316 f330 f317) rfl rfl (lenOf pd_0 rfl) (by decide) rfl (by decide) (by decide) (by decide) fun r348 h347 qh347 => ?_
    obtain ⟨e2, e1⟩ := qh347
    subst e1 e2
    show Go K _ _ _ _ _ _ _ _ _ 2 32 h314 59 #[.val (.int i0), .val (.int v155), .val (.ref aBLANKET), .val (.ref a313), .unset] [(.ref kBLANKET)]
    refine Own.astore (pc' := 61) (L1 := #[.val (.int i0), .val (.int v155), .val (.ref aBLANKET), .val (.ref a313), .val (.ref kBLANKET)]) at_59 rfl rfl rfl ?_
    refine Own.aload (pc' := 63) at_61 rfl rfl rfl ?_
    refine Own.ifnull_no (pc' := 66) at_63 rfl ?_
    refine Own.aload (pc' := 68) at_66 rfl rfl rfl ?_
    refine Own.aloadN (pc' := 69) at_68 rfl rfl rfl ?_
    refine Own.virtual (pc' := 72) (y := (⟨"java/lang/String", "equals", "(Ljava/lang/Object;)Z"⟩ : MethodName)) (rm' := ({ frames := 1, cells := 0, slots := 0, locals := 14 } : Room)) (W := 0) (as := [(.ref a313)]) (rest := []) (a := kBLANKET) at_69 rfl (hw _ (List.mem_of_getElem? (i := 27) rfl)) (hw _ (List.mem_of_getElem? (i := 28) rfl)) (hw _ (List.mem_of_getElem? (i := 30) rfl)) (hw _ (List.mem_of_getElem? (i := 29) rfl)) (hw _ (List.mem_of_getElem? (i := 4) rfl)) (hw _ (List.mem_of_getElem? (i := 31) rfl)) (by decide) f331 (c_eq_blanket Z a0 hw n0 h314 Zh314 kBLANKET a313 bBLANKET a315 cz hcz f342 f331 f318 f319 f339 Xa313 Ca313 Va313 Aa315) rfl rfl (lenOf pd_2 rfl) (by decide) rfl (by decide) (by decide) (by decide) fun r350 h349 qh349 => ?_
    obtain ⟨e2, e1⟩ := qh349
    subst e1 e2
    show Go K _ _ _ _ _ _ _ _ _ 2 32 h314 72 #[.val (.int i0), .val (.int v155), .val (.ref aBLANKET), .val (.ref a313), .val (.ref kBLANKET)] [(.int (1 : Int32))]
    refine Own.if_eq (pc' := 79) (pc2 := 75) at_72 (by decide) (by decide) rfl (fun q => absurd q (by decide)) (fun _ => ?_)
    refine Own.iconst (pc' := 76) (v := (1 : Int32)) at_75 (by decide) rfl ?_
    refine Own.goto (pc' := 80) at_76 (by decide) (by decide) ?_
    exact Own.ireturnZ (z' := (1 : Int32)) at_80 rfl (by decide) (rfl) (by decide) (by decide)
set_option maxRecDepth 65536 in
set_option maxHeartbeats 40000000 in
theorem comes_1 {Post : Tables → Env → Array Value → State → Outcome → State → Prop} (hpost : ∀ tb e args s v u, (limb_1_1.after args s (.returned v) u = true ∧ limb_1_2.after args s (.returned v) u = true ∧ True) → ReturnedEndW s (.returned v) u (Jvm.fieldLocs frame_1_writes args s ++ Jvm.arrayLocs frame_1_arrays args s ++ Jvm.staticLocs frame_1_statics s) 16 5184 → Post tb e args s (.returned v) u) :
    ArmFor flags0 classFile x code maxLocals ret World_1 tables_1 room_1 Calls_1 rest_1 Pre_1 Post := by
  intro l hfl _ _ p e ha hc hk s m args below hf hA hF happ hP
  obtain ⟨hcalls, hrest, hpre⟩ := hP
  obtain ⟨-, -, -, hnamed, -, -, -, hat⟩ := (Spec.applies_iff hf).mp happ
  obtain ⟨hg, hn⟩ := and_e (Cond.before_iff.mp (show (Jvm.Cond.and given_1 narrow_1).before args s = true from hpre))
  obtain ⟨hcnt, hg0⟩ := and_e hg
  obtain ⟨w0, rfl⟩ : ∃ w0 : Value, args = #[w0] := by
    have hs : args.size = 1 := by simpa [Cond.value, given_1] using hcnt
    obtain ⟨L⟩ := args
    match L, hs with
    | [w0], _ => exact ⟨w0, rfl⟩
  have hw := fun d (hd : d ∈ tables_1) => atoms_spec (ws := Jvm.Cond.code x code maxLocals ret :: tables_1) hat d (List.mem_cons_of_mem _ hd)
  obtain ⟨i0, e0⟩ := is_v hg0
  obtain rfl : w0 = (.int i0) := Option.some.inj e0
  obtain ⟨nw0, r0⟩ := and_e hn
  obtain ⟨nw1, r1⟩ := and_e r0
  obtain ⟨nw2, r2⟩ := and_e r1
  obtain ⟨nw3, r3⟩ := and_e r2
  obtain ⟨nw4, r4⟩ := and_e r3
  obtain ⟨nw5, r5⟩ := and_e r4
  obtain ⟨nw6, r6⟩ := and_e r5
  obtain ⟨nw7, r7⟩ := and_e r6
  obtain ⟨nw8, r8⟩ := and_e r7
  obtain ⟨nw9, r9⟩ := and_e r8
  obtain ⟨nw10, r10⟩ := and_e r9
  obtain ⟨nw11, r11⟩ := and_e r10
  obtain ⟨nw12, r12⟩ := and_e r11
  obtain ⟨nw13, r13⟩ := and_e r12
  obtain ⟨nw14, r14⟩ := and_e r13
  obtain ⟨nw15, r15⟩ := and_e r14
  obtain ⟨nw16, r16⟩ := and_e r15
  obtain ⟨nw17, r17⟩ := and_e r16
  obtain ⟨nw18, r18⟩ := and_e r17
  obtain ⟨nw19, r19⟩ := and_e r18
  obtain ⟨nw20, r20⟩ := and_e r19
  obtain ⟨nw21, r21⟩ := and_e r20
  obtain ⟨nw22, r22⟩ := and_e r21
  obtain ⟨nw23, r23⟩ := and_e r22
  obtain ⟨nw24, r24⟩ := and_e r23
  obtain ⟨nw25, r25⟩ := and_e r24
  obtain ⟨nw26, r26⟩ := and_e r25
  obtain ⟨nw27, r27⟩ := and_e r26
  obtain ⟨nw28, r28⟩ := and_e r27
  obtain ⟨nw29, r29⟩ := and_e r28
  obtain ⟨nw30, r30⟩ := and_e r29
  obtain ⟨nw31, r31⟩ := and_e r30
  obtain ⟨nw32, r32⟩ := and_e r31
  obtain ⟨nw33, r33⟩ := and_e r32
  obtain ⟨nw34, r34⟩ := and_e r33
  obtain ⟨nw35, r35⟩ := and_e r34
  obtain ⟨nw36, r36⟩ := and_e r35
  obtain ⟨nw37, r37⟩ := and_e r36
  obtain ⟨nw38, r38⟩ := and_e r37
  obtain ⟨nw39, r39⟩ := and_e r38
  obtain ⟨nw40, r40⟩ := and_e r39
  obtain ⟨nw41, r41⟩ := and_e r40
  obtain ⟨nw42, r42⟩ := and_e r41
  have nw43 := r42
  obtain ⟨aBLANKET, vaBLANKET⟩ := exa_v nw0
  have SABLANKET := Sta.start (C := "com/example/vouch/vouch/core/Answer") (n := "BLANKET") (d := "Lcom/example/vouch/vouch/core/Answer;") vaBLANKET (Or.inr ⟨(hw _ (List.mem_of_getElem? (i := 1) rfl)), (hw _ (List.mem_of_getElem? (i := 2) rfl))⟩)
  have EABLANKET := Exa.start vaBLANKET nw0
  obtain ⟨mBLANKET, vmBLANKET⟩ := exa_v nw1
  have EMBLANKET := Exa.start vmBLANKET nw1
  have FMBLANKET := Fld.start ((fld_at vaBLANKET).symm.trans (own_eqR nw2 vmBLANKET))
  obtain ⟨kBLANKET, vkBLANKET⟩ := exa_v nw3
  have FKBLANKET := Fld.start ((fld_at vmBLANKET).symm.trans vkBLANKET)
  have EKBLANKET := Exa.start vkBLANKET nw3
  have FCBLANKET := Fld.start ((fld_at vkBLANKET).symm.trans (own_eqI nw4 (Term.int_eval _)))
  obtain ⟨bBLANKET, vbBLANKET⟩ := own_arr_v nw5
  have FVBLANKET := Fld.start ((fld_at vkBLANKET).symm.trans vbBLANKET)
  have ABBLANKET := own_AB (l := [98, 108, 97, 110, 107, 101, 116]) (z := 7) vbBLANKET nw5 (own_eqI nw6 (Term.int_eval _)) (by decide) (fun k hk => match k, hk with | 0, _ => own_eqI nw23 (Term.int_eval _) | 1, _ => own_eqI nw24 (Term.int_eval _) | 2, _ => own_eqI nw25 (Term.int_eval _) | 3, _ => own_eqI nw26 (Term.int_eval _) | 4, _ => own_eqI nw27 (Term.int_eval _) | 5, _ => own_eqI nw28 (Term.int_eval _) | 6, _ => own_eqI nw29 (Term.int_eval _) | (n+7), hk => absurd hk (by simp))
  obtain ⟨aONESHOT, vaONESHOT⟩ := exa_v nw9
  have SAONESHOT := Sta.start (C := "com/example/vouch/vouch/core/Answer") (n := "ONESHOT") (d := "Lcom/example/vouch/vouch/core/Answer;") vaONESHOT (Or.inr ⟨(hw _ (List.mem_of_getElem? (i := 1) rfl)), (hw _ (List.mem_of_getElem? (i := 46) rfl))⟩)
  have EAONESHOT := Exa.start vaONESHOT nw9
  obtain ⟨mONESHOT, vmONESHOT⟩ := exa_v nw10
  have EMONESHOT := Exa.start vmONESHOT nw10
  have FMONESHOT := Fld.start ((fld_at vaONESHOT).symm.trans (own_eqR nw11 vmONESHOT))
  obtain ⟨kONESHOT, vkONESHOT⟩ := exa_v nw12
  have FKONESHOT := Fld.start ((fld_at vmONESHOT).symm.trans vkONESHOT)
  have EKONESHOT := Exa.start vkONESHOT nw12
  have FCONESHOT := Fld.start ((fld_at vkONESHOT).symm.trans (own_eqI nw13 (Term.int_eval _)))
  obtain ⟨bONESHOT, vbONESHOT⟩ := own_arr_v nw14
  have FVONESHOT := Fld.start ((fld_at vkONESHOT).symm.trans vbONESHOT)
  have ABONESHOT := own_AB (l := [111, 110, 101, 115, 104, 111, 116]) (z := 7) vbONESHOT nw14 (own_eqI nw15 (Term.int_eval _)) (by decide) (fun k hk => match k, hk with | 0, _ => own_eqI nw30 (Term.int_eval _) | 1, _ => own_eqI nw31 (Term.int_eval _) | 2, _ => own_eqI nw32 (Term.int_eval _) | 3, _ => own_eqI nw33 (Term.int_eval _) | 4, _ => own_eqI nw34 (Term.int_eval _) | 5, _ => own_eqI nw35 (Term.int_eval _) | 6, _ => own_eqI nw36 (Term.int_eval _) | (n+7), hk => absurd hk (by simp))
  obtain ⟨aSESSION, vaSESSION⟩ := exa_v nw16
  have SASESSION := Sta.start (C := "com/example/vouch/vouch/core/Answer") (n := "SESSION") (d := "Lcom/example/vouch/vouch/core/Answer;") vaSESSION (Or.inr ⟨(hw _ (List.mem_of_getElem? (i := 1) rfl)), (hw _ (List.mem_of_getElem? (i := 50) rfl))⟩)
  have EASESSION := Exa.start vaSESSION nw16
  obtain ⟨mSESSION, vmSESSION⟩ := exa_v nw17
  have EMSESSION := Exa.start vmSESSION nw17
  have FMSESSION := Fld.start ((fld_at vaSESSION).symm.trans (own_eqR nw18 vmSESSION))
  obtain ⟨kSESSION, vkSESSION⟩ := exa_v nw19
  have FKSESSION := Fld.start ((fld_at vmSESSION).symm.trans vkSESSION)
  have EKSESSION := Exa.start vkSESSION nw19
  have FCSESSION := Fld.start ((fld_at vkSESSION).symm.trans (own_eqI nw20 (Term.int_eval _)))
  obtain ⟨bSESSION, vbSESSION⟩ := own_arr_v nw21
  have FVSESSION := Fld.start ((fld_at vkSESSION).symm.trans vbSESSION)
  have ABSESSION := own_AB (l := [115, 101, 115, 115, 105, 111, 110]) (z := 7) vbSESSION nw21 (own_eqI nw22 (Term.int_eval _)) (by decide) (fun k hk => match k, hk with | 0, _ => own_eqI nw37 (Term.int_eval _) | 1, _ => own_eqI nw38 (Term.int_eval _) | 2, _ => own_eqI nw39 (Term.int_eval _) | 3, _ => own_eqI nw40 (Term.int_eval _) | 4, _ => own_eqI nw41 (Term.int_eval _) | 5, _ => own_eqI nw42 (Term.int_eval _) | 6, _ => own_eqI nw43 (Term.int_eval _) | (n+7), hk => absurd hk (by simp))
  obtain ⟨aDENY, vaDENY⟩ := exa_v nw7
  have SADENY := Sta.start (C := "com/example/vouch/vouch/core/Answer") (n := "DENY") (d := "Lcom/example/vouch/vouch/core/Answer;") vaDENY (Or.inr ⟨(hw _ (List.mem_of_getElem? (i := 1) rfl)), (hw _ (List.mem_of_getElem? (i := 42) rfl))⟩)
  have EADENY := Exa.start vaDENY nw7
  have FMDENY := Fld.start ((fld_at vaDENY).symm.trans (null_v nw8))
  obtain ⟨j0, j1⟩ := and_e (Cond.before_iff.mp (show rest_1_c.before _ s = true from hrest))
  obtain ⟨j2, j3⟩ := and_e j1
  obtain ⟨j4, -⟩ := and_e j3
  obtain ⟨cz, vcz⟩ := is_v j2
  have hcz : cz ≠ 0 := own_ne0 j4 vcz
  have SC := Sta.start vcz (Or.inl (Cond.before_iff.mpr j0))
  have hCH := CHv.start (own_EW hw _) (fun p hp => hcalls.1 p hp) (Cond.before_iff.mpr j4) (hw _ (List.mem_of_getElem? (i := 6) rfl)) (hw _ (List.mem_of_getElem? (i := 5) rfl))
  obtain ⟨n, o, h1, h2, h3, _, L, rfl, ⟨rfl, N⟩, -, hq⟩ := own_law l s _ hw tables_1 s.heap.size s.heap (Nat.le_refl _) i0 cz hcz SC aBLANKET mBLANKET kBLANKET bBLANKET SABLANKET EABLANKET FMBLANKET EMBLANKET FKBLANKET EKBLANKET FCBLANKET FVBLANKET ABBLANKET aSESSION mSESSION kSESSION bSESSION SASESSION EASESSION FMSESSION EMSESSION FKSESSION EKSESSION FCSESSION FVSESSION ABSESSION aONESHOT mONESHOT kONESHOT bONESHOT SAONESHOT EAONESHOT FMONESHOT EMONESHOT FKONESHOT EKONESHOT FCONESHOT FVONESHOT ABONESHOT aDENY SADENY EADENY FMDENY p e ha hc hk s m _ below hf ((Spec.applies_iff_loose hf).mp happ).1 ⟨rfl, State.Warmed39.refl s, rfl, hCH⟩ trivial
  refine ⟨n, _, h1, h2, h3, hpost _ _ _ _ _ _ ⟨Cond.after_iff.mpr rfl, Cond.after_iff.mpr (eq_i res_at (Term.int_eval (1)) rfl), trivial⟩ ⟨hq.1, hq.2.1, hq.2.2.1, (hq.2.2.2.sift fun y hy => Or.inr (N y hy)).mono (by decide) (by decide)⟩⟩
theorem main_1_1 : Claimed_1_1 := comes_1 fun _ _ _ _ _ _ h hF => ⟨h.1, hF⟩
theorem main_1_2 : Claimed_1_2 := comes_1 fun _ _ _ _ _ _ h hF => ⟨h.2.1, hF⟩
end Jvm.Pilot.@@N@@
namespace Jvm.Pilot.@@N@@
open Jvm Jvm.ClassFile Sem Op Lib Jvm.Free Jvm.Stand Jvm.Pilot.@@N@@.Jvm.D
/-! MADE BY PROGRAM (witnessworld.py) out of the Statement's table words and the real class files: 19 classes; the members and pool entries that the words name. The judged class is class 1, her method 1. -/
namespace start1
open Jvm.ClassFile
def u (s : String) : CpInfo := .utf8 (stringToUtf16 s)
/-- a pool by its gaps: so many unusable entries, then the entry; so many at the end -/
def gap : Nat → List CpInfo → List CpInfo
  | 0, r => r
  | n + 1, r => .unusable :: gap n r
def poolList (es : List (Nat × CpInfo)) (last : Nat) : List CpInfo := es.foldr (fun e r => gap e.1 (e.2 :: r)) (gap last [])
def pool (es : List (Nat × CpInfo)) (last : Nat) : Array CpInfo := ⟨poolList es last⟩
def fileOf (pool : Array CpInfo) (this : Nat) (attrs : Array Attribute := #[]) (ms : Array MethodInfo := #[]) (fl : Nat := 33) (sup : Nat := 0) (ifs : Array Nat := #[]) (fds : Array FieldInfo := #[]) : ClassFile where
  minorVersion := 0
  majorVersion := 65
  constantPool := pool
  accessFlags := fl
  thisClass := this
  superClass := sup
  interfaces := ifs
  fields := fds
  methods := ms
  attributes := attrs
def plain (name : String) (sup : Option ClassId) : Class where
  name := name
  kind := .ordinary
  loader := none
  accessFlags := 33
  super := sup
  interfaces := #[]
  cf := none
  fields := #[]
  methods := #[]
  instanceTypes := #[]
  staticTypes := #[]
  resolved := #[]
  callSites := []
  init := .initialized
  statics := none
  mirror := none

def pool0 : Array CpInfo := pool [(5, u "<init>"), (0, u "()V"), (1, .class_ 10), (1, u "java/lang/Object")] 113

def k0m0 : Method := { name := "<init>", desc := "()V", sig := { parameters := [], returnType := none }, accessFlags := 1, code := none }
/-- java/lang/Object -/
def k0 : Class := { plain "java/lang/Object" none with
  accessFlags := 33
  interfaces := #[]
  cf := some (fileOf pool0 8 #[] #[{ accessFlags := 1, nameIndex := 5, descriptorIndex := 6, attributes := #[] }] 33 0 #[] #[])
  fields := #[]
  methods := #[k0m0]
  instanceTypes := #[]
  staticTypes := #[]
  resolved := Array.replicate 124 none
  statics := none }

def pool1 : Array CpInfo := pool [(2, .class_ 4), (1, u "java/lang/Object"), (0, u "<init>"), (0, u "()V"), (0, .fieldref 8 9), (0, .class_ 10), (0, .nameAndType 11 12), (0, u "com/example/vouch/vouch/core/Answer"), (0, u "BLANKET"), (0, u "Lcom/example/vouch/vouch/core/Answer;"), (0, .string 14), (0, u "blanket"), (0, .fieldref 8 16), (0, .nameAndType 17 12), (0, u "SESSION"), (0, .string 19), (0, u "session"), (0, .fieldref 8 21), (0, .nameAndType 22 12), (0, u "ONESHOT"), (0, .string 24), (0, u "oneshot"), (0, .fieldref 8 26), (0, .nameAndType 27 12), (0, u "DENY"), (0, .string 29), (0, u "deny"), (0, .methodref 8 31), (0, .nameAndType 32 33), (0, u "keyword"), (0, u "()Ljava/lang/String;"), (0, .methodref 35 36), (0, .class_ 37), (0, .nameAndType 38 39), (0, u "java/lang/String"), (0, u "equals"), (0, u "(Ljava/lang/Object;)Z"), (0, .class_ 41), (0, u "com/example/vouch/vouch/core/AnswerKeywordPinLaw"), (2, u "law"), (0, u "(I)Z")] 3

def k1m0 : Method := { name := "<init>", desc := "()V", sig := { parameters := [], returnType := none }, accessFlags := 2, code := none }
def k1c1 : Code := { maxStack := 2, maxLocals := 5, code := code, exceptionTable := #[], attributes := #[] }
def k1m1 : Method := { name := "law", desc := "(I)Z", sig := { parameters := [.int], returnType := some .boolean }, accessFlags := 9, code := some k1c1 }
/-- com/example/vouch/vouch/core/AnswerKeywordPinLaw -/
def k1 : Class := { plain "com/example/vouch/vouch/core/AnswerKeywordPinLaw" (some 0) with
  accessFlags := 49
  interfaces := #[]
  cf := some (fileOf pool1 40 #[] #[{ accessFlags := 2, nameIndex := 5, descriptorIndex := 6, attributes := #[] }, { accessFlags := 9, nameIndex := 44, descriptorIndex := 45, attributes := #[] }] 49 2 #[] #[])
  fields := #[]
  methods := #[k1m0, k1m1]
  instanceTypes := #[]
  staticTypes := #[]
  resolved := Array.replicate 49 none
  statics := none }

def pool2 : Array CpInfo := pool [(1, .class_ 2), (0, u "java/lang/constant/Constable"), (0, .class_ 4), (0, u "java/lang/Object")] 6

/-- java/lang/constant/Constable -/
def k2 : Class := { plain "java/lang/constant/Constable" (some 0) with
  accessFlags := 1537
  interfaces := #[]
  cf := some (fileOf pool2 1 #[] #[] 1537 3 #[] #[])
  fields := #[]
  methods := #[]
  instanceTypes := #[]
  staticTypes := #[]
  resolved := Array.replicate 11 none
  statics := none }

def pool3 : Array CpInfo := pool [(1, .class_ 2), (0, u "java/lang/Comparable"), (0, .class_ 4), (0, u "java/lang/Object")] 7

/-- java/lang/Comparable -/
def k3 : Class := { plain "java/lang/Comparable" (some 0) with
  accessFlags := 1537
  interfaces := #[]
  cf := some (fileOf pool3 1 #[] #[] 1537 3 #[] #[])
  fields := #[]
  methods := #[]
  instanceTypes := #[]
  staticTypes := #[]
  resolved := Array.replicate 12 none
  statics := none }

def pool4 : Array CpInfo := pool [(1, .class_ 2), (0, u "java/io/Serializable"), (0, .class_ 4), (0, u "java/lang/Object")] 2

/-- java/io/Serializable -/
def k4 : Class := { plain "java/io/Serializable" (some 0) with
  accessFlags := 1537
  interfaces := #[]
  cf := some (fileOf pool4 1 #[] #[] 1537 3 #[] #[])
  fields := #[]
  methods := #[]
  instanceTypes := #[]
  staticTypes := #[]
  resolved := Array.replicate 7 none
  statics := none }

def pool5 : Array CpInfo := pool [(2, .class_ 4), (1, u "java/lang/Enum"), (0, u "name"), (0, u "Ljava/lang/String;"), (2, u "ordinal"), (0, u "I"), (1, .class_ 14), (1, u "java/lang/Object"), (4, u "hash"), (86, .class_ 108), (1, u "java/lang/Enum$EnumDesc"), (2, .class_ 112), (0, u "java/lang/constant/Constable"), (0, .class_ 114), (0, u "java/lang/Comparable"), (0, .class_ 116), (0, u "java/io/Serializable")] 87

/-- java/lang/Enum -/
def k5 : Class := { plain "java/lang/Enum" (some 0) with
  accessFlags := 1057
  interfaces := #[2, 3, 4]
  cf := some (fileOf pool5 2 #[.nestMembers #[106]] #[] 1057 12 #[111, 113, 115] #[{ accessFlags := 18, nameIndex := 5, descriptorIndex := 6, attributes := #[] }, { accessFlags := 18, nameIndex := 9, descriptorIndex := 10, attributes := #[] }, { accessFlags := 2, nameIndex := 19, descriptorIndex := 10, attributes := #[] }])
  fields := #[{ name := "name", type := (.object "java/lang/String"), accessFlags := 18, slot := 0, constantValue := 0 }, { name := "ordinal", type := .int, accessFlags := 18, slot := 1, constantValue := 0 }, { name := "hash", type := .int, accessFlags := 2, slot := 2, constantValue := 0 }]
  methods := #[]
  instanceTypes := #[(.object "java/lang/String"), .int, .int]
  staticTypes := #[]
  resolved := Array.replicate 204 none
  statics := none }

def pool6 : Array CpInfo := pool [(1, .class_ 2), (0, u "com/example/vouch/vouch/core/Answer"), (2, u "BLANKET"), (0, u "Lcom/example/vouch/vouch/core/Answer;"), (2, u "SESSION"), (2, u "ONESHOT"), (2, u "DENY"), (2, u "$VALUES"), (0, u "[Lcom/example/vouch/vouch/core/Answer;"), (6, .class_ 28), (1, u "java/lang/Enum"), (6, .fieldref 1 36), (0, .nameAndType 37 38), (0, u "mode"), (0, u "Lcom/example/vouch/vouch/core/InteractionMode;"), (17, .nameAndType 57 58), (0, u "keyword"), (0, u "()Ljava/lang/String;"), (19, .string 79), (0, u "deny"), (0, .methodref 81 56), (0, .class_ 82), (0, u "com/example/vouch/vouch/core/InteractionMode"), (16, u "DENY_KEYWORD"), (0, u "Ljava/lang/String;")] 19

def k6c0 : Code := { maxStack := 1, maxLocals := 1, code := prog_7_method_7_code, exceptionTable := #[], attributes := #[] }
def k6m0 : Method := { name := "keyword", desc := "()Ljava/lang/String;", sig := { parameters := [], returnType := some (.object "java/lang/String") }, accessFlags := 1, code := some k6c0 }
/-- com/example/vouch/vouch/core/Answer -/
def k6 : Class := { plain "com/example/vouch/vouch/core/Answer" (some 5) with
  accessFlags := 16433
  interfaces := #[]
  cf := some (fileOf pool6 1 #[] #[{ accessFlags := 1, nameIndex := 57, descriptorIndex := 58, attributes := #[] }] 16433 26 #[] #[{ accessFlags := 16409, nameIndex := 5, descriptorIndex := 6, attributes := #[] }, { accessFlags := 16409, nameIndex := 9, descriptorIndex := 6, attributes := #[] }, { accessFlags := 16409, nameIndex := 12, descriptorIndex := 6, attributes := #[] }, { accessFlags := 16409, nameIndex := 15, descriptorIndex := 6, attributes := #[] }, { accessFlags := 26, nameIndex := 99, descriptorIndex := 100, attributes := #[] }, { accessFlags := 18, nameIndex := 37, descriptorIndex := 38, attributes := #[] }, { accessFlags := 4122, nameIndex := 18, descriptorIndex := 19, attributes := #[] }])
  fields := #[{ name := "BLANKET", type := (.object "com/example/vouch/vouch/core/Answer"), accessFlags := 16409, slot := 0, constantValue := 0 }, { name := "SESSION", type := (.object "com/example/vouch/vouch/core/Answer"), accessFlags := 16409, slot := 1, constantValue := 0 }, { name := "ONESHOT", type := (.object "com/example/vouch/vouch/core/Answer"), accessFlags := 16409, slot := 2, constantValue := 0 }, { name := "DENY", type := (.object "com/example/vouch/vouch/core/Answer"), accessFlags := 16409, slot := 3, constantValue := 0 }, { name := "DENY_KEYWORD", type := (.object "java/lang/String"), accessFlags := 26, slot := 4, constantValue := 0 }, { name := "mode", type := (.object "com/example/vouch/vouch/core/InteractionMode"), accessFlags := 18, slot := 3, constantValue := 0 }, { name := "$VALUES", type := (.array (.object "com/example/vouch/vouch/core/Answer")), accessFlags := 4122, slot := 5, constantValue := 0 }]
  methods := #[k6m0]
  instanceTypes := #[(.object "java/lang/String"), .int, .int, (.object "com/example/vouch/vouch/core/InteractionMode")]
  staticTypes := #[(.object "com/example/vouch/vouch/core/Answer"), (.object "com/example/vouch/vouch/core/Answer"), (.object "com/example/vouch/vouch/core/Answer"), (.object "com/example/vouch/vouch/core/Answer"), (.object "java/lang/String"), (.array (.object "com/example/vouch/vouch/core/Answer"))]
  resolved := Array.replicate 120 none
  statics := some 0 }

def pool7 : Array CpInfo := pool [(2, .class_ 4), (1, u "java/lang/CharSequence"), (42, .class_ 48), (0, u "java/lang/CharSequence$1CodePointIterator"), (10, .class_ 60), (0, u "java/lang/CharSequence$1CharIterator"), (5, .class_ 67), (0, u "java/lang/Object")] 63

/-- java/lang/CharSequence -/
def k7 : Class := { plain "java/lang/CharSequence" (some 0) with
  accessFlags := 1537
  interfaces := #[]
  cf := some (fileOf pool7 2 #[.nestMembers #[47, 59]] #[] 1537 66 #[] #[])
  fields := #[]
  methods := #[]
  instanceTypes := #[]
  staticTypes := #[]
  resolved := Array.replicate 131 none
  statics := none }

def pool8 : Array CpInfo := pool [(1, .class_ 2), (0, u "java/lang/constant/ConstantDesc"), (0, .class_ 4), (0, u "java/lang/Object")] 32

/-- java/lang/constant/ConstantDesc -/
def k8 : Class := { plain "java/lang/constant/ConstantDesc" (some 0) with
  accessFlags := 1537
  interfaces := #[]
  cf := some (fileOf pool8 1 #[] #[] 1537 3 #[] #[])
  fields := #[]
  methods := #[]
  instanceTypes := #[]
  staticTypes := #[]
  resolved := Array.replicate 37 none
  statics := none }

def pool9 : Array CpInfo := pool [(2, .class_ 4), (1, u "java/lang/Object"), (0, u "<init>"), (0, u "()V"), (2, .fieldref 10 11), (0, .class_ 12), (0, .nameAndType 13 14), (0, u "java/lang/String"), (0, u "value"), (0, u "[B"), (0, .fieldref 10 16), (0, .nameAndType 17 18), (0, u "coder"), (0, u "B"), (2, u "hash"), (0, u "I"), (2, u "hashIsZero"), (0, u "Z"), (11, .fieldref 10 39), (0, .nameAndType 40 26), (0, u "COMPACT_STRINGS"), (66, .class_ 109), (1, u "java/lang/StringLatin1"), (431, .methodref 107 542), (0, .nameAndType 543 544), (0, u "equals"), (0, u "([B[B)Z"), (28, u "(Ljava/lang/Object;)Z"), (1, .class_ 576), (0, u "java/lang/CharSequence"), (22, u "CASE_INSENSITIVE_ORDER"), (0, u "Ljava/util/Comparator;"), (500, u "serialPersistentFields"), (0, u "[Ljava/io/ObjectStreamField;"), (0, .class_ 1104), (0, u "java/lang/String$CaseInsensitiveComparator"), (1, .class_ 1107), (0, u "java/io/Serializable"), (0, .class_ 1109), (0, u "java/lang/Comparable"), (0, .class_ 1111), (0, u "java/lang/constant/Constable"), (0, .class_ 1113), (0, u "java/lang/constant/ConstantDesc"), (2, u "serialVersionUID"), (0, u "J"), (3, u "REPL"), (0, u "C"), (2, u "LATIN1"), (1, u "UTF16")] 323

def k9m0 : Method := { name := "<init>", desc := "()V", sig := { parameters := [], returnType := none }, accessFlags := 1, code := none }
def k9c1 : Code := { maxStack := 2, maxLocals := 3, code := jdk_42_method_66_code, exceptionTable := #[], attributes := #[] }
def k9m1 : Method := { name := "equals", desc := "(Ljava/lang/Object;)Z", sig := { parameters := [(.object "java/lang/Object")], returnType := some .boolean }, accessFlags := 1, code := some k9c1 }
/-- java/lang/String -/
def k9 : Class := { plain "java/lang/String" (some 0) with
  accessFlags := 49
  interfaces := #[4, 3, 7, 2, 8]
  cf := some (fileOf pool9 10 #[.nestMembers #[1103]] #[{ accessFlags := 1, nameIndex := 5, descriptorIndex := 6, attributes := #[] }, { accessFlags := 1, nameIndex := 543, descriptorIndex := 573, attributes := #[] }] 49 2 #[1106, 1108, 575, 1110, 1112] #[{ accessFlags := 18, nameIndex := 13, descriptorIndex := 14, attributes := #[] }, { accessFlags := 18, nameIndex := 17, descriptorIndex := 18, attributes := #[] }, { accessFlags := 2, nameIndex := 21, descriptorIndex := 22, attributes := #[] }, { accessFlags := 2, nameIndex := 25, descriptorIndex := 26, attributes := #[] }, { accessFlags := 26, nameIndex := 1116, descriptorIndex := 1117, attributes := #[] }, { accessFlags := 24, nameIndex := 40, descriptorIndex := 26, attributes := #[] }, { accessFlags := 26, nameIndex := 1101, descriptorIndex := 1102, attributes := #[] }, { accessFlags := 26, nameIndex := 1121, descriptorIndex := 1122, attributes := #[] }, { accessFlags := 25, nameIndex := 599, descriptorIndex := 600, attributes := #[] }, { accessFlags := 24, nameIndex := 1125, descriptorIndex := 18, attributes := #[] }, { accessFlags := 24, nameIndex := 1127, descriptorIndex := 18, attributes := #[] }])
  fields := #[{ name := "value", type := (.array .byte), accessFlags := 18, slot := 0, constantValue := 0 }, { name := "coder", type := .byte, accessFlags := 18, slot := 1, constantValue := 0 }, { name := "hash", type := .int, accessFlags := 2, slot := 2, constantValue := 0 }, { name := "hashIsZero", type := .boolean, accessFlags := 2, slot := 3, constantValue := 0 }, { name := "serialVersionUID", type := .long, accessFlags := 26, slot := 0, constantValue := 0 }, { name := "COMPACT_STRINGS", type := .boolean, accessFlags := 24, slot := 1, constantValue := 0 }, { name := "serialPersistentFields", type := (.array (.object "java/io/ObjectStreamField")), accessFlags := 26, slot := 2, constantValue := 0 }, { name := "REPL", type := .char, accessFlags := 26, slot := 3, constantValue := 0 }, { name := "CASE_INSENSITIVE_ORDER", type := (.object "java/util/Comparator"), accessFlags := 25, slot := 4, constantValue := 0 }, { name := "LATIN1", type := .byte, accessFlags := 24, slot := 5, constantValue := 0 }, { name := "UTF16", type := .byte, accessFlags := 24, slot := 6, constantValue := 0 }]
  methods := #[k9m0, k9m1]
  instanceTypes := #[(.array .byte), .byte, .int, .boolean]
  staticTypes := #[.long, .boolean, (.array (.object "java/io/ObjectStreamField")), .char, (.object "java/util/Comparator"), .byte, .byte]
  resolved := Array.replicate 1451 none
  statics := some 1 }

def pool10 : Array CpInfo := pool [(1, .class_ 2), (0, u "com/example/vouch/vouch/core/InteractionMode"), (2, u "ONESHOT"), (0, u "Lcom/example/vouch/vouch/core/InteractionMode;"), (2, u "SESSION"), (2, u "BLANKET"), (2, u "$VALUES"), (0, u "[Lcom/example/vouch/vouch/core/InteractionMode;"), (6, .class_ 25), (1, u "java/lang/Enum"), (6, .fieldref 1 33), (0, .nameAndType 34 35), (0, u "keyword"), (0, u "Ljava/lang/String;"), (41, u "()Ljava/lang/String;")] 9

def k10c0 : Code := { maxStack := 1, maxLocals := 1, code := prog_21_method_4_code, exceptionTable := #[], attributes := #[] }
def k10m0 : Method := { name := "keyword", desc := "()Ljava/lang/String;", sig := { parameters := [], returnType := some (.object "java/lang/String") }, accessFlags := 1, code := some k10c0 }
/-- com/example/vouch/vouch/core/InteractionMode -/
def k10 : Class := { plain "com/example/vouch/vouch/core/InteractionMode" (some 5) with
  accessFlags := 16433
  interfaces := #[]
  cf := some (fileOf pool10 1 #[] #[{ accessFlags := 1, nameIndex := 34, descriptorIndex := 77, attributes := #[] }] 16433 23 #[] #[{ accessFlags := 16409, nameIndex := 5, descriptorIndex := 6, attributes := #[] }, { accessFlags := 16409, nameIndex := 9, descriptorIndex := 6, attributes := #[] }, { accessFlags := 16409, nameIndex := 12, descriptorIndex := 6, attributes := #[] }, { accessFlags := 18, nameIndex := 34, descriptorIndex := 35, attributes := #[] }, { accessFlags := 4122, nameIndex := 15, descriptorIndex := 16, attributes := #[] }])
  fields := #[{ name := "ONESHOT", type := (.object "com/example/vouch/vouch/core/InteractionMode"), accessFlags := 16409, slot := 0, constantValue := 0 }, { name := "SESSION", type := (.object "com/example/vouch/vouch/core/InteractionMode"), accessFlags := 16409, slot := 1, constantValue := 0 }, { name := "BLANKET", type := (.object "com/example/vouch/vouch/core/InteractionMode"), accessFlags := 16409, slot := 2, constantValue := 0 }, { name := "keyword", type := (.object "java/lang/String"), accessFlags := 18, slot := 3, constantValue := 0 }, { name := "$VALUES", type := (.array (.object "com/example/vouch/vouch/core/InteractionMode")), accessFlags := 4122, slot := 3, constantValue := 0 }]
  methods := #[k10m0]
  instanceTypes := #[(.object "java/lang/String"), .int, .int, (.object "java/lang/String")]
  staticTypes := #[(.object "com/example/vouch/vouch/core/InteractionMode"), (.object "com/example/vouch/vouch/core/InteractionMode"), (.object "com/example/vouch/vouch/core/InteractionMode"), (.array (.object "com/example/vouch/vouch/core/InteractionMode"))]
  resolved := Array.replicate 87 none
  statics := some 2 }

def pool11 : Array CpInfo := pool [(4, .class_ 6), (1, u "java/lang/Object"), (0, u "<init>"), (0, u "()V"), (5, .class_ 16), (1, u "java/lang/StringLatin1"), (104, u "$assertionsDisabled"), (0, u "Z"), (98, .class_ 223), (1, u "java/lang/StringLatin1$LinesSpliterator"), (57, u "equals"), (0, u "([B[B)Z"), (107, .class_ 391), (0, u "java/lang/StringLatin1$CharsSpliterator")] 3

def k11m0 : Method := { name := "<init>", desc := "()V", sig := { parameters := [], returnType := none }, accessFlags := 0, code := none }
def k11c1 : Code := { maxStack := 3, maxLocals := 3, code := jdk_43_method_13_code, exceptionTable := #[], attributes := #[] }
def k11m1 : Method := { name := "equals", desc := "([B[B)Z", sig := { parameters := [(.array .byte), (.array .byte)], returnType := some .boolean }, accessFlags := 9, code := some k11c1 }
/-- java/lang/StringLatin1 -/
def k11 : Class := { plain "java/lang/StringLatin1" (some 0) with
  accessFlags := 48
  interfaces := #[]
  cf := some (fileOf pool11 14 #[.nestMembers #[390, 221]] #[{ accessFlags := 0, nameIndex := 7, descriptorIndex := 8, attributes := #[] }, { accessFlags := 9, nameIndex := 281, descriptorIndex := 282, attributes := #[] }] 48 4 #[] #[{ accessFlags := 4120, nameIndex := 121, descriptorIndex := 122, attributes := #[] }])
  fields := #[{ name := "$assertionsDisabled", type := .boolean, accessFlags := 4120, slot := 0, constantValue := 0 }]
  methods := #[k11m0, k11m1]
  instanceTypes := #[]
  staticTypes := #[.boolean]
  resolved := Array.replicate 395 none
  statics := none }

def pool12 : Array CpInfo := pool [(2, .class_ 4), (1, u "java/lang/Object"), (0, u "<init>"), (0, u "()V"), (17, .class_ 26), (1, u "jdk/internal/util/Preconditions"), (28, .class_ 56), (0, u "jdk/internal/util/Preconditions$4"), (57, .class_ 115), (0, u "jdk/internal/util/Preconditions$1"), (7, u "SIOOBE_FORMATTER"), (0, u "Ljava/util/function/BiFunction;"), (0, .class_ 126), (0, u "jdk/internal/util/Preconditions$2"), (3, u "AIOOBE_FORMATTER"), (0, .class_ 132), (0, u "jdk/internal/util/Preconditions$3"), (3, u "IOOBE_FORMATTER")] 57

def k12m0 : Method := { name := "<init>", desc := "()V", sig := { parameters := [], returnType := none }, accessFlags := 1, code := none }
/-- jdk/internal/util/Preconditions -/
def k12 : Class := { plain "jdk/internal/util/Preconditions" (some 0) with
  accessFlags := 33
  interfaces := #[]
  cf := some (fileOf pool12 24 #[.nestMembers #[55, 131, 125, 114]] #[{ accessFlags := 1, nameIndex := 5, descriptorIndex := 6, attributes := #[] }] 33 2 #[] #[{ accessFlags := 25, nameIndex := 123, descriptorIndex := 124, attributes := #[] }, { accessFlags := 25, nameIndex := 130, descriptorIndex := 124, attributes := #[] }, { accessFlags := 25, nameIndex := 136, descriptorIndex := 124, attributes := #[] }])
  fields := #[{ name := "SIOOBE_FORMATTER", type := (.object "java/util/function/BiFunction"), accessFlags := 25, slot := 0, constantValue := 0 }, { name := "AIOOBE_FORMATTER", type := (.object "java/util/function/BiFunction"), accessFlags := 25, slot := 1, constantValue := 0 }, { name := "IOOBE_FORMATTER", type := (.object "java/util/function/BiFunction"), accessFlags := 25, slot := 2, constantValue := 0 }]
  methods := #[k12m0]
  instanceTypes := #[]
  staticTypes := #[(.object "java/util/function/BiFunction"), (.object "java/util/function/BiFunction"), (.object "java/util/function/BiFunction")]
  resolved := Array.replicate 194 none
  statics := some 3 }

def pool13 : Array CpInfo := pool [(9, u "<init>"), (6, .class_ 18), (1, u "java/lang/Object"), (0, u "()V"), (1, .class_ 23), (1, u "jdk/internal/util/ArraysSupport"), (0, u "LOG2_ARRAY_LONG_INDEX_SCALE"), (0, u "I"), (2, u "U"), (0, u "Ljdk/internal/misc/Unsafe;"), (8, u "BIG_ENDIAN"), (0, u "Z"), (8, u "LOG2_BYTE_BIT_SIZE"), (4, u "LOG2_ARRAY_INT_INDEX_SCALE"), (54, u "JLA"), (0, u "Ljdk/internal/access/JavaLangAccess;"), (11, u "LOG2_ARRAY_BOOLEAN_INDEX_SCALE"), (9, u "LOG2_ARRAY_BYTE_INDEX_SCALE"), (5, u "LOG2_ARRAY_CHAR_INDEX_SCALE"), (5, u "LOG2_ARRAY_SHORT_INDEX_SCALE"), (18, u "LOG2_ARRAY_FLOAT_INDEX_SCALE"), (24, u "LOG2_ARRAY_DOUBLE_INDEX_SCALE"), (89, u "T_BOOLEAN"), (2, u "T_CHAR"), (1, u "T_FLOAT"), (1, u "T_DOUBLE"), (1, u "T_BYTE"), (1, u "T_SHORT"), (1, u "T_INT"), (1, u "T_LONG"), (1, u "SOFT_MAX_ARRAY_LENGTH")] 83

def k13m0 : Method := { name := "<init>", desc := "()V", sig := { parameters := [], returnType := none }, accessFlags := 2, code := none }
/-- jdk/internal/util/ArraysSupport -/
def k13 : Class := { plain "jdk/internal/util/ArraysSupport" (some 0) with
  accessFlags := 33
  interfaces := #[]
  cf := some (fileOf pool13 21 #[] #[{ accessFlags := 2, nameIndex := 9, descriptorIndex := 19, attributes := #[] }] 33 16 #[] #[{ accessFlags := 24, nameIndex := 28, descriptorIndex := 29, attributes := #[] }, { accessFlags := 26, nameIndex := 38, descriptorIndex := 39, attributes := #[] }, { accessFlags := 25, nameIndex := 121, descriptorIndex := 25, attributes := #[] }, { accessFlags := 25, nameIndex := 131, descriptorIndex := 25, attributes := #[] }, { accessFlags := 25, nameIndex := 137, descriptorIndex := 25, attributes := #[] }, { accessFlags := 25, nameIndex := 143, descriptorIndex := 25, attributes := #[] }, { accessFlags := 25, nameIndex := 53, descriptorIndex := 25, attributes := #[] }, { accessFlags := 25, nameIndex := 24, descriptorIndex := 25, attributes := #[] }, { accessFlags := 25, nameIndex := 162, descriptorIndex := 25, attributes := #[] }, { accessFlags := 25, nameIndex := 187, descriptorIndex := 25, attributes := #[] }, { accessFlags := 26, nameIndex := 48, descriptorIndex := 25, attributes := #[] }, { accessFlags := 25, nameIndex := 277, descriptorIndex := 25, attributes := #[] }, { accessFlags := 25, nameIndex := 280, descriptorIndex := 25, attributes := #[] }, { accessFlags := 25, nameIndex := 282, descriptorIndex := 25, attributes := #[] }, { accessFlags := 25, nameIndex := 284, descriptorIndex := 25, attributes := #[] }, { accessFlags := 25, nameIndex := 286, descriptorIndex := 25, attributes := #[] }, { accessFlags := 25, nameIndex := 288, descriptorIndex := 25, attributes := #[] }, { accessFlags := 25, nameIndex := 290, descriptorIndex := 25, attributes := #[] }, { accessFlags := 25, nameIndex := 292, descriptorIndex := 25, attributes := #[] }, { accessFlags := 26, nameIndex := 108, descriptorIndex := 109, attributes := #[] }, { accessFlags := 25, nameIndex := 294, descriptorIndex := 25, attributes := #[] }])
  fields := #[{ name := "U", type := (.object "jdk/internal/misc/Unsafe"), accessFlags := 24, slot := 0, constantValue := 0 }, { name := "BIG_ENDIAN", type := .boolean, accessFlags := 26, slot := 1, constantValue := 0 }, { name := "LOG2_ARRAY_BOOLEAN_INDEX_SCALE", type := .int, accessFlags := 25, slot := 2, constantValue := 0 }, { name := "LOG2_ARRAY_BYTE_INDEX_SCALE", type := .int, accessFlags := 25, slot := 3, constantValue := 0 }, { name := "LOG2_ARRAY_CHAR_INDEX_SCALE", type := .int, accessFlags := 25, slot := 4, constantValue := 0 }, { name := "LOG2_ARRAY_SHORT_INDEX_SCALE", type := .int, accessFlags := 25, slot := 5, constantValue := 0 }, { name := "LOG2_ARRAY_INT_INDEX_SCALE", type := .int, accessFlags := 25, slot := 6, constantValue := 0 }, { name := "LOG2_ARRAY_LONG_INDEX_SCALE", type := .int, accessFlags := 25, slot := 7, constantValue := 0 }, { name := "LOG2_ARRAY_FLOAT_INDEX_SCALE", type := .int, accessFlags := 25, slot := 8, constantValue := 0 }, { name := "LOG2_ARRAY_DOUBLE_INDEX_SCALE", type := .int, accessFlags := 25, slot := 9, constantValue := 0 }, { name := "LOG2_BYTE_BIT_SIZE", type := .int, accessFlags := 26, slot := 10, constantValue := 0 }, { name := "T_BOOLEAN", type := .int, accessFlags := 25, slot := 11, constantValue := 0 }, { name := "T_CHAR", type := .int, accessFlags := 25, slot := 12, constantValue := 0 }, { name := "T_FLOAT", type := .int, accessFlags := 25, slot := 13, constantValue := 0 }, { name := "T_DOUBLE", type := .int, accessFlags := 25, slot := 14, constantValue := 0 }, { name := "T_BYTE", type := .int, accessFlags := 25, slot := 15, constantValue := 0 }, { name := "T_SHORT", type := .int, accessFlags := 25, slot := 16, constantValue := 0 }, { name := "T_INT", type := .int, accessFlags := 25, slot := 17, constantValue := 0 }, { name := "T_LONG", type := .int, accessFlags := 25, slot := 18, constantValue := 0 }, { name := "JLA", type := (.object "jdk/internal/access/JavaLangAccess"), accessFlags := 26, slot := 19, constantValue := 0 }, { name := "SOFT_MAX_ARRAY_LENGTH", type := .int, accessFlags := 25, slot := 20, constantValue := 0 }]
  methods := #[k13m0]
  instanceTypes := #[]
  staticTypes := #[(.object "jdk/internal/misc/Unsafe"), .boolean, .int, .int, .int, .int, .int, .int, .int, .int, .int, .int, .int, .int, .int, .int, .int, .int, .int, (.object "jdk/internal/access/JavaLangAccess"), .int]
  resolved := Array.replicate 378 none
  statics := none }

def pool14 : Array CpInfo := pool [(1, u "java/lang/Cloneable"), (0, .class_ 1), (0, u "java/lang/Object"), (0, .class_ 3)] 3

/-- java/lang/Cloneable -/
def k14 : Class := { plain "java/lang/Cloneable" (some 0) with
  accessFlags := 1537
  interfaces := #[]
  cf := some (fileOf pool14 2 #[] #[] 1537 4 #[] #[])
  fields := #[]
  methods := #[]
  instanceTypes := #[]
  staticTypes := #[]
  resolved := Array.replicate 8 none
  statics := none }

/-- the primitive byte -/
def k15 : Class := { plain "byte" none with kind := .primitive 'B', accessFlags := 0x411 }
/-- [B -/
def k16 : Class := { plain "[B" (some 0) with kind := .array 15 .byte, interfaces := #[14, 4], accessFlags := 1041 }

/-- the primitive int -/
def k17 : Class := { plain "int" none with kind := .primitive 'I', accessFlags := 0x411 }
/-- [I -/
def k18 : Class := { plain "[I" (some 0) with kind := .array 17 .int, interfaces := #[14, 4], accessFlags := 1041 }

def heap : Heap := #[{ cls := 6, slots := #[.ref 13, .ref 14, .ref 15, .ref 16, .null, .null], vm := .statics 6 },
  { cls := 9, slots := #[.long 0, .int 1, .null, .int 0, .null, .int 0, .int 0], vm := .statics 9 },
  { cls := 10, slots := #[.ref 12, .ref 11, .ref 10, .null], vm := .statics 10 },
  { cls := 12, slots := #[.null, .null, .null], vm := .statics 12 },
  { cls := 16, slots := #[.int 98, .int 108, .int 97, .int 110, .int 107, .int 101, .int 116], vm := .none },
  { cls := 16, slots := #[.int 115, .int 101, .int 115, .int 115, .int 105, .int 111, .int 110], vm := .none },
  { cls := 16, slots := #[.int 111, .int 110, .int 101, .int 115, .int 104, .int 111, .int 116], vm := .none },
  { cls := 9, slots := #[.ref 4, .int 0, .int 0, .int 0], vm := .none },
  { cls := 9, slots := #[.ref 5, .int 0, .int 0, .int 0], vm := .none },
  { cls := 9, slots := #[.ref 6, .int 0, .int 0, .int 0], vm := .none },
  { cls := 10, slots := #[.null, .int 0, .int 0, .ref 7], vm := .none },
  { cls := 10, slots := #[.null, .int 0, .int 0, .ref 8], vm := .none },
  { cls := 10, slots := #[.null, .int 0, .int 0, .ref 9], vm := .none },
  { cls := 6, slots := #[.null, .int 0, .int 0, .ref 10], vm := .none },
  { cls := 6, slots := #[.null, .int 0, .int 0, .ref 11], vm := .none },
  { cls := 6, slots := #[.null, .int 0, .int 0, .ref 12], vm := .none },
  { cls := 6, slots := #[.null, .int 0, .int 0, .null], vm := .none }]
def classes : Array Class := #[k0, k1, k2, k3, k4, k5, k6, k7, k8, k9, k10, k11, k12, k13, k14, k15, k16, k17, k18]
def interned : List (Array UInt16 × Addr) := []
def slotsUsed : Nat := 81
def theMethod : MethodId := ⟨1, 1⟩
def args0 : Array Value := #[.int 1]
def aboutOver (below : List Frame) : State where
  vm := { classes := classes, interned := interned.toArray }
  heap := heap
  slotsUsed := slotsUsed
  threads := #[{ frames := .invoking theMethod args0 :: below }]
def below0 : List Frame := [.native { method := ⟨0, 0⟩, args := #[] }]
def about1 : State := aboutOver below0
def p0 : Program := .bare "" "" ""
def e0 : Env := launch0.env 0 0 0
theorem w_frames : about1.frames = Frame.invoking theMethod args0 :: below0 := rfl
set_option maxRecDepth 65536 in
theorem w_args : argsFit about1.vm theMethod args0 = true := by decide +kernel
set_option maxRecDepth 65536 in
theorem w_heap : heapFits about1 = true := by decide +kernel
set_option maxRecDepth 65536 in
theorem w_runnable : about1.curStatus? = some .runnable := by decide +kernel
set_option maxRecDepth 65536 in
theorem w_alone : about1.alone = true := by decide +kernel
set_option maxRecDepth 65536 in
theorem w_named : about1.methodNamed? x = some theMethod := by decide +kernel
set_option maxRecDepth 65536 in
theorem w_hears : about1.hears theMethod below0 = true := by decide +kernel
set_option maxRecDepth 65536 in
theorem w_ripe : about1.ripe theMethod args0 below0 = true := by decide +kernel
theorem w_running : about1.status = .running := rfl
set_option maxRecDepth 65536 in
theorem w_room : about1.hasRoom e0.platform room_1 = true :=
  launch0.hasRoom_least _ room_1 (by decide +kernel) (by decide +kernel) (by decide +kernel) (by decide +kernel) (by decide +kernel) (by decide +kernel)
theorem allAtoms_all (ts : List Jvm.Cond) (a : Array Jvm.Value) (st : Jvm.State) : (allAtoms ts).before a st = ts.all (fun c => c.before a st) := by
  induction ts with
  | nil => rfl
  | cons c t ih =>
    show (Jvm.Cond.and c (allAtoms t)).before a st = _
    rw [Jvm.Cond.before_and, ih, List.all_cons]
def words1 : List Jvm.Cond := Jvm.Cond.code x code maxLocals ret :: tables_1
/-- a 'code' word, met by the world's own term for the bytes: nothing is compared byte by byte -/
theorem code_word {y : MethodName} {bytes : ByteArray} {mx : Nat} {rt : Option FieldType} {a : Array Value} {s : State} {m : MethodId} {meth : Method} {c : Code} (h1 : s.methodNamed? y = some m) (h2 : s.vm.method? m = some meth) (h3 : meth.code = some c) (h4 : c.code = bytes)
    (h5 : (c.maxLocals == mx && c.exceptionTable.isEmpty && decide (c.maxStack ≤ mostOperands) && decide (meth.sig.returnType = rt) && !meth.locks && decide (parseMethodDescriptor y.desc = some meth.sig)) = true) : (Jvm.Cond.code y bytes mx rt).before a s = true := by
  simp only [Bool.and_eq_true, beq_iff_eq, Bool.not_eq_true', decide_eq_true_eq] at h5
  obtain ⟨⟨⟨⟨⟨g1, g2⟩, g3⟩, g4⟩, g5⟩, g6⟩ := h5
  simp [Cond.before, Cond.holds, Cond.value, h1, h2, h3, h4, g1, g2, g3, g4, g5, g6]
def isCode : Jvm.Cond → Bool
  | .code _ _ _ _ => true
  | _ => false
theorem all_split {L : List Jvm.Cond} {P : Jvm.Cond → Bool} (h1 : L.all (fun c => isCode c || P c) = true) (h2 : ∀ c ∈ L.filter isCode, P c = true) : L.all P = true := by
  refine List.all_eq_true.mpr fun c hc => ?_
  have h := List.all_eq_true.mp h1 c hc
  rcases Bool.eq_false_or_eq_true (isCode c) with hi | hi
  · exact h2 c (List.mem_filter.mpr ⟨hc, hi⟩)
  · simpa [hi] using h
set_option maxRecDepth 65536 in
theorem w_c0 : (Jvm.Cond.code x code maxLocals ret).before args0 about1 = true := code_word (m := ⟨1, 1⟩) (meth := k1m1) (c := k1c1) (by decide +kernel) rfl rfl rfl (by decide +kernel)
set_option maxRecDepth 65536 in
theorem w_c1 : (Jvm.Cond.code ({ cls := "com/example/vouch/vouch/core/Answer", name := "keyword", desc := "()Ljava/lang/String;" } : Jvm.MethodName) prog_7_method_7_code (1 : Nat) (Option.some (Jvm.ClassFile.FieldType.object "java/lang/String"))).before args0 about1 = true := code_word (m := ⟨6, 0⟩) (meth := k6m0) (c := k6c0) (by decide +kernel) rfl rfl rfl (by decide +kernel)
set_option maxRecDepth 65536 in
theorem w_c2 : (Jvm.Cond.code ({ cls := "com/example/vouch/vouch/core/InteractionMode", name := "keyword", desc := "()Ljava/lang/String;" } : Jvm.MethodName) prog_21_method_4_code (1 : Nat) (Option.some (Jvm.ClassFile.FieldType.object "java/lang/String"))).before args0 about1 = true := code_word (m := ⟨10, 0⟩) (meth := k10m0) (c := k10c0) (by decide +kernel) rfl rfl rfl (by decide +kernel)
set_option maxRecDepth 65536 in
theorem w_c3 : (Jvm.Cond.code ({ cls := "java/lang/String", name := "equals", desc := "(Ljava/lang/Object;)Z" } : Jvm.MethodName) jdk_42_method_66_code (3 : Nat) (Option.some Jvm.ClassFile.FieldType.boolean)).before args0 about1 = true := code_word (m := ⟨9, 1⟩) (meth := k9m1) (c := k9c1) (by decide +kernel) rfl rfl rfl (by decide +kernel)
set_option maxRecDepth 65536 in
theorem w_c4 : (Jvm.Cond.code ({ cls := "java/lang/StringLatin1", name := "equals", desc := "([B[B)Z" } : Jvm.MethodName) jdk_43_method_13_code (3 : Nat) (Option.some Jvm.ClassFile.FieldType.boolean)).before args0 about1 = true := code_word (m := ⟨11, 1⟩) (meth := k11m1) (c := k11c1) (by decide +kernel) rfl rfl rfl (by decide +kernel)
def codes1 : List Jvm.Cond := [Jvm.Cond.code x code maxLocals ret, Jvm.Cond.code ({ cls := "com/example/vouch/vouch/core/Answer", name := "keyword", desc := "()Ljava/lang/String;" } : Jvm.MethodName) prog_7_method_7_code (1 : Nat) (Option.some (Jvm.ClassFile.FieldType.object "java/lang/String")), Jvm.Cond.code ({ cls := "com/example/vouch/vouch/core/InteractionMode", name := "keyword", desc := "()Ljava/lang/String;" } : Jvm.MethodName) prog_21_method_4_code (1 : Nat) (Option.some (Jvm.ClassFile.FieldType.object "java/lang/String")), Jvm.Cond.code ({ cls := "java/lang/String", name := "equals", desc := "(Ljava/lang/Object;)Z" } : Jvm.MethodName) jdk_42_method_66_code (3 : Nat) (Option.some Jvm.ClassFile.FieldType.boolean), Jvm.Cond.code ({ cls := "java/lang/StringLatin1", name := "equals", desc := "([B[B)Z" } : Jvm.MethodName) jdk_43_method_13_code (3 : Nat) (Option.some Jvm.ClassFile.FieldType.boolean)]
set_option maxRecDepth 65536 in
theorem codes_eq : words1.filter isCode = codes1 := rfl
theorem w_codes : ∀ c ∈ words1.filter isCode, c.before args0 about1 = true := by
  rw [codes_eq]
  intro c hc
  simp only [codes1, List.mem_cons, List.not_mem_nil, or_false] at hc
  rcases hc with rfl | rfl | rfl | rfl | rfl
  · exact w_c0
  · exact w_c1
  · exact w_c2
  · exact w_c3
  · exact w_c4
set_option maxRecDepth 65536 in
theorem w_t1 : (words1.take 24).all (fun c => isCode c || c.before args0 about1) = true := by decide +kernel
set_option maxRecDepth 65536 in
theorem w_t2 : ((words1.drop 24).take 24).all (fun c => isCode c || c.before args0 about1) = true := by decide +kernel
set_option maxRecDepth 65536 in
theorem w_t3 : ((words1.drop 24).drop 24).all (fun c => isCode c || c.before args0 about1) = true := by decide +kernel
theorem w_tables : (allAtoms (Jvm.Cond.code x code maxLocals ret :: tables_1)).before args0 about1 = true := by
  rw [allAtoms_all]
  show words1.all (fun c => c.before args0 about1) = true
  refine all_split ?_ w_codes
  rw [← List.take_append_drop 24 words1, List.all_append, w_t1, ← List.take_append_drop 24 (words1.drop 24), List.all_append, w_t2, w_t3]
  rfl
set_option maxRecDepth 65536 in
theorem w_rest : rest_1_c.before args0 about1 = true := by decide +kernel
set_option maxRecDepth 65536 in
theorem w_case : (Jvm.Cond.and given_1 narrow_1).before args0 about1 = true := by decide +kernel
set_option maxRecDepth 65536 in
theorem w_consts : constsHeld consts_1 about1 := Jvm.Lit.constsHeldB_iff.mp (by decide +kernel)
theorem w_applies : (headSpec (Jvm.Cond.code x code maxLocals ret :: tables_1) room_1).applies x e0.platform about1 = true :=
  (Spec.applies_iff w_frames).mpr ⟨w_running, w_runnable, w_alone, w_named, w_hears, w_ripe, w_room, w_tables⟩
theorem atStart : AtStart classFile x code maxLocals ret World_1 tables_1 room_1 Calls_1 rest_1 Pre_1 launch0 p0 e0 about1 theMethod args0 below0 :=
  ⟨lists_1, trivial, launch0.admits_env _ _ _, launch0.least_env, fairChoices_fair.cas, fairChoices_fair.clock, w_frames, w_args, w_heap, w_applies, ⟨w_consts, trivial⟩, w_rest, w_case⟩
end start1
theorem witness_1 : WitnessClaimed_1 := ⟨start1.p0, start1.e0, start1.about1, start1.theMethod, start1.args0, start1.below0, start1.atStart⟩
end Jvm.Pilot.@@N@@
