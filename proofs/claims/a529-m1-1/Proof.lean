import JvmDerived
import JvmDerived.Pilot.@@N@@Statement
import JvmDerived.Pilot.@@N@@Code
set_option linter.unusedVariables false
set_option linter.unusedSimpArgs false
namespace Jvm.OwnKit
open Sem ClassFile Op Lib Jvm.Stand Jvm.Free Jvm.LawKit Jvm.RoadKit
/-! A WALK THAT IS DIRECTED BY ITS GOAL. Cx: what one invocation holds fixed. Go κ h cells slots pc Ls st: from the place pc, with these variables and this operand stack, over the heap h, the invocation returns as κ promises. -/
abbrev Cx : Type := (Program × Launch × Env × Room × State × MethodId × Array Value × List Frame × Method × Code) × (Bool × State × Nat × (Option Value → Heap → Prop))
abbrev Cx.p (κ : Cx) : Program := κ.1.1
abbrev Cx.l (κ : Cx) : Launch := κ.1.2.1
abbrev Cx.e (κ : Cx) : Env := κ.1.2.2.1
abbrev Cx.R (κ : Cx) : Room := κ.1.2.2.2.1
abbrev Cx.s (κ : Cx) : State := κ.1.2.2.2.2.1
abbrev Cx.m (κ : Cx) : MethodId := κ.1.2.2.2.2.2.1
abbrev Cx.args (κ : Cx) : Array Value := κ.1.2.2.2.2.2.2.1
abbrev Cx.below (κ : Cx) : List Frame := κ.1.2.2.2.2.2.2.2.1
abbrev Cx.meth (κ : Cx) : Method := κ.1.2.2.2.2.2.2.2.2.1
abbrev Cx.c (κ : Cx) : Code := κ.1.2.2.2.2.2.2.2.2.2
/-- may string constants be resolved on the way? -/
abbrev Cx.wide (κ : Cx) : Bool := κ.2.1
abbrev Cx.Z (κ : Cx) : State := κ.2.2.1
abbrev Cx.n0 (κ : Cx) : Nat := κ.2.2.2.1
abbrev Cx.Q (κ : Cx) : Option Value → Heap → Prop := κ.2.2.2.2
/-- the tables over which the walk stands now -/
def Cx.adm (κ : Cx) (vm0 : Vm) (n : Nat) : Prop := (∃ k0, κ.s.Since vm0 k0 ∧ k0 ≤ n) ∧ (κ.wide = false → vm0 = κ.s.vm)
/-- how an invocation ends -/
def Ends (wide : Bool) (s : State) (o : Outcome) (t : State) (L : List Loc) (k n : Nat) : Prop := (wide = false → FrameEnd s o t L k n) ∧ ReturnedEndW s o t L k n
def Go (κ : Cx) (h : Heap) (cells slots pc : Nat) (Ls : Array Slot) (st : List Value) : Prop :=
  ∀ (T : State) (locs : List Loc) (vm0 : Vm), Stand κ.p κ.l κ.e κ.R (κ.s.setVm vm0) κ.m κ.args κ.below κ.meth κ.c T locs cells slots → κ.adm vm0 h.size → κ.Z.Warmed39 vm0 → Fr κ.n0 locs → Old κ.Z κ.n0 h → T.heap = h →
    ∃ s₂ o, Steps κ.p.tables κ.e κ.below (T.setTop (mkF κ.m pc Ls st)) s₂ ∧ s₂.status = .running ∧ Ended s₂ κ.below o ∧ ∃ v L, o = .returned v ∧ (κ.Q v s₂.heap ∧ Fr κ.n0 L ∧ κ.s.heap.size ≤ s₂.heap.size ∧ Old κ.Z κ.n0 s₂.heap) ∧ Ends κ.wide κ.s o s₂ L κ.R.cells κ.R.slots
def Ok (κ : Cx) (l : Launch) (Z : State) (n0 : Nat) (own nm : String) (bytes : ByteArray) (maxL : Nat) (ret : Option FieldType) (rm : Room) (Q : Option Value → Heap → Prop) : Prop :=
  κ.l = l ∧ κ.Z = Z ∧ κ.n0 = n0 ∧ κ.R = rm ∧ κ.p.tables.exec = Jvm.exec ∧ κ.s.vm.findClass own = some κ.m.cls ∧ κ.c.code = bytes ∧ κ.c.maxLocals = maxL ∧ κ.meth.sig.returnType = ret ∧ κ.meth.name = nm ∧ κ.meth.locks = false ∧ κ.Q = Q
/-- a callee's contract: called with these arguments over the heap h0 it returns, and Q holds of what it returns and of the heap that it leaves; what it wrote lies at or above n0 -/
def Con (wide : Bool) (l : Launch) (Z : State) (n0 : Nat) (y : MethodName) (bytes : ByteArray) (maxL : Nat) (ret : Option FieldType) (rm : Room) (as' : Array Value) (h0 : Heap) (Q : Option Value → Heap → Prop) : Prop :=
  Old Z n0 h0 → ∀ ws : List Cond, MetFree l y (head1 (Cond.code y bytes maxL ret :: ws) rm) (fun a U => a = as' ∧ Z.Warmed39 U.vm ∧ U.heap = h0) (fun _ _ _ _ _ => True)
    (fun _ U o U' => ∃ v L, o = .returned v ∧ (Q v U'.heap ∧ Fr n0 L ∧ U.heap.size ≤ U'.heap.size ∧ Old Z n0 U'.heap) ∧ Ends wide U o U' L rm.cells rm.slots)
section Laws
variable {κ : Cx} {t : FieldType} {l : Launch} {Z : State} {n0 : Nat} {own nm : String} {bytes : ByteArray} {maxL : Nat} {ret : Option FieldType} {rm : Room} {Q : Option Value → Heap → Prop} {h : Heap} {cells slots pc : Nat} {Ls : Array Slot} {st : List Value}
theorem Ok.exec (K : Ok κ l Z n0 own nm bytes maxL ret rm Q) : κ.p.tables.exec = Jvm.exec := K.2.2.2.2.1
theorem Ok.kb (K : Ok κ l Z n0 own nm bytes maxL ret rm Q) : κ.c.code = bytes := K.2.2.2.2.2.2.1
theorem Ok.kl (K : Ok κ l Z n0 own nm bytes maxL ret rm Q) : κ.c.maxLocals = maxL := K.2.2.2.2.2.2.2.1
theorem Ok.kr (K : Ok κ l Z n0 own nm bytes maxL ret rm Q) : κ.meth.sig.returnType = ret := K.2.2.2.2.2.2.2.2.1
theorem Ok.name (K : Ok κ l Z n0 own nm bytes maxL ret rm Q) : κ.meth.name = nm := K.2.2.2.2.2.2.2.2.2.1
theorem Ok.locks (K : Ok κ l Z n0 own nm bytes maxL ret rm Q) : κ.meth.locks = false := K.2.2.2.2.2.2.2.2.2.2.1
theorem Ok.eQ (K : Ok κ l Z n0 own nm bytes maxL ret rm Q) : κ.Q = Q := K.2.2.2.2.2.2.2.2.2.2.2
theorem Ok.eZ (K : Ok κ l Z n0 own nm bytes maxL ret rm Q) : κ.Z = Z := K.2.1
theorem Ok.en (K : Ok κ l Z n0 own nm bytes maxL ret rm Q) : κ.n0 = n0 := K.2.2.1
theorem Ok.eR (K : Ok κ l Z n0 own nm bytes maxL ret rm Q) : κ.R = rm := K.2.2.2.1
theorem Ok.el (K : Ok κ l Z n0 own nm bytes maxL ret rm Q) : κ.l = l := K.1
theorem Ok.ko (K : Ok κ l Z n0 own nm bytes maxL ret rm Q) {vm0 : Vm} {n : Nat} (A : κ.adm vm0 n) : (κ.s.setVm vm0).vm.findClass own = some κ.m.cls := by
  obtain ⟨⟨k0, hS, -⟩, -⟩ := A
  show vm0.findClass own = _
  rw [hS.1.alike.findClass]; exact K.2.2.2.2.2.1
theorem Ok.warm (K : Ok κ l Z n0 own nm bytes maxL ret rm Q) {vm0 : Vm} (hZ : κ.Z.Warmed39 vm0) : Z.Warmed39 (κ.s.setVm vm0).vm := by rw [← K.eZ]; exact hZ
theorem Cx.adm.mono {vm0 : Vm} {n n' : Nat} (A : κ.adm vm0 n) (q : n ≤ n') : κ.adm vm0 n' := by
  obtain ⟨⟨k0, hS, hk⟩, w⟩ := A
  exact ⟨⟨k0, hS, Nat.le_trans hk q⟩, w⟩
theorem Ok.old (K : Ok κ l Z n0 own nm bytes maxL ret rm Q) (B : Old κ.Z κ.n0 h) : Old Z n0 h := by rw [← K.eZ, ← K.en]; exact B
theorem Ok.oldS (K : Ok κ l Z n0 own nm bytes maxL ret rm Q) (B : Old Z n0 h) : Old κ.Z κ.n0 h := by rw [K.eZ, K.en]; exact B
theorem low_of (B : Old Z n0 h) : n0 ≤ h.size := B.1 ▸ B.2.1
/-- what was there at the law's start is there still -/
theorem old (K : Ok κ l Z n0 own nm bytes maxL ret rm Q) (hr : Old Z n0 h → Go κ h cells slots pc Ls st) : Go κ h cells slots pc Ls st := fun T locs vm0 X A hZ N B eT =>
  hr (K.old B) T locs vm0 X A hZ N B eT
theorem more {cells' slots' : Nat} (hc : cells ≤ cells') (hs : slots ≤ slots') (hr : Go κ h cells' slots' pc Ls st) : Go κ h cells slots pc Ls st := fun T locs vm0 X A hZ N B eT =>
  hr T locs vm0 (X.mono hc hs) A hZ N B eT
theorem Ends.mono {wide : Bool} {s t : State} {o : Outcome} {L : List Loc} {k n k' n' : Nat} (E : Ends wide s o t L k n) (hk : k ≤ k') (hn : n ≤ n') : Ends wide s o t L k' n' :=
  ⟨fun w => ⟨(E.1 w).1, (E.1 w).2.1, (E.1 w).2.2.mono hk hn⟩, E.2.1, E.2.2.1, E.2.2.2.1, E.2.2.2.2.mono hk hn⟩
/-! ## the end of a walk -/
theorem out (K : Ok κ l Z n0 own nm bytes maxL ret rm Q) {v : Option Value} (hv : ret = none → v = none) (hq : Q v h) (hc : cells ≤ rm.cells) (hs : slots ≤ rm.slots)
    (st1 : ∀ (T : State) (locs : List Loc) (vm0 : Vm) (fs : List Frame), Stand κ.p κ.l κ.e κ.R (κ.s.setVm vm0) κ.m κ.args κ.below κ.meth κ.c T locs cells slots → (∀ (f : JFrame) (acts : List Action), f.method = κ.m → f.locked = none → f.entered = [] → (doReturn κ.e (T.setTop f) acts v).1 = T.setFrames fs) →
      Steps κ.p.tables κ.e κ.below (T.setTop (mkF κ.m pc Ls st)) (T.setFrames fs)) : Go κ h cells slots pc Ls st := fun T locs vm0 X A hZ N B eT => by
  obtain ⟨⟨k0, hS, hk⟩, hw⟩ := A
  have hlk := K.locks
  obtain ⟨fs, hr, hrun, hended, hW, hsame⟩ := X.leave (v := v) (fun q => hv (K.kr ▸ q))
  have hR : ReturnedEndW κ.s (.returned v) (T.setFrames fs) locs cells slots := by
    obtain ⟨a, b, c'⟩ := hS.ended (U := T.setFrames fs) hW (by show k0 ≤ T.heap.size; rw [eT]; exact hk) hsame
    exact ⟨⟨v, rfl⟩, a, b, c'⟩
  refine ⟨_, _, st1 T locs vm0 fs X hr, hrun, hended, v, locs, rfl, ⟨?_, N, hR.2.2.2.2.1, by show Old κ.Z κ.n0 T.heap; rw [eT]; exact B⟩, Ends.mono ⟨fun w => ?_, hR⟩ (by rw [K.eR]; exact hc) (by rw [K.eR]; exact hs)⟩
  · show κ.Q v T.heap
    rw [K.eQ, eT]; exact hq
  · have e0 := hw w
    subst e0
    exact ⟨⟨v, rfl⟩, hW, hsame⟩
theorem retOf (K : Ok κ l Z n0 own nm bytes maxL (some t) rm Q) {w : Value} {i : Instr} (hd : decode bytes pc = .ok (i, 1)) (hn : narrow t w = w)
    (hi : (i = .ireturn ∧ (t = .int ∨ t = .boolean ∨ t = .byte ∨ t = .char ∨ t = .short) ∧ ∃ z, w = .int z) ∨ (i = .lreturn ∧ t = .long ∧ ∃ z, w = .long z) ∨ (i = .dreturn ∧ t = .double ∧ ∃ z, w = .double z) ∨ (i = .freturn ∧ t = .float ∧ ∃ z, w = .float z) ∨ (i = .areturn ∧ t.isReference = true ∧ w.isRef = true))
    (hq : Q (some w) h) (hc : cells ≤ rm.cells) (hs : slots ≤ rm.slots) : Go κ h cells slots pc Ls (w :: st) :=
  out K (fun q => nomatch q) hq hc hs fun T locs vm0 fs X hr => retOut X K.exec K.kr hn hi (hb K.kb hd) hr
theorem ireturn (K : Ok κ l Z n0 own nm bytes maxL (some t) rm Q) {z : Int32} (hd : decode bytes pc = .ok (.ireturn, 1)) (ht : t = .int ∨ t = .boolean ∨ t = .byte ∨ t = .char ∨ t = .short) (hn : narrow t (.int z) = .int z)
    (hq : Q (some (.int z)) h) (hc : cells ≤ rm.cells) (hs : slots ≤ rm.slots) : Go κ h cells slots pc Ls (.int z :: st) := retOf K hd hn (Or.inl ⟨rfl, ht, z, rfl⟩) hq hc hs
theorem lreturn (K : Ok κ l Z n0 own nm bytes maxL (some .long) rm Q) {z : Int64} (hd : decode bytes pc = .ok (.lreturn, 1)) (hq : Q (some (.long z)) h) (hc : cells ≤ rm.cells) (hs : slots ≤ rm.slots) : Go κ h cells slots pc Ls (.long z :: st) :=
  retOf K hd rfl (Or.inr (Or.inl ⟨rfl, rfl, z, rfl⟩)) hq hc hs
theorem areturn (K : Ok κ l Z n0 own nm bytes maxL (some t) rm Q) {w : Value} (hd : decode bytes pc = .ok (.areturn, 1)) (ht : t.isReference = true) (hw : w.isRef = true) (hq : Q (some w) h) (hc : cells ≤ rm.cells) (hs : slots ≤ rm.slots) : Go κ h cells slots pc Ls (w :: st) := by
  refine retOf K hd ?_ (Or.inr (Or.inr (Or.inr (Or.inr ⟨rfl, ht, hw⟩)))) hq hc hs
  cases t <;> first | (exact Bool.noConfusion ht; done) | (rcases ref_cases hw with rfl | ⟨a, rfl⟩ <;> rfl)
theorem return0 (K : Ok κ l Z n0 own nm bytes maxL none rm Q) (hd : decode bytes pc = .ok (.return_, 1)) (hq : Q none h) (hc : cells ≤ rm.cells) (hs : slots ≤ rm.slots) : Go κ h cells slots pc Ls [] :=
  out K (fun _ => rfl) hq hc hs fun T locs vm0 fs X hr => X.returnOut K.exec K.kr (hb K.kb hd) hr

theorem iloadN {k : Fin 4} {v : Int32} (K : Ok κ l Z n0 own nm bytes maxL ret rm Q) (hd : decode bytes pc = .ok (.iload_n k, 1)) (hl : Ls[k.val]? = some (.val (.int v))) (hr : Go κ h cells slots (pc + 1) Ls ((.int v) :: st)) : Go κ h cells slots pc Ls (st) := fun T locs vm0 X A hZ N B eT => by
  obtain ⟨s₂, o, hs, r⟩ := hr T locs vm0 X A hZ N B eT
  exact ⟨s₂, o, XS.iloadN X.here K.exec rfl (hb K.kb hd) hl hs, r⟩
theorem iload {k : Nat} {v : Int32} (K : Ok κ l Z n0 own nm bytes maxL ret rm Q) (hd : decode bytes pc = .ok (.iload k, 2)) (hl : Ls[k]? = some (.val (.int v))) (hr : Go κ h cells slots (pc + 2) Ls ((.int v) :: st)) : Go κ h cells slots pc Ls (st) := fun T locs vm0 X A hZ N B eT => by
  obtain ⟨s₂, o, hs, r⟩ := hr T locs vm0 X A hZ N B eT
  exact ⟨s₂, o, XS.iload X.here K.exec rfl (hb K.kb hd) hl hs, r⟩
theorem lloadN {k : Fin 4} {v : Int64} (K : Ok κ l Z n0 own nm bytes maxL ret rm Q) (hd : decode bytes pc = .ok (.lload_n k, 1)) (hl : Ls[k.val]? = some (.val (.long v))) (hr : Go κ h cells slots (pc + 1) Ls ((.long v) :: st)) : Go κ h cells slots pc Ls (st) := fun T locs vm0 X A hZ N B eT => by
  obtain ⟨s₂, o, hs, r⟩ := hr T locs vm0 X A hZ N B eT
  exact ⟨s₂, o, XT.lloadN X.here K.exec rfl (hb K.kb hd) hl hs, r⟩
theorem lload {k : Nat} {v : Int64} (K : Ok κ l Z n0 own nm bytes maxL ret rm Q) (hd : decode bytes pc = .ok (.lload k, 2)) (hl : Ls[k]? = some (.val (.long v))) (hr : Go κ h cells slots (pc + 2) Ls ((.long v) :: st)) : Go κ h cells slots pc Ls (st) := fun T locs vm0 X A hZ N B eT => by
  obtain ⟨s₂, o, hs, r⟩ := hr T locs vm0 X A hZ N B eT
  exact ⟨s₂, o, XT.lload X.here K.exec rfl (hb K.kb hd) hl hs, r⟩
theorem aloadN {k : Fin 4} {v : Value} (K : Ok κ l Z n0 own nm bytes maxL ret rm Q) (hd : decode bytes pc = .ok (.aload_n k, 1)) (hl : Ls[k.val]? = some (.val v)) (hv : v.isRef = true) (hr : Go κ h cells slots (pc + 1) Ls (v :: st)) : Go κ h cells slots pc Ls (st) := fun T locs vm0 X A hZ N B eT => by
  obtain ⟨s₂, o, hs, r⟩ := hr T locs vm0 X A hZ N B eT
  exact ⟨s₂, o, XS.aloadN X.here K.exec rfl (hb K.kb hd) hl hv hs, r⟩
theorem aload {k : Nat} {v : Value} (K : Ok κ l Z n0 own nm bytes maxL ret rm Q) (hd : decode bytes pc = .ok (.aload k, 2)) (hl : Ls[k]? = some (.val v)) (hv : v.isRef = true) (hr : Go κ h cells slots (pc + 2) Ls (v :: st)) : Go κ h cells slots pc Ls (st) := fun T locs vm0 X A hZ N B eT => by
  obtain ⟨s₂, o, hs, r⟩ := hr T locs vm0 X A hZ N B eT
  exact ⟨s₂, o, XS.aload X.here K.exec rfl (hb K.kb hd) hl hv hs, r⟩
theorem istoreN {k : Fin 4} {x : Int32} {l' : Array Slot} (K : Ok κ l Z n0 own nm bytes maxL ret rm Q) (hd : decode bytes pc = .ok (.istore_n k, 1)) (hl : storeLocals Ls k.val (.int x) = some l') (hr : Go κ h cells slots (pc + 1) l' (st)) : Go κ h cells slots pc Ls ((.int x) :: st) := fun T locs vm0 X A hZ N B eT => by
  obtain ⟨s₂, o, hs, r⟩ := hr T locs vm0 X A hZ N B eT
  exact ⟨s₂, o, XS.istoreN X.here K.exec rfl (hb K.kb hd) rfl hl hs, r⟩
theorem istore {k : Nat} {x : Int32} {l' : Array Slot} (K : Ok κ l Z n0 own nm bytes maxL ret rm Q) (hd : decode bytes pc = .ok (.istore k, 2)) (hl : storeLocals Ls k (.int x) = some l') (hr : Go κ h cells slots (pc + 2) l' (st)) : Go κ h cells slots pc Ls ((.int x) :: st) := fun T locs vm0 X A hZ N B eT => by
  obtain ⟨s₂, o, hs, r⟩ := hr T locs vm0 X A hZ N B eT
  exact ⟨s₂, o, XS.istore X.here K.exec rfl (hb K.kb hd) rfl hl hs, r⟩
theorem lstoreN {k : Fin 4} {x : Int64} {l' : Array Slot} (K : Ok κ l Z n0 own nm bytes maxL ret rm Q) (hd : decode bytes pc = .ok (.lstore_n k, 1)) (hl : storeLocals Ls k.val (.long x) = some l') (hr : Go κ h cells slots (pc + 1) l' (st)) : Go κ h cells slots pc Ls ((.long x) :: st) := fun T locs vm0 X A hZ N B eT => by
  obtain ⟨s₂, o, hs, r⟩ := hr T locs vm0 X A hZ N B eT
  exact ⟨s₂, o, XT.lstoreN X.here K.exec rfl (hb K.kb hd) rfl hl hs, r⟩
theorem lstore {k : Nat} {x : Int64} {l' : Array Slot} (K : Ok κ l Z n0 own nm bytes maxL ret rm Q) (hd : decode bytes pc = .ok (.lstore k, 2)) (hl : storeLocals Ls k (.long x) = some l') (hr : Go κ h cells slots (pc + 2) l' (st)) : Go κ h cells slots pc Ls ((.long x) :: st) := fun T locs vm0 X A hZ N B eT => by
  obtain ⟨s₂, o, hs, r⟩ := hr T locs vm0 X A hZ N B eT
  exact ⟨s₂, o, XT.lstore X.here K.exec rfl (hb K.kb hd) rfl hl hs, r⟩
theorem astoreN {k : Fin 4} {x : Value} {l' : Array Slot} (K : Ok κ l Z n0 own nm bytes maxL ret rm Q) (hd : decode bytes pc = .ok (.astore_n k, 1)) (hv : x.isRef = true) (hl : storeLocals Ls k.val x = some l') (hr : Go κ h cells slots (pc + 1) l' (st)) : Go κ h cells slots pc Ls (x :: st) := fun T locs vm0 X A hZ N B eT => by
  obtain ⟨s₂, o, hs, r⟩ := hr T locs vm0 X A hZ N B eT
  exact ⟨s₂, o, XS.astoreN X.here K.exec rfl (hb K.kb hd) rfl hv hl hs, r⟩
theorem astore {k : Nat} {x : Value} {l' : Array Slot} (K : Ok κ l Z n0 own nm bytes maxL ret rm Q) (hd : decode bytes pc = .ok (.astore k, 2)) (hv : x.isRef = true) (hl : storeLocals Ls k x = some l') (hr : Go κ h cells slots (pc + 2) l' (st)) : Go κ h cells slots pc Ls (x :: st) := fun T locs vm0 X A hZ N B eT => by
  obtain ⟨s₂, o, hs, r⟩ := hr T locs vm0 X A hZ N B eT
  exact ⟨s₂, o, XS.astore X.here K.exec rfl (hb K.kb hd) rfl hv hl hs, r⟩
theorem iconst {i : Int} (K : Ok κ l Z n0 own nm bytes maxL ret rm Q) (hd : decode bytes pc = .ok (.iconst i, 1))  (hr : Go κ h cells slots (pc + 1) Ls (.int (Int32.ofInt i) :: st)) : Go κ h cells slots pc Ls (st) := fun T locs vm0 X A hZ N B eT => by
  obtain ⟨s₂, o, hs, r⟩ := hr T locs vm0 X A hZ N B eT
  exact ⟨s₂, o, XS.iconst X.here K.exec rfl (hb K.kb hd)  hs, r⟩
theorem bipush {i : Int} (K : Ok κ l Z n0 own nm bytes maxL ret rm Q) (hd : decode bytes pc = .ok (.bipush i, 2))  (hr : Go κ h cells slots (pc + 2) Ls (.int (Int8.ofInt i).toInt32 :: st)) : Go κ h cells slots pc Ls (st) := fun T locs vm0 X A hZ N B eT => by
  obtain ⟨s₂, o, hs, r⟩ := hr T locs vm0 X A hZ N B eT
  exact ⟨s₂, o, XS.bipush X.here K.exec rfl (hb K.kb hd)  hs, r⟩
theorem sipush {i : Int} (K : Ok κ l Z n0 own nm bytes maxL ret rm Q) (hd : decode bytes pc = .ok (.sipush i, 3))  (hr : Go κ h cells slots (pc + 3) Ls (.int (Int16.ofInt i).toInt32 :: st)) : Go κ h cells slots pc Ls (st) := fun T locs vm0 X A hZ N B eT => by
  obtain ⟨s₂, o, hs, r⟩ := hr T locs vm0 X A hZ N B eT
  exact ⟨s₂, o, XS.sipush X.here K.exec rfl (hb K.kb hd)  hs, r⟩
theorem lconst {k : Fin 2} (K : Ok κ l Z n0 own nm bytes maxL ret rm Q) (hd : decode bytes pc = .ok (.lconst k, 1))  (hr : Go κ h cells slots (pc + 1) Ls (.long (Int64.ofNat k) :: st)) : Go κ h cells slots pc Ls (st) := fun T locs vm0 X A hZ N B eT => by
  obtain ⟨s₂, o, hs, r⟩ := hr T locs vm0 X A hZ N B eT
  exact ⟨s₂, o, XT.lconst X.here K.exec rfl (hb K.kb hd)  hs, r⟩
theorem aconstNull  (K : Ok κ l Z n0 own nm bytes maxL ret rm Q) (hd : decode bytes pc = .ok (.aconst_null, 1))  (hr : Go κ h cells slots (pc + 1) Ls (.null :: st)) : Go κ h cells slots pc Ls (st) := fun T locs vm0 X A hZ N B eT => by
  obtain ⟨s₂, o, hs, r⟩ := hr T locs vm0 X A hZ N B eT
  exact ⟨s₂, o, XS.aconstNull X.here K.exec rfl (hb K.kb hd)  hs, r⟩
theorem iadd {x y : Int32} (K : Ok κ l Z n0 own nm bytes maxL ret rm Q) (hd : decode bytes pc = .ok (.iadd, 1))  (hr : Go κ h cells slots (pc + 1) Ls (.int (x + y) :: st)) : Go κ h cells slots pc Ls (.int y :: .int x :: st) := fun T locs vm0 X A hZ N B eT => by
  obtain ⟨s₂, o, hs, r⟩ := hr T locs vm0 X A hZ N B eT
  exact ⟨s₂, o, XS.iadd X.here K.exec rfl (hb K.kb hd) rfl hs, r⟩
theorem isub {x y : Int32} (K : Ok κ l Z n0 own nm bytes maxL ret rm Q) (hd : decode bytes pc = .ok (.isub, 1))  (hr : Go κ h cells slots (pc + 1) Ls (.int (x - y) :: st)) : Go κ h cells slots pc Ls (.int y :: .int x :: st) := fun T locs vm0 X A hZ N B eT => by
  obtain ⟨s₂, o, hs, r⟩ := hr T locs vm0 X A hZ N B eT
  exact ⟨s₂, o, XS.isub X.here K.exec rfl (hb K.kb hd) rfl hs, r⟩
theorem imul {x y : Int32} (K : Ok κ l Z n0 own nm bytes maxL ret rm Q) (hd : decode bytes pc = .ok (.imul, 1))  (hr : Go κ h cells slots (pc + 1) Ls (.int (x * y) :: st)) : Go κ h cells slots pc Ls (.int y :: .int x :: st) := fun T locs vm0 X A hZ N B eT => by
  obtain ⟨s₂, o, hs, r⟩ := hr T locs vm0 X A hZ N B eT
  exact ⟨s₂, o, XS.imul X.here K.exec rfl (hb K.kb hd) rfl hs, r⟩
theorem iand {x y : Int32} (K : Ok κ l Z n0 own nm bytes maxL ret rm Q) (hd : decode bytes pc = .ok (.iand, 1))  (hr : Go κ h cells slots (pc + 1) Ls (.int (x &&& y) :: st)) : Go κ h cells slots pc Ls (.int y :: .int x :: st) := fun T locs vm0 X A hZ N B eT => by
  obtain ⟨s₂, o, hs, r⟩ := hr T locs vm0 X A hZ N B eT
  exact ⟨s₂, o, XS.iand X.here K.exec rfl (hb K.kb hd) rfl hs, r⟩
theorem ior {x y : Int32} (K : Ok κ l Z n0 own nm bytes maxL ret rm Q) (hd : decode bytes pc = .ok (.ior, 1))  (hr : Go κ h cells slots (pc + 1) Ls (.int (x ||| y) :: st)) : Go κ h cells slots pc Ls (.int y :: .int x :: st) := fun T locs vm0 X A hZ N B eT => by
  obtain ⟨s₂, o, hs, r⟩ := hr T locs vm0 X A hZ N B eT
  exact ⟨s₂, o, XT.ior X.here K.exec rfl (hb K.kb hd) rfl hs, r⟩
theorem ixor {x y : Int32} (K : Ok κ l Z n0 own nm bytes maxL ret rm Q) (hd : decode bytes pc = .ok (.ixor, 1))  (hr : Go κ h cells slots (pc + 1) Ls (.int (x ^^^ y) :: st)) : Go κ h cells slots pc Ls (.int y :: .int x :: st) := fun T locs vm0 X A hZ N B eT => by
  obtain ⟨s₂, o, hs, r⟩ := hr T locs vm0 X A hZ N B eT
  exact ⟨s₂, o, XT.ixor X.here K.exec rfl (hb K.kb hd) rfl hs, r⟩
theorem ishl {x y : Int32} (K : Ok κ l Z n0 own nm bytes maxL ret rm Q) (hd : decode bytes pc = .ok (.ishl, 1))  (hr : Go κ h cells slots (pc + 1) Ls (.int (x <<< (y &&& 31)) :: st)) : Go κ h cells slots pc Ls (.int y :: .int x :: st) := fun T locs vm0 X A hZ N B eT => by
  obtain ⟨s₂, o, hs, r⟩ := hr T locs vm0 X A hZ N B eT
  exact ⟨s₂, o, XT.ishl X.here K.exec rfl (hb K.kb hd) rfl hs, r⟩
theorem ishr {x y : Int32} (K : Ok κ l Z n0 own nm bytes maxL ret rm Q) (hd : decode bytes pc = .ok (.ishr, 1))  (hr : Go κ h cells slots (pc + 1) Ls (.int (x >>> (y &&& 31)) :: st)) : Go κ h cells slots pc Ls (.int y :: .int x :: st) := fun T locs vm0 X A hZ N B eT => by
  obtain ⟨s₂, o, hs, r⟩ := hr T locs vm0 X A hZ N B eT
  exact ⟨s₂, o, XT.ishr X.here K.exec rfl (hb K.kb hd) rfl hs, r⟩
theorem iushr {x y : Int32} (K : Ok κ l Z n0 own nm bytes maxL ret rm Q) (hd : decode bytes pc = .ok (.iushr, 1))  (hr : Go κ h cells slots (pc + 1) Ls (.int (XT.ushr x y) :: st)) : Go κ h cells slots pc Ls (.int y :: .int x :: st) := fun T locs vm0 X A hZ N B eT => by
  obtain ⟨s₂, o, hs, r⟩ := hr T locs vm0 X A hZ N B eT
  exact ⟨s₂, o, XT.iushr X.here K.exec rfl (hb K.kb hd) rfl hs, r⟩
theorem idiv {x y : Int32} (K : Ok κ l Z n0 own nm bytes maxL ret rm Q) (hd : decode bytes pc = .ok (.idiv, 1)) (hy : y ≠ 0) (hr : Go κ h cells slots (pc + 1) Ls (.int (x / y) :: st)) : Go κ h cells slots pc Ls (.int y :: .int x :: st) := fun T locs vm0 X A hZ N B eT => by
  obtain ⟨s₂, o, hs, r⟩ := hr T locs vm0 X A hZ N B eT
  exact ⟨s₂, o, XS.idiv X.here K.exec rfl (hb K.kb hd) rfl hy hs, r⟩
theorem ineg {x : Int32} (K : Ok κ l Z n0 own nm bytes maxL ret rm Q) (hd : decode bytes pc = .ok (.ineg, 1))  (hr : Go κ h cells slots (pc + 1) Ls (.int (-x) :: st)) : Go κ h cells slots pc Ls (.int x :: st) := fun T locs vm0 X A hZ N B eT => by
  obtain ⟨s₂, o, hs, r⟩ := hr T locs vm0 X A hZ N B eT
  exact ⟨s₂, o, XS.ineg X.here K.exec rfl (hb K.kb hd) rfl hs, r⟩
theorem ladd {x y : Int64} (K : Ok κ l Z n0 own nm bytes maxL ret rm Q) (hd : decode bytes pc = .ok (.ladd, 1))  (hr : Go κ h cells slots (pc + 1) Ls (.long (x + y) :: st)) : Go κ h cells slots pc Ls (.long y :: .long x :: st) := fun T locs vm0 X A hZ N B eT => by
  obtain ⟨s₂, o, hs, r⟩ := hr T locs vm0 X A hZ N B eT
  exact ⟨s₂, o, XT.ladd X.here K.exec rfl (hb K.kb hd) rfl hs, r⟩
theorem lsub {x y : Int64} (K : Ok κ l Z n0 own nm bytes maxL ret rm Q) (hd : decode bytes pc = .ok (.lsub, 1))  (hr : Go κ h cells slots (pc + 1) Ls (.long (x - y) :: st)) : Go κ h cells slots pc Ls (.long y :: .long x :: st) := fun T locs vm0 X A hZ N B eT => by
  obtain ⟨s₂, o, hs, r⟩ := hr T locs vm0 X A hZ N B eT
  exact ⟨s₂, o, XT.lsub X.here K.exec rfl (hb K.kb hd) rfl hs, r⟩
theorem lmul {x y : Int64} (K : Ok κ l Z n0 own nm bytes maxL ret rm Q) (hd : decode bytes pc = .ok (.lmul, 1))  (hr : Go κ h cells slots (pc + 1) Ls (.long (x * y) :: st)) : Go κ h cells slots pc Ls (.long y :: .long x :: st) := fun T locs vm0 X A hZ N B eT => by
  obtain ⟨s₂, o, hs, r⟩ := hr T locs vm0 X A hZ N B eT
  exact ⟨s₂, o, XT.lmul X.here K.exec rfl (hb K.kb hd) rfl hs, r⟩
theorem land {x y : Int64} (K : Ok κ l Z n0 own nm bytes maxL ret rm Q) (hd : decode bytes pc = .ok (.land, 1))  (hr : Go κ h cells slots (pc + 1) Ls (.long (x &&& y) :: st)) : Go κ h cells slots pc Ls (.long y :: .long x :: st) := fun T locs vm0 X A hZ N B eT => by
  obtain ⟨s₂, o, hs, r⟩ := hr T locs vm0 X A hZ N B eT
  exact ⟨s₂, o, XT.land X.here K.exec rfl (hb K.kb hd) rfl hs, r⟩
theorem lor {x y : Int64} (K : Ok κ l Z n0 own nm bytes maxL ret rm Q) (hd : decode bytes pc = .ok (.lor, 1))  (hr : Go κ h cells slots (pc + 1) Ls (.long (x ||| y) :: st)) : Go κ h cells slots pc Ls (.long y :: .long x :: st) := fun T locs vm0 X A hZ N B eT => by
  obtain ⟨s₂, o, hs, r⟩ := hr T locs vm0 X A hZ N B eT
  exact ⟨s₂, o, XT.lor X.here K.exec rfl (hb K.kb hd) rfl hs, r⟩
theorem lxor {x y : Int64} (K : Ok κ l Z n0 own nm bytes maxL ret rm Q) (hd : decode bytes pc = .ok (.lxor, 1))  (hr : Go κ h cells slots (pc + 1) Ls (.long (x ^^^ y) :: st)) : Go κ h cells slots pc Ls (.long y :: .long x :: st) := fun T locs vm0 X A hZ N B eT => by
  obtain ⟨s₂, o, hs, r⟩ := hr T locs vm0 X A hZ N B eT
  exact ⟨s₂, o, XT.lxor X.here K.exec rfl (hb K.kb hd) rfl hs, r⟩
theorem ldiv {x y : Int64} (K : Ok κ l Z n0 own nm bytes maxL ret rm Q) (hd : decode bytes pc = .ok (.ldiv, 1)) (hy : y ≠ 0) (hr : Go κ h cells slots (pc + 1) Ls (.long (x / y) :: st)) : Go κ h cells slots pc Ls (.long y :: .long x :: st) := fun T locs vm0 X A hZ N B eT => by
  obtain ⟨s₂, o, hs, r⟩ := hr T locs vm0 X A hZ N B eT
  exact ⟨s₂, o, XT.ldiv X.here K.exec rfl (hb K.kb hd) rfl hy hs, r⟩
theorem lshl {x : Int64} {y : Int32} (K : Ok κ l Z n0 own nm bytes maxL ret rm Q) (hd : decode bytes pc = .ok (.lshl, 1))  (hr : Go κ h cells slots (pc + 1) Ls (.long (x <<< (y.toInt64 &&& 63)) :: st)) : Go κ h cells slots pc Ls (.int y :: .long x :: st) := fun T locs vm0 X A hZ N B eT => by
  obtain ⟨s₂, o, hs, r⟩ := hr T locs vm0 X A hZ N B eT
  exact ⟨s₂, o, XT.lshl X.here K.exec rfl (hb K.kb hd) rfl hs, r⟩
theorem lshr {x : Int64} {y : Int32} (K : Ok κ l Z n0 own nm bytes maxL ret rm Q) (hd : decode bytes pc = .ok (.lshr, 1))  (hr : Go κ h cells slots (pc + 1) Ls (.long (x >>> (y.toInt64 &&& 63)) :: st)) : Go κ h cells slots pc Ls (.int y :: .long x :: st) := fun T locs vm0 X A hZ N B eT => by
  obtain ⟨s₂, o, hs, r⟩ := hr T locs vm0 X A hZ N B eT
  exact ⟨s₂, o, XT.lshr X.here K.exec rfl (hb K.kb hd) rfl hs, r⟩
theorem lushr {x : Int64} {y : Int32} (K : Ok κ l Z n0 own nm bytes maxL ret rm Q) (hd : decode bytes pc = .ok (.lushr, 1))  (hr : Go κ h cells slots (pc + 1) Ls (.long (XT.ushrL x y) :: st)) : Go κ h cells slots pc Ls (.int y :: .long x :: st) := fun T locs vm0 X A hZ N B eT => by
  obtain ⟨s₂, o, hs, r⟩ := hr T locs vm0 X A hZ N B eT
  exact ⟨s₂, o, XT.lushr X.here K.exec rfl (hb K.kb hd) rfl hs, r⟩
theorem lneg {x : Int64} (K : Ok κ l Z n0 own nm bytes maxL ret rm Q) (hd : decode bytes pc = .ok (.lneg, 1))  (hr : Go κ h cells slots (pc + 1) Ls (.long (-x) :: st)) : Go κ h cells slots pc Ls (.long x :: st) := fun T locs vm0 X A hZ N B eT => by
  obtain ⟨s₂, o, hs, r⟩ := hr T locs vm0 X A hZ N B eT
  exact ⟨s₂, o, XT.lneg X.here K.exec rfl (hb K.kb hd) rfl hs, r⟩
theorem i2l {x : Int32} (K : Ok κ l Z n0 own nm bytes maxL ret rm Q) (hd : decode bytes pc = .ok (.i2l, 1))  (hr : Go κ h cells slots (pc + 1) Ls (.long x.toInt64 :: st)) : Go κ h cells slots pc Ls (.int x :: st) := fun T locs vm0 X A hZ N B eT => by
  obtain ⟨s₂, o, hs, r⟩ := hr T locs vm0 X A hZ N B eT
  exact ⟨s₂, o, XT.i2l X.here K.exec rfl (hb K.kb hd) rfl hs, r⟩
theorem l2i {x : Int64} (K : Ok κ l Z n0 own nm bytes maxL ret rm Q) (hd : decode bytes pc = .ok (.l2i, 1))  (hr : Go κ h cells slots (pc + 1) Ls (.int x.toInt32 :: st)) : Go κ h cells slots pc Ls (.long x :: st) := fun T locs vm0 X A hZ N B eT => by
  obtain ⟨s₂, o, hs, r⟩ := hr T locs vm0 X A hZ N B eT
  exact ⟨s₂, o, XT.l2i X.here K.exec rfl (hb K.kb hd) rfl hs, r⟩
theorem i2b {x : Int32} (K : Ok κ l Z n0 own nm bytes maxL ret rm Q) (hd : decode bytes pc = .ok (.i2b, 1))  (hr : Go κ h cells slots (pc + 1) Ls (.int x.toInt8.toInt32 :: st)) : Go κ h cells slots pc Ls (.int x :: st) := fun T locs vm0 X A hZ N B eT => by
  obtain ⟨s₂, o, hs, r⟩ := hr T locs vm0 X A hZ N B eT
  exact ⟨s₂, o, XT.i2b X.here K.exec rfl (hb K.kb hd) rfl hs, r⟩
theorem i2c {x : Int32} (K : Ok κ l Z n0 own nm bytes maxL ret rm Q) (hd : decode bytes pc = .ok (.i2c, 1))  (hr : Go κ h cells slots (pc + 1) Ls (.int x.toUInt32.toUInt16.toUInt32.toInt32 :: st)) : Go κ h cells slots pc Ls (.int x :: st) := fun T locs vm0 X A hZ N B eT => by
  obtain ⟨s₂, o, hs, r⟩ := hr T locs vm0 X A hZ N B eT
  exact ⟨s₂, o, XT.i2c X.here K.exec rfl (hb K.kb hd) rfl hs, r⟩
theorem i2s {x : Int32} (K : Ok κ l Z n0 own nm bytes maxL ret rm Q) (hd : decode bytes pc = .ok (.i2s, 1))  (hr : Go κ h cells slots (pc + 1) Ls (.int x.toInt16.toInt32 :: st)) : Go κ h cells slots pc Ls (.int x :: st) := fun T locs vm0 X A hZ N B eT => by
  obtain ⟨s₂, o, hs, r⟩ := hr T locs vm0 X A hZ N B eT
  exact ⟨s₂, o, XT.i2s X.here K.exec rfl (hb K.kb hd) rfl hs, r⟩
theorem lcmp {x y : Int64} (K : Ok κ l Z n0 own nm bytes maxL ret rm Q) (hd : decode bytes pc = .ok (.lcmp, 1))  (hr : Go κ h cells slots (pc + 1) Ls (.int (XT.cmpL x y) :: st)) : Go κ h cells slots pc Ls (.long y :: .long x :: st) := fun T locs vm0 X A hZ N B eT => by
  obtain ⟨s₂, o, hs, r⟩ := hr T locs vm0 X A hZ N B eT
  exact ⟨s₂, o, XT.lcmp X.here K.exec rfl (hb K.kb hd) rfl hs, r⟩
theorem dup {x : Value} (K : Ok κ l Z n0 own nm bytes maxL ret rm Q) (hd : decode bytes pc = .ok (.dup, 1)) (hc : x.category = 1) (hr : Go κ h cells slots (pc + 1) Ls (x :: x :: st)) : Go κ h cells slots pc Ls (x :: st) := fun T locs vm0 X A hZ N B eT => by
  obtain ⟨s₂, o, hs, r⟩ := hr T locs vm0 X A hZ N B eT
  exact ⟨s₂, o, XS.dup X.here K.exec rfl (hb K.kb hd) rfl hc hs, r⟩
theorem pop {x : Value} (K : Ok κ l Z n0 own nm bytes maxL ret rm Q) (hd : decode bytes pc = .ok (.pop, 1)) (hc : x.category = 1) (hr : Go κ h cells slots (pc + 1) Ls (st)) : Go κ h cells slots pc Ls (x :: st) := fun T locs vm0 X A hZ N B eT => by
  obtain ⟨s₂, o, hs, r⟩ := hr T locs vm0 X A hZ N B eT
  exact ⟨s₂, o, XT.pop X.here K.exec rfl (hb K.kb hd) rfl hc hs, r⟩
theorem dupX1 {x y : Value} (K : Ok κ l Z n0 own nm bytes maxL ret rm Q) (hd : decode bytes pc = .ok (.dup_x1, 1)) (hc : x.category = 1) (hc' : y.category = 1) (hr : Go κ h cells slots (pc + 1) Ls (x :: y :: x :: st)) : Go κ h cells slots pc Ls (x :: y :: st) := fun T locs vm0 X A hZ N B eT => by
  obtain ⟨s₂, o, hs, r⟩ := hr T locs vm0 X A hZ N B eT
  exact ⟨s₂, o, XT.dupX1 X.here K.exec rfl (hb K.kb hd) rfl hc hc' hs, r⟩
theorem dup2 {x y : Value} (K : Ok κ l Z n0 own nm bytes maxL ret rm Q) (hd : decode bytes pc = .ok (.dup2, 1)) (hc : x.category = 1) (hc' : y.category = 1) (hr : Go κ h cells slots (pc + 1) Ls (x :: y :: x :: y :: st)) : Go κ h cells slots pc Ls (x :: y :: st) := fun T locs vm0 X A hZ N B eT => by
  obtain ⟨s₂, o, hs, r⟩ := hr T locs vm0 X A hZ N B eT
  exact ⟨s₂, o, XT.dup2 X.here K.exec rfl (hb K.kb hd) rfl hc hc' hs, r⟩
theorem dup2L {x : Int64} (K : Ok κ l Z n0 own nm bytes maxL ret rm Q) (hd : decode bytes pc = .ok (.dup2, 1))  (hr : Go κ h cells slots (pc + 1) Ls (.long x :: .long x :: st)) : Go κ h cells slots pc Ls (.long x :: st) := fun T locs vm0 X A hZ N B eT => by
  obtain ⟨s₂, o, hs, r⟩ := hr T locs vm0 X A hZ N B eT
  exact ⟨s₂, o, XT.dup2L X.here K.exec rfl (hb K.kb hd) rfl hs, r⟩
theorem iinc {k : Nat} {cst : Int} {x : Int32} {l' : Array Slot} (K : Ok κ l Z n0 own nm bytes maxL ret rm Q) (hd : decode bytes pc = .ok (.iinc k cst, 3)) (hl : Ls[k]? = some (.val (.int x))) (hl' : storeLocals Ls k (.int (x + Int32.ofInt cst)) = some l') (hr : Go κ h cells slots (pc + 3) l' (st)) : Go κ h cells slots pc Ls (st) := fun T locs vm0 X A hZ N B eT => by
  obtain ⟨s₂, o, hs, r⟩ := hr T locs vm0 X A hZ N B eT
  exact ⟨s₂, o, XS.iinc X.here K.exec rfl (hb K.kb hd) hl hl' hs, r⟩
theorem irem {x y : Int32} (K : Ok κ l Z n0 own nm bytes maxL ret rm Q) (hd : decode bytes pc = .ok (.irem, 1)) (hy : y ≠ 0) (hr : Go κ h cells slots (pc + 1) Ls (.int (x % y) :: st)) : Go κ h cells slots pc Ls (.int y :: .int x :: st) := fun T locs vm0 X A hZ N B eT => by
  obtain ⟨s₂, o, hs, r⟩ := hr T locs vm0 X A hZ N B eT
  exact ⟨s₂, o, iremM X K.exec rfl (hb K.kb hd) rfl hy hs, r⟩
theorem lrem {x y : Int64} (K : Ok κ l Z n0 own nm bytes maxL ret rm Q) (hd : decode bytes pc = .ok (.lrem, 1)) (hy : y ≠ 0) (hr : Go κ h cells slots (pc + 1) Ls (.long (x % y) :: st)) : Go κ h cells slots pc Ls (.long y :: .long x :: st) := fun T locs vm0 X A hZ N B eT => by
  obtain ⟨s₂, o, hs, r⟩ := hr T locs vm0 X A hZ N B eT
  exact ⟨s₂, o, XT.lrem X.here K.exec rfl (hb K.kb hd) rfl hy (by rw [lrem_mod]; exact hs), r⟩
theorem goto {o' : Int} {pc' : Nat} (K : Ok κ l Z n0 own nm bytes maxL ret rm Q) (hd : decode bytes pc = .ok (.goto o', 3)) (ho : 0 ≤ (pc : Int) + o') (hp : ((pc : Int) + o').toNat = pc') (hr : Go κ h cells slots pc' Ls st) : Go κ h cells slots pc Ls st := fun T locs vm0 X A hZ N B eT => by
  obtain ⟨s₂, o, hs, r⟩ := hr T locs vm0 X A hZ N B eT
  exact ⟨s₂, o, XS.goto X.here K.exec rfl rfl (hb K.kb hd) ho hp hs, r⟩
/-! ## branches: both roads, each with what is known on it -/
theorem ifB {cd : ClassFile.Cond} {x : Int32} {o' : Int} {pc' : Nat} (K : Ok κ l Z n0 own nm bytes maxL ret rm Q) (hd : decode bytes pc = .ok (.ifCond cd o', 3)) (ho : 0 ≤ (pc : Int) + o') (hp : ((pc : Int) + o').toNat = pc')
    (hy : if_icmp.holds cd x 0 = true → Go κ h cells slots pc' Ls st) (hn : if_icmp.holds cd x 0 = false → Go κ h cells slots (pc + 3) Ls st) : Go κ h cells slots pc Ls (.int x :: st) := fun T locs vm0 X A hZ N B eT => by
  cases hc : if_icmp.holds cd x 0 with
  | true => obtain ⟨s₂, o, hs, r⟩ := hy hc T locs vm0 X A hZ N B eT; exact ⟨s₂, o, XS.ifYes X.here K.exec rfl rfl (hb K.kb hd) rfl ((if0 _ _).trans hc) ho hp hs, r⟩
  | false => obtain ⟨s₂, o, hs, r⟩ := hn hc T locs vm0 X A hZ N B eT; exact ⟨s₂, o, XS.ifNo X.here K.exec rfl (hb K.kb hd) rfl ((if0 _ _).trans hc) hs, r⟩
theorem icB {cd : ClassFile.Cond} {x y : Int32} {o' : Int} {pc' : Nat} (K : Ok κ l Z n0 own nm bytes maxL ret rm Q) (hd : decode bytes pc = .ok (.if_icmp cd o', 3)) (ho : 0 ≤ (pc : Int) + o') (hp : ((pc : Int) + o').toNat = pc')
    (hy : if_icmp.holds cd x y = true → Go κ h cells slots pc' Ls st) (hn : if_icmp.holds cd x y = false → Go κ h cells slots (pc + 3) Ls st) : Go κ h cells slots pc Ls (.int y :: .int x :: st) := fun T locs vm0 X A hZ N B eT => by
  cases hc : if_icmp.holds cd x y with
  | true => obtain ⟨s₂, o, hs, r⟩ := hy hc T locs vm0 X A hZ N B eT; exact ⟨s₂, o, XS.icmpYes X.here K.exec rfl rfl (hb K.kb hd) rfl hc ho hp hs, r⟩
  | false => obtain ⟨s₂, o, hs, r⟩ := hn hc T locs vm0 X A hZ N B eT; exact ⟨s₂, o, XS.icmpNo X.here K.exec rfl (hb K.kb hd) rfl hc hs, r⟩
theorem h_eq (x y : Int32) : (if_icmp.holds .eq x y = true ↔ x = y) ∧ (if_icmp.holds .eq x y = false ↔ ¬ x = y) := by simp [if_icmp.holds]
theorem h_ne (x y : Int32) : (if_icmp.holds .ne x y = true ↔ ¬ x = y) ∧ (if_icmp.holds .ne x y = false ↔ x = y) := by simp [if_icmp.holds]
theorem h_lt (x y : Int32) : (if_icmp.holds .lt x y = true ↔ x.toInt < y.toInt) ∧ (if_icmp.holds .lt x y = false ↔ y.toInt ≤ x.toInt) := by simp [if_icmp.holds, Int32.lt_iff_toInt_lt]
theorem h_ge (x y : Int32) : (if_icmp.holds .ge x y = true ↔ y.toInt ≤ x.toInt) ∧ (if_icmp.holds .ge x y = false ↔ x.toInt < y.toInt) := by simp [if_icmp.holds, Int32.le_iff_toInt_le]
theorem h_gt (x y : Int32) : (if_icmp.holds .gt x y = true ↔ y.toInt < x.toInt) ∧ (if_icmp.holds .gt x y = false ↔ x.toInt ≤ y.toInt) := by simp [if_icmp.holds, Int32.lt_iff_toInt_lt]
theorem h_le (x y : Int32) : (if_icmp.holds .le x y = true ↔ x.toInt ≤ y.toInt) ∧ (if_icmp.holds .le x y = false ↔ y.toInt < x.toInt) := by simp [if_icmp.holds, Int32.le_iff_toInt_le]
theorem ifeq {x : Int32} {o' : Int} {pc' : Nat} (K : Ok κ l Z n0 own nm bytes maxL ret rm Q) (hd : decode bytes pc = .ok (.ifCond .eq o', 3)) (ho : 0 ≤ (pc : Int) + o') (hp : ((pc : Int) + o').toNat = pc')
    (hy : x = (0 : Int32) → Go κ h cells slots pc' Ls st) (hn : ¬ x = (0 : Int32) → Go κ h cells slots (pc + 3) Ls st) : Go κ h cells slots pc Ls (.int x :: st) :=
  ifB K hd ho hp (fun q => hy ((h_eq _ _).1.mp q)) (fun q => hn ((h_eq _ _).2.mp q))
theorem icmpeq {x y : Int32} {o' : Int} {pc' : Nat} (K : Ok κ l Z n0 own nm bytes maxL ret rm Q) (hd : decode bytes pc = .ok (.if_icmp .eq o', 3)) (ho : 0 ≤ (pc : Int) + o') (hp : ((pc : Int) + o').toNat = pc')
    (hy : x = y → Go κ h cells slots pc' Ls st) (hn : ¬ x = y → Go κ h cells slots (pc + 3) Ls st) : Go κ h cells slots pc Ls (.int y :: .int x :: st) :=
  icB K hd ho hp (fun q => hy ((h_eq _ _).1.mp q)) (fun q => hn ((h_eq _ _).2.mp q))
theorem ifne {x : Int32} {o' : Int} {pc' : Nat} (K : Ok κ l Z n0 own nm bytes maxL ret rm Q) (hd : decode bytes pc = .ok (.ifCond .ne o', 3)) (ho : 0 ≤ (pc : Int) + o') (hp : ((pc : Int) + o').toNat = pc')
    (hy : ¬ x = (0 : Int32) → Go κ h cells slots pc' Ls st) (hn : x = (0 : Int32) → Go κ h cells slots (pc + 3) Ls st) : Go κ h cells slots pc Ls (.int x :: st) :=
  ifB K hd ho hp (fun q => hy ((h_ne _ _).1.mp q)) (fun q => hn ((h_ne _ _).2.mp q))
theorem icmpne {x y : Int32} {o' : Int} {pc' : Nat} (K : Ok κ l Z n0 own nm bytes maxL ret rm Q) (hd : decode bytes pc = .ok (.if_icmp .ne o', 3)) (ho : 0 ≤ (pc : Int) + o') (hp : ((pc : Int) + o').toNat = pc')
    (hy : ¬ x = y → Go κ h cells slots pc' Ls st) (hn : x = y → Go κ h cells slots (pc + 3) Ls st) : Go κ h cells slots pc Ls (.int y :: .int x :: st) :=
  icB K hd ho hp (fun q => hy ((h_ne _ _).1.mp q)) (fun q => hn ((h_ne _ _).2.mp q))
theorem iflt {x : Int32} {o' : Int} {pc' : Nat} (K : Ok κ l Z n0 own nm bytes maxL ret rm Q) (hd : decode bytes pc = .ok (.ifCond .lt o', 3)) (ho : 0 ≤ (pc : Int) + o') (hp : ((pc : Int) + o').toNat = pc')
    (hy : x.toInt < (0 : Int) → Go κ h cells slots pc' Ls st) (hn : (0 : Int) ≤ x.toInt → Go κ h cells slots (pc + 3) Ls st) : Go κ h cells slots pc Ls (.int x :: st) :=
  ifB K hd ho hp (fun q => hy ((h_lt _ _).1.mp q)) (fun q => hn ((h_lt _ _).2.mp q))
theorem icmplt {x y : Int32} {o' : Int} {pc' : Nat} (K : Ok κ l Z n0 own nm bytes maxL ret rm Q) (hd : decode bytes pc = .ok (.if_icmp .lt o', 3)) (ho : 0 ≤ (pc : Int) + o') (hp : ((pc : Int) + o').toNat = pc')
    (hy : x.toInt < y.toInt → Go κ h cells slots pc' Ls st) (hn : y.toInt ≤ x.toInt → Go κ h cells slots (pc + 3) Ls st) : Go κ h cells slots pc Ls (.int y :: .int x :: st) :=
  icB K hd ho hp (fun q => hy ((h_lt _ _).1.mp q)) (fun q => hn ((h_lt _ _).2.mp q))
theorem ifge {x : Int32} {o' : Int} {pc' : Nat} (K : Ok κ l Z n0 own nm bytes maxL ret rm Q) (hd : decode bytes pc = .ok (.ifCond .ge o', 3)) (ho : 0 ≤ (pc : Int) + o') (hp : ((pc : Int) + o').toNat = pc')
    (hy : (0 : Int) ≤ x.toInt → Go κ h cells slots pc' Ls st) (hn : x.toInt < (0 : Int) → Go κ h cells slots (pc + 3) Ls st) : Go κ h cells slots pc Ls (.int x :: st) :=
  ifB K hd ho hp (fun q => hy ((h_ge _ _).1.mp q)) (fun q => hn ((h_ge _ _).2.mp q))
theorem icmpge {x y : Int32} {o' : Int} {pc' : Nat} (K : Ok κ l Z n0 own nm bytes maxL ret rm Q) (hd : decode bytes pc = .ok (.if_icmp .ge o', 3)) (ho : 0 ≤ (pc : Int) + o') (hp : ((pc : Int) + o').toNat = pc')
    (hy : y.toInt ≤ x.toInt → Go κ h cells slots pc' Ls st) (hn : x.toInt < y.toInt → Go κ h cells slots (pc + 3) Ls st) : Go κ h cells slots pc Ls (.int y :: .int x :: st) :=
  icB K hd ho hp (fun q => hy ((h_ge _ _).1.mp q)) (fun q => hn ((h_ge _ _).2.mp q))
theorem ifgt {x : Int32} {o' : Int} {pc' : Nat} (K : Ok κ l Z n0 own nm bytes maxL ret rm Q) (hd : decode bytes pc = .ok (.ifCond .gt o', 3)) (ho : 0 ≤ (pc : Int) + o') (hp : ((pc : Int) + o').toNat = pc')
    (hy : (0 : Int) < x.toInt → Go κ h cells slots pc' Ls st) (hn : x.toInt ≤ (0 : Int) → Go κ h cells slots (pc + 3) Ls st) : Go κ h cells slots pc Ls (.int x :: st) :=
  ifB K hd ho hp (fun q => hy ((h_gt _ _).1.mp q)) (fun q => hn ((h_gt _ _).2.mp q))
theorem icmpgt {x y : Int32} {o' : Int} {pc' : Nat} (K : Ok κ l Z n0 own nm bytes maxL ret rm Q) (hd : decode bytes pc = .ok (.if_icmp .gt o', 3)) (ho : 0 ≤ (pc : Int) + o') (hp : ((pc : Int) + o').toNat = pc')
    (hy : y.toInt < x.toInt → Go κ h cells slots pc' Ls st) (hn : x.toInt ≤ y.toInt → Go κ h cells slots (pc + 3) Ls st) : Go κ h cells slots pc Ls (.int y :: .int x :: st) :=
  icB K hd ho hp (fun q => hy ((h_gt _ _).1.mp q)) (fun q => hn ((h_gt _ _).2.mp q))
theorem ifle {x : Int32} {o' : Int} {pc' : Nat} (K : Ok κ l Z n0 own nm bytes maxL ret rm Q) (hd : decode bytes pc = .ok (.ifCond .le o', 3)) (ho : 0 ≤ (pc : Int) + o') (hp : ((pc : Int) + o').toNat = pc')
    (hy : x.toInt ≤ (0 : Int) → Go κ h cells slots pc' Ls st) (hn : (0 : Int) < x.toInt → Go κ h cells slots (pc + 3) Ls st) : Go κ h cells slots pc Ls (.int x :: st) :=
  ifB K hd ho hp (fun q => hy ((h_le _ _).1.mp q)) (fun q => hn ((h_le _ _).2.mp q))
theorem icmple {x y : Int32} {o' : Int} {pc' : Nat} (K : Ok κ l Z n0 own nm bytes maxL ret rm Q) (hd : decode bytes pc = .ok (.if_icmp .le o', 3)) (ho : 0 ≤ (pc : Int) + o') (hp : ((pc : Int) + o').toNat = pc')
    (hy : x.toInt ≤ y.toInt → Go κ h cells slots pc' Ls st) (hn : y.toInt < x.toInt → Go κ h cells slots (pc + 3) Ls st) : Go κ h cells slots pc Ls (.int y :: .int x :: st) :=
  icB K hd ho hp (fun q => hy ((h_le _ _).1.mp q)) (fun q => hn ((h_le _ _).2.mp q))
theorem ifnull {x : Value} {o' : Int} {pc' : Nat} (K : Ok κ l Z n0 own nm bytes maxL ret rm Q) (hd : decode bytes pc = .ok (.ifnull o', 3)) (ho : 0 ≤ (pc : Int) + o') (hp : ((pc : Int) + o').toNat = pc') (hx : x.isRef = true)
    (hy : x = .null → Go κ h cells slots pc' Ls st) (hn : ∀ a, x = .ref a → Go κ h cells slots (pc + 3) Ls st) : Go κ h cells slots pc Ls (x :: st) := fun T locs vm0 X A hZ N B eT => by
  rcases ref_cases hx with rfl | ⟨a, rfl⟩
  · obtain ⟨s₂, o, hs, r⟩ := hy rfl T locs vm0 X A hZ N B eT; exact ⟨s₂, o, XS.ifnullYes X.here K.exec rfl rfl (hb K.kb hd) rfl ho hp hs, r⟩
  · obtain ⟨s₂, o, hs, r⟩ := hn a rfl T locs vm0 X A hZ N B eT; exact ⟨s₂, o, XS.ifnullNo X.here K.exec rfl (hb K.kb hd) rfl hs, r⟩
theorem ifnonnull {x : Value} {o' : Int} {pc' : Nat} (K : Ok κ l Z n0 own nm bytes maxL ret rm Q) (hd : decode bytes pc = .ok (.ifnonnull o', 3)) (ho : 0 ≤ (pc : Int) + o') (hp : ((pc : Int) + o').toNat = pc') (hx : x.isRef = true)
    (hy : ∀ a, x = .ref a → Go κ h cells slots pc' Ls st) (hn : x = .null → Go κ h cells slots (pc + 3) Ls st) : Go κ h cells slots pc Ls (x :: st) := fun T locs vm0 X A hZ N B eT => by
  rcases ref_cases hx with rfl | ⟨a, rfl⟩
  · obtain ⟨s₂, o, hs, r⟩ := hn rfl T locs vm0 X A hZ N B eT; exact ⟨s₂, o, XT.ifnonnullNo X.here K.exec rfl (hb K.kb hd) rfl hs, r⟩
  · obtain ⟨s₂, o, hs, r⟩ := hy a rfl T locs vm0 X A hZ N B eT; exact ⟨s₂, o, XT.ifnonnullYes X.here K.exec rfl rfl (hb K.kb hd) rfl ho hp hs, r⟩
theorem acB {cd : ACond} {x y : Value} {o' : Int} {pc' : Nat} (K : Ok κ l Z n0 own nm bytes maxL ret rm Q) (hd : decode bytes pc = .ok (.if_acmp cd o', 3)) (ho : 0 ≤ (pc : Int) + o') (hp : ((pc : Int) + o').toNat = pc') (hx : x.isRef = true) (hy : y.isRef = true)
    (ht : acV cd (decide (x = y)) = true → Go κ h cells slots pc' Ls st) (hn : acV cd (decide (x = y)) = false → Go κ h cells slots (pc + 3) Ls st) : Go κ h cells slots pc Ls (y :: x :: st) := fun T locs vm0 X A hZ N B eT => by
  cases hc : acV cd (decide (x = y)) with
  | true => obtain ⟨s₂, o, hs, r⟩ := ht hc T locs vm0 X A hZ N B eT; exact ⟨s₂, o, acmp X K.exec rfl hx hy rfl (hb K.kb hd) rfl rfl ho (by rw [hc, if_pos rfl, hp]) hs, r⟩
  | false => obtain ⟨s₂, o, hs, r⟩ := hn hc T locs vm0 X A hZ N B eT; exact ⟨s₂, o, acmp X K.exec rfl hx hy rfl (hb K.kb hd) rfl rfl ho (by rw [hc]; simp) hs, r⟩
theorem acmpeq {x y : Value} {o' : Int} {pc' : Nat} (K : Ok κ l Z n0 own nm bytes maxL ret rm Q) (hd : decode bytes pc = .ok (.if_acmp .eq o', 3)) (ho : 0 ≤ (pc : Int) + o') (hp : ((pc : Int) + o').toNat = pc') (hx : x.isRef = true) (hy : y.isRef = true)
    (ht : x = y → Go κ h cells slots pc' Ls st) (hn : ¬ x = y → Go κ h cells slots (pc + 3) Ls st) : Go κ h cells slots pc Ls (y :: x :: st) :=
  acB K hd ho hp hx hy (fun q => ht (by simpa [acV] using q)) (fun q => hn (by simpa [acV] using q))
theorem acmpne {x y : Value} {o' : Int} {pc' : Nat} (K : Ok κ l Z n0 own nm bytes maxL ret rm Q) (hd : decode bytes pc = .ok (.if_acmp .ne o', 3)) (ho : 0 ≤ (pc : Int) + o') (hp : ((pc : Int) + o').toNat = pc') (hx : x.isRef = true) (hy : y.isRef = true)
    (ht : ¬ x = y → Go κ h cells slots pc' Ls st) (hn : x = y → Go κ h cells slots (pc + 3) Ls st) : Go κ h cells slots pc Ls (y :: x :: st) :=
  acB K hd ho hp hx hy (fun q => ht (by simpa [acV] using q)) (fun q => hn (by simpa [acV] using q))
/-! ## constants of the pool -/
variable {a0 : Array Value}
theorem ldcI {index : Nat} {v : Int32} (K : Ok κ l Z n0 own nm bytes maxL ret rm Q) (hd : decode bytes pc = .ok (.ldc index, 2)) (w : (Cond.constant own index v).before a0 Z = true) (hr : Go κ h cells slots (pc + 2) Ls (.int v :: st)) : Go κ h cells slots pc Ls st := fun T locs vm0 X A hZ N B eT => by
  obtain ⟨s₂, o, hs, r⟩ := hr T locs vm0 X A hZ N B eT
  exact ⟨s₂, o, Jvm.Stand.ldcI X K.exec (K.ko A) (mvT (K.warm hZ) w) rfl (hb K.kb hd) hs, r⟩
theorem ldc2J {index : Nat} {v : Int64} (K : Ok κ l Z n0 own nm bytes maxL ret rm Q) (hd : decode bytes pc = .ok (.ldc2_w index, 3)) (w : (Cond.constantLong own index v).before a0 Z = true) (hr : Go κ h cells slots (pc + 3) Ls (.long v :: st)) : Go κ h cells slots pc Ls st := fun T locs vm0 X A hZ N B eT => by
  obtain ⟨s₂, o, hs, r⟩ := hr T locs vm0 X A hZ N B eT
  exact ⟨s₂, o, Jvm.Stand.ldc2J X K.exec (K.ko A) (mvT (K.warm hZ) w) rfl (hb K.kb hd) hs, r⟩
/-! ## the heap -/
theorem getfield {R0 O n d host : String} {index : Nat} {a : Addr} {v : Value} (K : Ok κ l Z n0 own nm bytes maxL ret rm Q) (hd : decode bytes pc = .ok (.getfield index, 3))
    (w : (Cond.fieldLink own index R0 n d).before a0 Z = true ∨ (Cond.fieldLinkNest own index R0 n d host).before a0 Z = true) (via : Via Z R0 O n d) (F : Fld Z h a O n d v) (hr : Go κ h cells slots (pc + 3) Ls (v :: st)) : Go κ h cells slots pc Ls (.ref a :: st) := fun T locs vm0 X A hZ N B eT => by
  obtain ⟨T', X', e', st1⟩ := getF X K.exec (K.warm hZ) (K.ko A) w via eT F (g := mkF κ.m pc Ls (.ref a :: st)) rfl rfl (hb K.kb hd)
  obtain ⟨s₂, o, hs, r⟩ := hr T' locs vm0 X' A hZ N B e'
  exact ⟨s₂, o, st1 _ hs, r⟩
theorem getstatic {R0 O n d host : String} {index : Nat} {v : Value} (K : Ok κ l Z n0 own nm bytes maxL ret rm Q) (hd : decode bytes pc = .ok (.getstatic index, 3))
    (w : (Cond.fieldLink own index R0 n d).before a0 Z = true ∨ (Cond.fieldLinkNest own index R0 n d host).before a0 Z = true) (via : Via Z R0 O n d) (F : Sta Z h O n d v) (hr : Go κ h cells slots (pc + 3) Ls (v :: st)) : Go κ h cells slots pc Ls st := fun T locs vm0 X A hZ N B eT => by
  obtain ⟨T', X', e', st1⟩ := getS2 X K.exec (K.warm hZ) (K.ko A) w via eT F (g := mkF κ.m pc Ls st) rfl (hb K.kb hd)
  obtain ⟨s₂, o, hs, r⟩ := hr T' locs vm0 X' A hZ N B e'
  exact ⟨s₂, o, st1 _ hs, r⟩
theorem putfield {R0 O n d host C : String} {index kk : Nat} {ty : FieldType} {a : Addr} {v old : Value} (K : Ok κ l Z n0 own nm bytes maxL ret rm Q) (hd : decode bytes pc = .ok (.putfield index, 3))
    (w : (Cond.fieldLink own index R0 n d).before a0 Z = true ∨ (Cond.fieldLinkNest own index R0 n d host).before a0 Z = true) (via : Via Z R0 O n d) (F : Fld Z h a O n d old) (E : Exa Z h a C) (L : (Cond.lays C O n d).before a0 Z = true ∨ ((Cond.laysFinal C O n d).before a0 Z = true ∧ own = O ∧ nm = "<init>")) (wi : (Cond.instantiable C kk).before a0 Z = true)
    (hty : parseFieldDescriptor d = some ty) (hn : narrow ty v = v) (hf : fits ty v = true) (ge : n0 ≤ a) (hr : ∀ h', Wr h h' a (Jvm.RoadKit.slotOf Z O n d) v → Go κ h' cells slots (pc + 3) Ls st) : Go κ h cells slots pc Ls (v :: .ref a :: st) := fun T locs vm0 X A hZ N B eT => by
  obtain ⟨T', h', X', e', W, st1⟩ := putF X K.exec (K.warm hZ) (K.ko A) w via eT F E (L.imp id fun q => ⟨q.1, q.2.1, K.name.trans q.2.2⟩) wi hty hn hf (g := mkF κ.m pc Ls (v :: .ref a :: st)) rfl rfl (hb K.kb hd)
  obtain ⟨s₂, o, hs, r⟩ := hr h' W T' _ vm0 X' (A.mono (Nat.le_of_eq W.size.symm)) hZ (Fr.snoc X' N (by rw [K.en]; exact ge)) (B.wr W (by rw [K.en]; exact ge)) e'
  exact ⟨s₂, o, st1 _ hs, r⟩
theorem newObj {C : String} {index n : Nat} (K : Ok κ l Z n0 own nm bytes maxL ret rm Q) (hd : decode bytes pc = .ok (.new index, 3)) (w : (Cond.classLink own index C).before a0 Z = true) (wi : (Cond.instantiable C n).before a0 Z = true) (wz : (Cond.initialized C).before a0 Z = true)
    (hc : cells + 1 ≤ rm.cells) (hl : slots + n ≤ rm.slots)
    (hr : ∀ h' a, a = h.size → n0 ≤ a → Ext h h' → Exa Z h' a C → (∀ {O nm d : String} {ty : FieldType}, Laid Z a0 C O nm d → parseFieldDescriptor d = some ty → Fld Z h' a O nm d (defaultValue ty)) → Unt h' a → Go κ h' (cells + 1) (slots + n) (pc + 3) Ls (.ref a :: st)) : Go κ h cells slots pc Ls st := fun T locs vm0 X A hZ N B eT => by
  obtain ⟨T', h', X', e', E, EX, D, U, st1⟩ := newO X K.exec (K.warm hZ) (K.ko A) w wi wz eT (g := mkF κ.m pc Ls st) rfl (hb K.kb hd) (by rw [K.eR]; exact hc) (by rw [K.eR]; exact hl)
  obtain ⟨s₂, o, hs, r⟩ := hr h' h.size rfl (low_of (K.old B)) E EX D U T' _ vm0 X' (A.mono E.1) hZ N (B.ext E) e'
  exact ⟨s₂, o, st1 _ hs, r⟩
theorem newArr {aty : ArrayType} {n : Int32} {cap : Nat} {ad : String} (K : Ok κ l Z n0 own nm bytes maxL ret rm Q) (hd : decode bytes pc = .ok (.newarray aty, 2)) (w : (Cond.arrayClass (newarray.typeOf aty)).before a0 Z = true) (hn : ¬ n < 0) (hcap : n.toNatClampNeg ≤ cap) (hb8 : cap * 8 ≤ 536870912) (had : "[" ++ (newarray.typeOf aty).toString = ad)
    (hc : cells + 1 ≤ rm.cells) (hl : slots + cap ≤ rm.slots)
    (hr : ∀ h' a cA, a = h.size → n0 ≤ a → Ext h h' → Arr Z h' a (newA cA (newarray.typeOf aty) n) (newarray.typeOf aty) → Exa Z h' a ad → Go κ h' (cells + 1) (slots + cap) (pc + 2) Ls (.ref a :: st)) : Go κ h cells slots pc Ls (.int n :: st) := fun T locs vm0 X A hZ N B eT => by
  obtain ⟨T', h', cA, X', e', E, AR, EX, st1⟩ := newPE X K.exec (K.warm hZ) w eT (g := mkF κ.m pc Ls (.int n :: st)) rfl (hb K.kb hd) rfl hn hcap hb8 (by rw [K.eR]; exact hc) (by rw [K.eR]; exact hl) had
  obtain ⟨s₂, o, hs, r⟩ := hr h' h.size cA rfl (low_of (K.old B)) E AR EX T' _ vm0 X' (A.mono E.1) hZ N (B.ext E) e'
  exact ⟨s₂, o, st1 _ hs, r⟩
theorem anewArr {C : String} {index : Nat} {n : Int32} {cap : Nat} (K : Ok κ l Z n0 own nm bytes maxL ret rm Q) (hd : decode bytes pc = .ok (.anewarray index, 3)) (w1 : (Cond.classLink own index C).before a0 Z = true) (w2 : (Cond.arrayOver (.object C)).before a0 Z = true) (hn : ¬ n < 0) (hcap : n.toNatClampNeg ≤ cap) (hb8 : cap * 8 ≤ 536870912)
    (hc : cells + 1 ≤ rm.cells) (hl : slots + cap ≤ rm.slots)
    (hr : ∀ h' a cA, a = h.size → n0 ≤ a → Ext h h' → Arr Z h' a (newA cA (.object C) n) (.object C) → Ovr Z cA C → Go κ h' (cells + 1) (slots + cap) (pc + 3) Ls (.ref a :: st)) : Go κ h cells slots pc Ls (.int n :: st) := fun T locs vm0 X A hZ N B eT => by
  obtain ⟨T', h', cA, X', e', E, AR, OV, st1⟩ := newR X K.exec (K.warm hZ) (K.ko A) w1 w2 eT (g := mkF κ.m pc Ls (.int n :: st)) rfl (hb K.kb hd) rfl hn hcap hb8 (by rw [K.eR]; exact hc) (by rw [K.eR]; exact hl)
  obtain ⟨s₂, o, hs, r⟩ := hr h' h.size cA rfl (low_of (K.old B)) E AR OV T' _ vm0 X' (A.mono E.1) hZ N (B.ext E) e'
  exact ⟨s₂, o, st1 _ hs, r⟩
theorem arrLen {ty : FieldType} {a : Addr} {cl : Cell} {z : Int32} (K : Ok κ l Z n0 own nm bytes maxL ret rm Q) (hd : decode bytes pc = .ok (.arraylength, 1)) (A1 : Arr Z h a cl ty) (hz : cl.slots.size.toInt32 = z) (hr : Go κ h cells slots (pc + 1) Ls (.int z :: st)) : Go κ h cells slots pc Ls (.ref a :: st) := fun T locs vm0 X A hZ N B eT => by
  obtain ⟨s₂, o, hs, r⟩ := hr T locs vm0 X A hZ N B eT
  exact ⟨s₂, o, X.arraylength K.exec (by rw [eT]; exact A1.1) (State.isArrayOf_alike (K.warm hZ).alike A1.2.1) (g := mkF κ.m pc Ls (.ref a :: st)) rfl rfl (hb K.kb hd) _ (by rw [hz]; exact hs), r⟩
theorem iaload {a : Addr} {cl : Cell} {j : Int32} {v : Value} (K : Ok κ l Z n0 own nm bytes maxL ret rm Q) (hd : decode bytes pc = .ok (.iaload, 1)) (A1 : Arr Z h a cl .int) (hin : ¬ (j < 0 ∨ cl.slots.size ≤ j.toNatClampNeg)) (hv : cl.slots[j.toNatClampNeg]? = some v)
    (hr : Go κ h cells slots (pc + 1) Ls (v :: st)) : Go κ h cells slots pc Ls (.int j :: .ref a :: st) := fun T locs vm0 X A hZ N B eT => by
  obtain ⟨s₂, o, hs, r⟩ := hr T locs vm0 X A hZ N B eT
  exact ⟨s₂, o, X.iaload K.exec (by rw [eT]; exact A1.1) (State.isArrayOf_alike (K.warm hZ).alike A1.2.1) A1.2.2 hin hv (g := mkF κ.m pc Ls (.int j :: .ref a :: st)) rfl rfl (hb K.kb hd) _ hs, r⟩
theorem laload {a : Addr} {cl : Cell} {j : Int32} {v : Value} (K : Ok κ l Z n0 own nm bytes maxL ret rm Q) (hd : decode bytes pc = .ok (.laload, 1)) (A1 : Arr Z h a cl .long) (hin : ¬ (j < 0 ∨ cl.slots.size ≤ j.toNatClampNeg)) (hv : cl.slots[j.toNatClampNeg]? = some v)
    (hr : Go κ h cells slots (pc + 1) Ls (v :: st)) : Go κ h cells slots pc Ls (.int j :: .ref a :: st) := fun T locs vm0 X A hZ N B eT => by
  obtain ⟨s₂, o, hs, r⟩ := hr T locs vm0 X A hZ N B eT
  exact ⟨s₂, o, X.laload K.exec (by rw [eT]; exact A1.1) (State.isArrayOf_alike (K.warm hZ).alike A1.2.1) A1.2.2 hin hv (g := mkF κ.m pc Ls (.int j :: .ref a :: st)) rfl rfl (hb K.kb hd) _ hs, r⟩
theorem caload {a : Addr} {cl : Cell} {j : Int32} {v : Value} (K : Ok κ l Z n0 own nm bytes maxL ret rm Q) (hd : decode bytes pc = .ok (.caload, 1)) (A1 : Arr Z h a cl .char) (hin : ¬ (j < 0 ∨ cl.slots.size ≤ j.toNatClampNeg)) (hv : cl.slots[j.toNatClampNeg]? = some v)
    (hr : Go κ h cells slots (pc + 1) Ls (v :: st)) : Go κ h cells slots pc Ls (.int j :: .ref a :: st) := fun T locs vm0 X A hZ N B eT => by
  obtain ⟨s₂, o, hs, r⟩ := hr T locs vm0 X A hZ N B eT
  exact ⟨s₂, o, X.caload K.exec (by rw [eT]; exact A1.1) (State.isArrayOf_alike (K.warm hZ).alike A1.2.1) A1.2.2 hin hv (g := mkF κ.m pc Ls (.int j :: .ref a :: st)) rfl rfl (hb K.kb hd) _ hs, r⟩
theorem baload {a : Addr} {cl : Cell} {j : Int32} {v : Value} (K : Ok κ l Z n0 own nm bytes maxL ret rm Q) (hd : decode bytes pc = .ok (.baload, 1)) (A1 : Arr Z h a cl .byte) (hin : ¬ (j < 0 ∨ cl.slots.size ≤ j.toNatClampNeg)) (hv : cl.slots[j.toNatClampNeg]? = some v)
    (hr : Go κ h cells slots (pc + 1) Ls (v :: st)) : Go κ h cells slots pc Ls (.int j :: .ref a :: st) := fun T locs vm0 X A hZ N B eT => by
  obtain ⟨s₂, o, hs, r⟩ := hr T locs vm0 X A hZ N B eT
  exact ⟨s₂, o, X.baloadBytes K.exec (by rw [eT]; exact A1.1) (State.isArrayOf_alike (K.warm hZ).alike A1.2.1) A1.2.2 hin hv (g := mkF κ.m pc Ls (.int j :: .ref a :: st)) rfl rfl (hb K.kb hd) _ hs, r⟩
theorem iastore {a : Addr} {cl : Cell} {j : Int32} {x : Int32} (K : Ok κ l Z n0 own nm bytes maxL ret rm Q) (hd : decode bytes pc = .ok (.iastore, 1)) (A1 : Arr Z h a cl .int) (hj : ¬ (j < 0 ∨ cl.slots.size ≤ j.toNatClampNeg)) (ge : n0 ≤ a)
    (hr : ∀ h', Wr h h' a j.toNatClampNeg (.int x) → Go κ h' cells slots (pc + 1) Ls st) : Go κ h cells slots pc Ls (.int x :: .int j :: .ref a :: st) := fun T locs vm0 X A hZ N B eT => by
  obtain ⟨T', h', X', e', W, st1⟩ := stI X K.exec (K.warm hZ) eT A1 hj (g := mkF κ.m pc Ls (.int x :: .int j :: .ref a :: st)) rfl rfl (hb K.kb hd)
  obtain ⟨s₂, o, hs, r⟩ := hr h' W T' _ vm0 X' (A.mono (Nat.le_of_eq W.size.symm)) hZ (Fr.snoc X' N (by rw [K.en]; exact ge)) (B.wr W (by rw [K.en]; exact ge)) e'
  exact ⟨s₂, o, st1 _ hs, r⟩
theorem lastore {a : Addr} {cl : Cell} {j : Int32} {x : Int64} (K : Ok κ l Z n0 own nm bytes maxL ret rm Q) (hd : decode bytes pc = .ok (.lastore, 1)) (A1 : Arr Z h a cl .long) (hj : ¬ (j < 0 ∨ cl.slots.size ≤ j.toNatClampNeg)) (ge : n0 ≤ a)
    (hr : ∀ h', Wr h h' a j.toNatClampNeg (.long x) → Go κ h' cells slots (pc + 1) Ls st) : Go κ h cells slots pc Ls (.long x :: .int j :: .ref a :: st) := fun T locs vm0 X A hZ N B eT => by
  obtain ⟨T', h', X', e', W, st1⟩ := stJ X K.exec (K.warm hZ) eT A1 hj (g := mkF κ.m pc Ls (.long x :: .int j :: .ref a :: st)) rfl rfl (hb K.kb hd)
  obtain ⟨s₂, o, hs, r⟩ := hr h' W T' _ vm0 X' (A.mono (Nat.le_of_eq W.size.symm)) hZ (Fr.snoc X' N (by rw [K.en]; exact ge)) (B.wr W (by rw [K.en]; exact ge)) e'
  exact ⟨s₂, o, st1 _ hs, r⟩
theorem castore {a : Addr} {cl : Cell} {j : Int32} {x : Int32} (K : Ok κ l Z n0 own nm bytes maxL ret rm Q) (hd : decode bytes pc = .ok (.castore, 1)) (A1 : Arr Z h a cl .char) (hj : ¬ (j < 0 ∨ cl.slots.size ≤ j.toNatClampNeg)) (ge : n0 ≤ a)
    (hr : ∀ h', Wr h h' a j.toNatClampNeg (.int (nar .char x)) → Go κ h' cells slots (pc + 1) Ls st) : Go κ h cells slots pc Ls (.int x :: .int j :: .ref a :: st) := fun T locs vm0 X A hZ N B eT => by
  obtain ⟨T', h', X', e', W, st1⟩ := stC X K.exec (K.warm hZ) eT A1 hj (g := mkF κ.m pc Ls (.int x :: .int j :: .ref a :: st)) rfl rfl (hb K.kb hd)
  obtain ⟨s₂, o, hs, r⟩ := hr h' W T' _ vm0 X' (A.mono (Nat.le_of_eq W.size.symm)) hZ (Fr.snoc X' N (by rw [K.en]; exact ge)) (B.wr W (by rw [K.en]; exact ge)) e'
  exact ⟨s₂, o, st1 _ hs, r⟩
theorem bastore {a : Addr} {cl : Cell} {j : Int32} {x : Int32} (K : Ok κ l Z n0 own nm bytes maxL ret rm Q) (hd : decode bytes pc = .ok (.bastore, 1)) (A1 : Arr Z h a cl .byte) (hj : ¬ (j < 0 ∨ cl.slots.size ≤ j.toNatClampNeg)) (ge : n0 ≤ a)
    (hr : ∀ h', Wr h h' a j.toNatClampNeg (.int x.toInt8.toInt32) → Go κ h' cells slots (pc + 1) Ls st) : Go κ h cells slots pc Ls (.int x :: .int j :: .ref a :: st) := fun T locs vm0 X A hZ N B eT => by
  obtain ⟨T', h', X', e', W, st1⟩ := stB X K.exec (K.warm hZ) eT A1 hj (g := mkF κ.m pc Ls (.int x :: .int j :: .ref a :: st)) rfl rfl (hb K.kb hd)
  obtain ⟨s₂, o, hs, r⟩ := hr h' W T' _ vm0 X' (A.mono (Nat.le_of_eq W.size.symm)) hZ (Fr.snoc X' N (by rw [K.en]; exact ge)) (B.wr W (by rw [K.en]; exact ge)) e'
  exact ⟨s₂, o, st1 _ hs, r⟩
theorem aaload {ty : FieldType} {a : Addr} {cl : Cell} {j : Int32} {v : Value} (K : Ok κ l Z n0 own nm bytes maxL ret rm Q) (hd : decode bytes pc = .ok (.aaload, 1)) (A1 : Arr Z h a cl ty) (hty : ty.isReference = true) (hin : ¬ (j < 0 ∨ cl.slots.size ≤ j.toNatClampNeg)) (hv : cl.slots[j.toNatClampNeg]? = some v)
    (hr : Go κ h cells slots (pc + 1) Ls (v :: st)) : Go κ h cells slots pc Ls (.int j :: .ref a :: st) := fun T locs vm0 X A hZ N B eT => by
  obtain ⟨s₂, o, hs, r⟩ := hr T locs vm0 X A hZ N B eT
  exact ⟨s₂, o, X.aaload K.exec (by rw [eT]; exact A1.1) (State.isArrayOf_alike (K.warm hZ).alike A1.2.1) hty A1.2.2 hin hv (g := mkF κ.m pc Ls (.int j :: .ref a :: st)) rfl rfl (hb K.kb hd) _ hs, r⟩
theorem aastore {ty : FieldType} {a : Addr} {cl : Cell} {j : Int32} {v : Value} (K : Ok κ l Z n0 own nm bytes maxL ret rm Q) (hd : decode bytes pc = .ok (.aastore, 1)) (A1 : Arr Z h a cl ty) (hj : ¬ (j < 0 ∨ cl.slots.size ≤ j.toNatClampNeg)) (hty : ty.isReference = true) (F : Sto Z h a v) (ge : n0 ≤ a)
    (hr : ∀ h', Wr h h' a j.toNatClampNeg v → Go κ h' cells slots (pc + 1) Ls st) : Go κ h cells slots pc Ls (v :: .int j :: .ref a :: st) := fun T locs vm0 X A hZ N B eT => by
  obtain ⟨T', h', X', e', W, st1⟩ := stR X K.exec (K.warm hZ) eT A1 hj hty F (g := mkF κ.m pc Ls (v :: .int j :: .ref a :: st)) rfl rfl (hb K.kb hd)
  obtain ⟨s₂, o, hs, r⟩ := hr h' W T' _ vm0 X' (A.mono (Nat.le_of_eq W.size.symm)) hZ (Fr.snoc X' N (by rw [K.en]; exact ge)) (B.wr W (by rw [K.en]; exact ge)) e'
  exact ⟨s₂, o, st1 _ hs, r⟩
theorem castOk {C : String} {index : Nat} {a : Addr} (K : Ok κ l Z n0 own nm bytes maxL ret rm Q) (hd : decode bytes pc = .ok (.checkcast index, 3)) (w : (Cond.classLink own index C).before a0 Z = true) (F : Ins Z h a C true) (hr : Go κ h cells slots (pc + 3) Ls (.ref a :: st)) : Go κ h cells slots pc Ls (.ref a :: st) := fun T locs vm0 X A hZ N B eT => by
  obtain ⟨T', X', e', st1⟩ := castY X K.exec (K.warm hZ) (K.ko A) w eT F (g := mkF κ.m pc Ls (.ref a :: st)) rfl rfl (hb K.kb hd)
  obtain ⟨s₂, o, hs, r⟩ := hr T' locs vm0 X' A hZ N B e'
  exact ⟨s₂, o, st1 _ hs, r⟩
theorem instYes {C : String} {index : Nat} {a : Addr} (K : Ok κ l Z n0 own nm bytes maxL ret rm Q) (hd : decode bytes pc = .ok (.instanceof index, 3)) (w : (Cond.classLink own index C).before a0 Z = true) (F : Ins Z h a C true) (hr : Go κ h cells slots (pc + 3) Ls (.int 1 :: st)) : Go κ h cells slots pc Ls (.ref a :: st) := fun T locs vm0 X A hZ N B eT => by
  obtain ⟨T', X', e', st1⟩ := instY X K.exec (K.warm hZ) (K.ko A) w eT F (g := mkF κ.m pc Ls (.ref a :: st)) rfl rfl (hb K.kb hd)
  obtain ⟨s₂, o, hs, r⟩ := hr T' locs vm0 X' A hZ N B e'
  exact ⟨s₂, o, st1 _ hs, r⟩
theorem instNot {C C' : String} {index : Nat} {a : Addr} (K : Ok κ l Z n0 own nm bytes maxL ret rm Q) (hd : decode bytes pc = .ok (.instanceof index, 3)) (w : (Cond.classLink own index C).before a0 Z = true) (E : Exa Z h a C') (F : ∃ c t, Z.vm.findClass C' = some c ∧ Z.vm.findClass C = some t ∧ Z.vm.assignable c t = false)
    (hr : Go κ h cells slots (pc + 3) Ls (.int 0 :: st)) : Go κ h cells slots pc Ls (.ref a :: st) := fun T locs vm0 X A hZ N B eT => by
  obtain ⟨T', X', e', st1⟩ := instNo X K.exec (K.warm hZ) (K.ko A) w eT E F (g := mkF κ.m pc Ls (.ref a :: st)) rfl rfl (hb K.kb hd)
  obtain ⟨s₂, o, hs, r⟩ := hr T' locs vm0 X' A hZ N B e'
  exact ⟨s₂, o, st1 _ hs, r⟩
theorem getfieldZ {R0 O n d host : String} {index : Nat} {a : Addr} {v : Value} (K : Ok κ l Z n0 own nm bytes maxL ret rm Q) (hd : decode bytes pc = .ok (.getfield index, 3))
    (w : (Cond.fieldLink own index R0 n d).before a0 Z = true ∨ (Cond.fieldLinkNest own index R0 n d host).before a0 Z = true) (via : Via Z R0 O n d) (F : Fld Z Z.heap a O n d v) (hr : Go κ h cells slots (pc + 3) Ls (v :: st)) : Go κ h cells slots pc Ls (.ref a :: st) :=
  old K fun B => getfield K hd w via (F.ext B.2) hr
theorem getstaticZ {R0 O n d host : String} {index : Nat} {v : Value} (K : Ok κ l Z n0 own nm bytes maxL ret rm Q) (hd : decode bytes pc = .ok (.getstatic index, 3))
    (w : (Cond.fieldLink own index R0 n d).before a0 Z = true ∨ (Cond.fieldLinkNest own index R0 n d host).before a0 Z = true) (via : Via Z R0 O n d) (F : Sta Z Z.heap O n d v) (hr : Go κ h cells slots (pc + 3) Ls (v :: st)) : Go κ h cells slots pc Ls st :=
  old K fun B => getstatic K hd w via (F.ext B.2) hr
/-! ## calls -/
section Calls
variable {y z : MethodName} {bytes' : ByteArray} {maxL' W index : Nat} {ret' : Option FieldType} {rm' : Room} {Q' : Option Value → Heap → Prop} {argsL rest : List Value} {as' : Array Value}
theorem Con.narrow (C : Con false l Z n0 y bytes' maxL' ret' rm' as' h Q') (g : Old Z n0 h) : MetFree l y (head1 [Cond.code y bytes' maxL' ret'] rm') (fun a U => a = as' ∧ Z.Warmed39 U.vm ∧ U.heap = h) (fun _ _ _ _ _ => True)
    (fun _ U o U' => ∃ v L, o = .returned v ∧ (Q' v U'.heap ∧ Fr n0 L ∧ h.size ≤ U'.heap.size ∧ Old Z n0 U'.heap) ∧ FrameEnd U o U' L rm'.cells rm'.slots) := fun p e ha hc hk s m args below hf happ hP hK => by
  obtain ⟨n, o, a1, a2, a3, v, L, e1, ⟨q1, q2, q3⟩, E⟩ := C g [] p e ha hc hk s m args below hf happ hP hK
  exact ⟨n, o, a1, a2, a3, v, L, e1, ⟨q1, q2, hP.2.2 ▸ q3.1, q3.2⟩, E.1 rfl⟩
theorem Con.mono {wide : Bool} {Q2 : Option Value → Heap → Prop} (C : Con wide l Z n0 y bytes' maxL' ret' rm' as' h Q') (hq : ∀ v h', Q' v h' → Q2 v h') : Con wide l Z n0 y bytes' maxL' ret' rm' as' h Q2 := fun g ws p e ha hc hk s m args below hf happ hP hK => by
  obtain ⟨n, o, a1, a2, a3, v, L, e1, ⟨q1, q2, q3⟩, E⟩ := C g ws p e ha hc hk s m args below hf happ hP hK
  exact ⟨n, o, a1, a2, a3, v, L, e1, ⟨hq _ _ q1, q2, q3⟩, E⟩
theorem finish (K : Ok κ l Z n0 own nm bytes maxL ret rm Q) {T U0 : State} {locs : List Loc} {vm0 : Vm} {pc' : Nat} (A : κ.adm vm0 h.size) (hZ : κ.Z.Warmed39 vm0) (N : Fr κ.n0 locs)
    (hr : ∀ v h', Q' v h' → h.size ≤ h'.size → Go κ h' (cells + rm'.cells) (slots + rm'.slots) pc' Ls (v.toList ++ rest)) {v : Option Value} {B : Pt} (X' : Stand κ.p κ.l κ.e κ.R (κ.s.setVm vm0) κ.m κ.args κ.below κ.meth κ.c B.U B.locs B.cells B.slots)
    (P : ∃ L, (Q' v B.U.heap ∧ Fr n0 L ∧ h.size ≤ B.U.heap.size ∧ Old Z n0 B.U.heap) ∧ B.locs = locs ++ L ∧ B.cells = cells + rm'.cells ∧ B.slots = slots + rm'.slots) (st1 : ∀ target, Steps κ.p.tables κ.e κ.below (B.U.setTop (mkF κ.m pc' Ls (v.toList ++ rest))) target → Steps κ.p.tables κ.e κ.below U0 target) :
    ∃ s₂ o, Steps κ.p.tables κ.e κ.below U0 s₂ ∧ s₂.status = .running ∧ Ended s₂ κ.below o ∧ ∃ v L, o = .returned v ∧ (κ.Q v s₂.heap ∧ Fr κ.n0 L ∧ κ.s.heap.size ≤ s₂.heap.size ∧ Old κ.Z κ.n0 s₂.heap) ∧ Ends κ.wide κ.s o s₂ L κ.R.cells κ.R.slots := by
  obtain ⟨L, ⟨q1, q2, q3, q4⟩, e1, e2, e3⟩ := P
  rw [e1, e2, e3] at X'
  obtain ⟨s₂, o, hs, r⟩ := hr v _ q1 q3 B.U _ vm0 X' (A.mono q3) hZ (N.app (by rw [K.en]; exact q2)) (K.oldS q4) rfl
  exact ⟨s₂, o, st1 _ hs, r⟩
theorem W0 {m : MethodId} {g : List Value} (hW : (rest.map fun v => v.category).sum ≤ W) : 2 * (mkF m pc Ls g).monitorRoom + (rest.map fun v => v.category).sum ≤ W := by
  show 2 * 0 + _ ≤ _; omega
theorem invS (K : Ok κ l Z n0 own nm bytes maxL ret rm Q) (C : Con false l Z n0 y bytes' maxL' ret' rm' argsL.toArray h Q') (hd : decode bytes pc = .ok (.invokestatic index, 3))
    (w1 : (Cond.methodLink own index y).before a0 Z = true) (w2 : (Cond.static y).before a0 Z = true) (w3 : (Cond.initialized y.cls).before a0 Z = true) (w4 : (Cond.code y bytes' maxL' ret').before a0 Z = true) (hy : y.cls ≠ "java/lang/invoke/MethodHandle" ∧ y.cls ≠ "java/lang/invoke/VarHandle")
    (hlen : ∀ sig, parseMethodDescriptor y.desc = some sig → argsL.length = sig.parameters.length) (hst : st = argsL.reverse ++ rest) (hsz : Ls.size = maxL) (hW : (rest.map fun v => v.category).sum ≤ W) (hf : rm'.frames + 1 ≤ rm.frames) (hl : W + (maxL' + 11) + rm'.locals ≤ rm.locals) (hc : cells + rm'.cells ≤ rm.cells) (hs : slots + rm'.slots ≤ rm.slots)
    (hr : ∀ v h', Q' v h' → h.size ≤ h'.size → Go κ h' (cells + rm'.cells) (slots + rm'.slots) (pc + 3) Ls (v.toList ++ rest)) : Go κ h cells slots pc Ls st := fun T locs vm0 X A hZ N OB eT => by
  have hZ' := K.warm hZ
  have eR := K.eR
  obtain ⟨v, vm₁, B, -, X', P, st1⟩ := Jvm.LawKit.callS X K.exec (K.ko A) (mvT hZ' w1) (mvT hZ' w2) (mvT hZ' w3) (mvT hZ' w4) hy (backOf (W := W) (R := κ.R) (rm := rm') (Q := fun v h' L => Q' v h' ∧ Fr n0 L ∧ h.size ≤ h'.size ∧ Old Z n0 h') (by rw [K.el]; exact C.narrow (K.old OB)) hZ' w4 w3 (by rw [eR]; exact hf) (by rw [eR]; exact hl)) (g := mkF κ.m pc Ls st) rfl (by rw [K.kl]; exact hsz) hlen hst (W0 hW) (hb K.kb hd)
    (fun _ _ => ⟨rfl, eT, by rw [eR]; exact hc, by rw [eR]; exact hs⟩)
  exact finish K (T := T) A hZ N hr X' P st1
theorem invV {CC : String} {b : Addr} (K : Ok κ l Z n0 own nm bytes maxL ret rm Q) (C : Con false l Z n0 z bytes' maxL' ret' rm' (.ref b :: argsL).toArray h Q') (hd : decode bytes pc = .ok (.invokevirtual index, 3)) (E : Exa Z h b CC)
    (w1 : (Cond.methodLink own index y).before a0 Z = true) (w2 : (Cond.declares y).before a0 Z = true) (hnf : ∀ s : State, Z.Warmed39 s.vm → NotFace s y) (w3 : (Cond.selects CC y z).before a0 Z = true) (w4 : (Cond.instanceMethod z).before a0 Z = true) (w5 : (Cond.code z bytes' maxL' ret').before a0 Z = true) (w6 : (Cond.initialized z.cls).before a0 Z = true)
    (hy : y.cls ≠ "java/lang/invoke/MethodHandle" ∧ y.cls ≠ "java/lang/invoke/VarHandle")
    (hlen : ∀ sig, parseMethodDescriptor y.desc = some sig → argsL.length = sig.parameters.length) (hst : st = argsL.reverse ++ .ref b :: rest) (hsz : Ls.size = maxL) (hW : (rest.map fun v => v.category).sum ≤ W) (hf : rm'.frames + 1 ≤ rm.frames) (hl : W + (maxL' + 11) + rm'.locals ≤ rm.locals) (hc : cells + rm'.cells ≤ rm.cells) (hs : slots + rm'.slots ≤ rm.slots)
    (hr : ∀ v h', Q' v h' → h.size ≤ h'.size → Go κ h' (cells + rm'.cells) (slots + rm'.slots) (pc + 3) Ls (v.toList ++ rest)) : Go κ h cells slots pc Ls st := fun T locs vm0 X A hZ N OB eT => by
  have hZ' := K.warm hZ
  have eR := K.eR
  obtain ⟨cB, kB, q1, -, q3⟩ := isOf hZ' eT E
  obtain ⟨v, vm₁, B, -, X', P, st1⟩ := X.virtualBack K.exec (y := y) (z := z) (K.ko A) (mvT hZ' w1) (mvT hZ' w2) (hnf _ hZ') (mvT hZ' w3) (mvT hZ' w4) hy (backOf (W := W) (R := κ.R) (rm := rm') (Q := fun v h' L => Q' v h' ∧ Fr n0 L ∧ h.size ≤ h'.size ∧ Old Z n0 h') (by rw [K.el]; exact C.narrow (K.old OB)) hZ' w5 w6 (by rw [eR]; exact hf) (by rw [eR]; exact hl)) q1 q3 (g := mkF κ.m pc Ls st) rfl (by rw [K.kl]; exact hsz) (Steps.refl _) hlen hst (W0 hW) (hb K.kb hd)
    (fun _ _ => ⟨rfl, eT, by rw [eR]; exact hc, by rw [eR]; exact hs⟩)
  exact finish K (T := T) A hZ N hr X' P (fun _ k => st1.trans k)
theorem nfS {CC : String} (w : (Cond.selects CC y y).before a0 Z = true) : ∀ s : State, Z.Warmed39 s.vm → NotFace s y := fun s hZ => notFace_of_selects (args := #[]) (mvT hZ w)
theorem nfU {S : String} (w : (Cond.superclass y.cls S).before a0 Z = true) : ∀ s : State, Z.Warmed39 s.vm → NotFace s y := fun s hZ => nf_super (args := #[]) (mvT hZ w)
theorem invVU {CC owner : String} {b : Addr} (K : Ok κ l Z n0 own nm bytes maxL ret rm Q) (C : Con false l Z n0 z bytes' maxL' ret' rm' (.ref b :: argsL).toArray h Q') (hd : decode bytes pc = .ok (.invokevirtual index, 3)) (E : Exa Z h b CC)
    (w1 : (Cond.methodLink own index y).before a0 Z = true) (w2 : (Cond.sameMethod y.cls owner y.name y.desc).before a0 Z = true) (w2' : (Cond.declares ⟨owner, y.name, y.desc⟩).before a0 Z = true) (hy : owner ≠ "java/lang/invoke/MethodHandle" ∧ owner ≠ "java/lang/invoke/VarHandle")
    (w3 : (Cond.selects CC y z).before a0 Z = true) (w4 : (Cond.instanceMethod z).before a0 Z = true) (w5 : (Cond.code z bytes' maxL' ret').before a0 Z = true) (w6 : (Cond.initialized z.cls).before a0 Z = true)
    (hlen : ∀ sig, parseMethodDescriptor y.desc = some sig → argsL.length = sig.parameters.length) (hst : st = argsL.reverse ++ .ref b :: rest) (hsz : Ls.size = maxL) (hW : (rest.map fun v => v.category).sum ≤ W) (hf : rm'.frames + 1 ≤ rm.frames) (hl : W + (maxL' + 11) + rm'.locals ≤ rm.locals) (hc : cells + rm'.cells ≤ rm.cells) (hs : slots + rm'.slots ≤ rm.slots)
    (hr : ∀ v h', Q' v h' → h.size ≤ h'.size → Go κ h' (cells + rm'.cells) (slots + rm'.slots) (pc + 3) Ls (v.toList ++ rest)) : Go κ h cells slots pc Ls st := fun T locs vm0 X A hZ N OB eT => by
  have hZ' := K.warm hZ
  have eR := K.eR
  obtain ⟨cB, kB, q1, -, q3⟩ := isOf hZ' eT E
  obtain ⟨v, vm₁, B, -, X', P, st1⟩ := X.virtualBackUp K.exec (x := y) (y := z) (K.ko A) (mvT hZ' w1) (mvT hZ' w2) (mvT hZ' w2') hy (mvT hZ' w3) (mvT hZ' w4) (backOf (W := W) (R := κ.R) (rm := rm') (Q := fun v h' L => Q' v h' ∧ Fr n0 L ∧ h.size ≤ h'.size ∧ Old Z n0 h') (by rw [K.el]; exact C.narrow (K.old OB)) hZ' w5 w6 (by rw [eR]; exact hf) (by rw [eR]; exact hl)) q1 q3 (g := mkF κ.m pc Ls st) rfl (by rw [K.kl]; exact hsz) (Steps.refl _) hlen hst (W0 hW) (hb K.kb hd)
    (fun _ _ => ⟨rfl, eT, by rw [eR]; exact hc, by rw [eR]; exact hs⟩)
  exact finish K (T := T) A hZ N hr X' P (fun _ k => st1.trans k)
theorem invP {CC : String} {b : Addr} (K : Ok κ l Z n0 own nm bytes maxL ret rm Q) (C : Con false l Z n0 y bytes' maxL' ret' rm' (.ref b :: argsL).toArray h Q') (hd : decode bytes pc = .ok (.invokevirtual index, 3)) (E : Exa Z h b CC)
    (w1 : (Cond.methodLink own index y).before a0 Z = true) (w2 : (Cond.instanceMethod y).before a0 Z = true) (w3 : (Cond.selects y.cls y y).before a0 Z = true) (w4 : (Cond.privateMethod y).before a0 Z = true) (w5 : (Cond.code y bytes' maxL' ret').before a0 Z = true) (w6 : (Cond.initialized y.cls).before a0 Z = true)
    (hy : y.cls ≠ "java/lang/invoke/MethodHandle" ∧ y.cls ≠ "java/lang/invoke/VarHandle")
    (hlen : ∀ sig, parseMethodDescriptor y.desc = some sig → argsL.length = sig.parameters.length) (hst : st = argsL.reverse ++ .ref b :: rest) (hsz : Ls.size = maxL) (hW : (rest.map fun v => v.category).sum ≤ W) (hf : rm'.frames + 1 ≤ rm.frames) (hl : W + (maxL' + 11) + rm'.locals ≤ rm.locals) (hc : cells + rm'.cells ≤ rm.cells) (hs : slots + rm'.slots ≤ rm.slots)
    (hr : ∀ v h', Q' v h' → h.size ≤ h'.size → Go κ h' (cells + rm'.cells) (slots + rm'.slots) (pc + 3) Ls (v.toList ++ rest)) : Go κ h cells slots pc Ls st := fun T locs vm0 X A hZ N OB eT => by
  have hZ' := K.warm hZ
  have eR := K.eR
  obtain ⟨cell, hcell, hobj⟩ := E.cell
  obtain ⟨v, vm₁, B, -, X', P, st1⟩ := X.privateBack K.exec (y := y) (K.ko A) (mvT hZ' w1) (mvT hZ' w2) (mvT hZ' w3) (Cond.privateMethod_at (mvP (args := #[]) hZ' w4)) (mvT hZ' w5) hy (backOf (W := W) (R := κ.R) (rm := rm') (Q := fun v h' L => Q' v h' ∧ Fr n0 L ∧ h.size ≤ h'.size ∧ Old Z n0 h') (by rw [K.el]; exact C.narrow (K.old OB)) hZ' w5 w6 (by rw [eR]; exact hf) (by rw [eR]; exact hl)) (g := mkF κ.m pc Ls st) rfl (by rw [K.kl]; exact hsz) (Steps.refl _) (a := b) (cell := cell) (by rw [eT]; exact hcell) hobj hlen hst (W0 hW) (hb K.kb hd)
    (fun _ _ => ⟨rfl, eT, by rw [eR]; exact hc, by rw [eR]; exact hs⟩)
  exact finish K (T := T) A hZ N hr X' P (fun _ k => st1.trans k)
theorem invI {CC : String} {b : Addr} {count : Nat} (K : Ok κ l Z n0 own nm bytes maxL ret rm Q) (C : Con false l Z n0 z bytes' maxL' ret' rm' (.ref b :: argsL).toArray h Q') (hd : decode bytes pc = .ok (.invokeinterface index count, 5)) (E : Exa Z h b CC)
    (w1 : (Cond.methodLink own index y).before a0 Z = true) (w2 : (Cond.declares y).before a0 Z = true) (w2' : (Cond.interfaceMethod y.cls y.cls y.name y.desc).before a0 Z = true) (w3 : (Cond.selects CC y z).before a0 Z = true) (w4 : (Cond.instanceMethod z).before a0 Z = true) (w4' : (Cond.publicMethod z).before a0 Z = true) (w4'' : (Cond.unhidden CC y.name y.desc).before a0 Z = true) (w7 : (Cond.castable CC y.cls).before a0 Z = true)
    (w5 : (Cond.code z bytes' maxL' ret').before a0 Z = true) (w6 : (Cond.initialized z.cls).before a0 Z = true)
    (hy : y.cls ≠ "java/lang/invoke/MethodHandle" ∧ y.cls ≠ "java/lang/invoke/VarHandle")
    (hlen : ∀ sig, parseMethodDescriptor y.desc = some sig → argsL.length = sig.parameters.length) (hst : st = argsL.reverse ++ .ref b :: rest) (hsz : Ls.size = maxL) (hW : (rest.map fun v => v.category).sum ≤ W) (hf : rm'.frames + 1 ≤ rm.frames) (hl : W + (maxL' + 11) + rm'.locals ≤ rm.locals) (hc : cells + rm'.cells ≤ rm.cells) (hs : slots + rm'.slots ≤ rm.slots)
    (hr : ∀ v h', Q' v h' → h.size ≤ h'.size → Go κ h' (cells + rm'.cells) (slots + rm'.slots) (pc + 5) Ls (v.toList ++ rest)) : Go κ h cells slots pc Ls st := fun T locs vm0 X A hZ N OB eT => by
  have hZ' := K.warm hZ
  have eR := K.eR
  obtain ⟨cB, kB, q1, q2, q3⟩ := isOf hZ' eT E
  obtain ⟨v, vm₁, B, -, X', P, st1⟩ := X.interfaceBack K.exec (xi := y) (y := z) (K.ko A) (mvT hZ' w1) (mvT hZ' w2) (Jvm.Free.ULB.iface_rides hZ'.alike w2') (mvT hZ' w3) (mvT hZ' w4) (mvT hZ' w4') (mvT hZ' w4'') (mvT hZ' w7) hy (backOf (W := W) (R := κ.R) (rm := rm') (Q := fun v h' L => Q' v h' ∧ Fr n0 L ∧ h.size ≤ h'.size ∧ Old Z n0 h') (by rw [K.el]; exact C.narrow (K.old OB)) hZ' w5 w6 (by rw [eR]; exact hf) (by rw [eR]; exact hl)) q1 q2 q3 (g := mkF κ.m pc Ls st) rfl (by rw [K.kl]; exact hsz) (Steps.refl _) hlen hst (W0 hW) (hb K.kb hd)
    (fun _ _ => ⟨rfl, eT, by rw [eR]; exact hc, by rw [eR]; exact hs⟩)
  exact finish K (T := T) A hZ N hr X' P (fun _ k => st1.trans k)
theorem invC {b : Addr} (K : Ok κ l Z n0 own nm bytes maxL ret rm Q) (C : Con false l Z n0 y bytes' maxL' none rm' (.ref b :: argsL).toArray h Q') (hd : decode bytes pc = .ok (.invokespecial index, 3)) (hy1 : y.name = "<init>")
    (w1 : (Cond.methodLink own index y).before a0 Z = true) (w2 : (Cond.instanceMethod y).before a0 Z = true) (w5 : (Cond.code y bytes' maxL' none).before a0 Z = true) (w6 : (Cond.initialized y.cls).before a0 Z = true)
    (hy : y.cls ≠ "java/lang/invoke/MethodHandle" ∧ y.cls ≠ "java/lang/invoke/VarHandle")
    (hlen : ∀ sig, parseMethodDescriptor y.desc = some sig → argsL.length = sig.parameters.length) (hst : st = argsL.reverse ++ .ref b :: rest) (hsz : Ls.size = maxL) (hW : (rest.map fun v => v.category).sum ≤ W) (hf : rm'.frames + 1 ≤ rm.frames) (hl : W + (maxL' + 11) + rm'.locals ≤ rm.locals) (hc : cells + rm'.cells ≤ rm.cells) (hs : slots + rm'.slots ≤ rm.slots)
    (hr : ∀ v h', Q' v h' → h.size ≤ h'.size → Go κ h' (cells + rm'.cells) (slots + rm'.slots) (pc + 3) Ls (v.toList ++ rest)) : Go κ h cells slots pc Ls st := fun T locs vm0 X A hZ N OB eT => by
  have hZ' := K.warm hZ
  have eR := K.eR
  obtain ⟨v, vm₁, B, -, X', P, st1⟩ := X.specialBack K.exec (y := y) hy1 (K.ko A) (mvT hZ' w1) (mvT hZ' w2) (mvT hZ' w5) hy (backOf (W := W) (R := κ.R) (rm := rm') (Q := fun v h' L => Q' v h' ∧ Fr n0 L ∧ h.size ≤ h'.size ∧ Old Z n0 h') (by rw [K.el]; exact C.narrow (K.old OB)) hZ' w5 w6 (by rw [eR]; exact hf) (by rw [eR]; exact hl)) (g := mkF κ.m pc Ls st) rfl (by rw [K.kl]; exact hsz) (Steps.refl _) (a := b) hlen hst (W0 hW) (hb K.kb hd)
    (fun _ _ => ⟨rfl, eT, by rw [eR]; exact hc, by rw [eR]; exact hs⟩)
  exact finish K (T := T) A hZ N hr X' P (fun _ k => st1.trans k)
theorem mvMN {s : State} {args : Array Value} {own' host : String} {i : Nat} (hZ : Z.Warmed39 s.vm) (w : (Cond.methodLinkNest own' i y host).before a0 Z = true) : (Cond.methodLinkNest own' i y host).before args s = true := (Cond.methodLinkNest_wide hZ w :)
theorem invCN {host : String} {b : Addr} (K : Ok κ l Z n0 own nm bytes maxL ret rm Q) (C : Con false l Z n0 y bytes' maxL' none rm' (.ref b :: argsL).toArray h Q') (hd : decode bytes pc = .ok (.invokespecial index, 3)) (hy1 : y.name = "<init>")
    (w1 : (Cond.methodLinkNest own index y host).before a0 Z = true) (w2 : (Cond.instanceMethod y).before a0 Z = true) (w5 : (Cond.code y bytes' maxL' none).before a0 Z = true) (w6 : (Cond.initialized y.cls).before a0 Z = true)
    (hy : y.cls ≠ "java/lang/invoke/MethodHandle" ∧ y.cls ≠ "java/lang/invoke/VarHandle")
    (hlen : ∀ sig, parseMethodDescriptor y.desc = some sig → argsL.length = sig.parameters.length) (hst : st = argsL.reverse ++ .ref b :: rest) (hsz : Ls.size = maxL) (hW : (rest.map fun v => v.category).sum ≤ W) (hf : rm'.frames + 1 ≤ rm.frames) (hl : W + (maxL' + 11) + rm'.locals ≤ rm.locals) (hc : cells + rm'.cells ≤ rm.cells) (hs : slots + rm'.slots ≤ rm.slots)
    (hr : ∀ v h', Q' v h' → h.size ≤ h'.size → Go κ h' (cells + rm'.cells) (slots + rm'.slots) (pc + 3) Ls (v.toList ++ rest)) : Go κ h cells slots pc Ls st := fun T locs vm0 X A hZ N OB eT => by
  have hZ' := K.warm hZ
  have eR := K.eR
  obtain ⟨v, vm₁, B, -, X', P, st1⟩ := X.specialBackNest K.exec (y := y) hy1 (K.ko A) (mvMN hZ' w1) (mvT hZ' w2) (mvT hZ' w5) hy (backOf (W := W) (R := κ.R) (rm := rm') (Q := fun v h' L => Q' v h' ∧ Fr n0 L ∧ h.size ≤ h'.size ∧ Old Z n0 h') (by rw [K.el]; exact C.narrow (K.old OB)) hZ' w5 w6 (by rw [eR]; exact hf) (by rw [eR]; exact hl)) (g := mkF κ.m pc Ls st) rfl (by rw [K.kl]; exact hsz) (Steps.refl _) (a := b) hlen hst (W0 hW) (hb K.kb hd)
    (fun _ _ => ⟨rfl, eT, by rw [eR]; exact hc, by rw [eR]; exact hs⟩)
  exact finish K (T := T) A hZ N hr X' P (fun _ k => st1.trans k)
theorem invO {a : Addr} (K : Ok κ l Z n0 own nm bytes maxL ret rm Q) (hd : decode bytes pc = .ok (.invokespecial index, 3)) (w1 : (Cond.methodLink own index Lib.objectInit).before a0 Z = true) (w2 : (Cond.instanceMethod Lib.objectInit).before a0 Z = true) (w3 : (Cond.code Lib.objectInit ⟨#[0xb1]⟩ 1 none).before a0 Z = true)
    (hsz : Ls.size = maxL) (hf : 1 ≤ rm.frames) (hW : (st.map fun v => v.category).sum ≤ W) (hl : W + 12 ≤ rm.locals) (hr : Go κ h cells slots (pc + 3) Ls st) : Go κ h cells slots pc Ls (.ref a :: st) := fun T locs vm0 X A hZ N B eT => by
  obtain ⟨T', X', e', st1⟩ := initO X K.exec (K.warm hZ) (K.ko A) w1 w2 w3 eT (g := mkF κ.m pc Ls (.ref a :: st)) rfl (by rw [K.kl]; exact hsz) rfl (hb K.kb hd) (by rw [K.eR]; exact hf) (W := W) (W0 hW) (by rw [K.eR]; exact hl)
  obtain ⟨s₂, o, hs, r⟩ := hr T' locs vm0 X' A hZ N B e'
  exact ⟨s₂, o, st1 _ hs, r⟩
/-- a body's walk makes the contract -/
theorem Con.of {wide : Bool} (hpn : plainFor y = true)
    (H : ∀ κ : Cx, κ.wide = wide → Ok κ l Z n0 y.cls y.name bytes' maxL' ret' rm' Q' → Go κ h 0 0 0 (entryFrame κ.m as' maxL').locals []) (hfr : ∀ m : MethodId, entryFrame m as' maxL' = mkF m 0 (entryFrame m as' maxL').locals [] := by intro m; rfl) : Con wide l Z n0 y bytes' maxL' ret' rm' as' h Q' := by
  intro hn ws
  refine MetFree.of_bodySF hpn hisR ?_
  intro p e s m args below meth c s₁ Bd hml0 hP hK
  obtain ⟨rfl, hZ, hh⟩ := hP
  have X0 : Stand p l e rm' s m args below meth c s₁ [] 0 0 := Stand.of_body Bd
  have e0 : s₁.heap = h := by rw [← hh, Bd.state]; rfl
  let κ : Cx := ((p, l, e, rm', s, m, args, below, meth, c), (wide, Z, n0, Q'))
  have K : Ok κ l Z n0 y.cls y.name bytes' maxL' ret' rm' Q' := ⟨rfl, rfl, rfl, rfl, Bd.exec, findClass_of_methodNamed Bd.named, Bd.bytes, hml0, Bd.returns, (name_of_methodNamed Bd.named Bd.method).1, Bd.notSynchronized, rfl⟩
  obtain ⟨s₂, o, hs, r1, r2, v, L, e1, q, E⟩ := H κ rfl K s₁ [] s.vm X0 ⟨⟨s.heap.size, (State.WarmedH.refl s).since _, by rw [← hh]; exact Nat.le_refl _⟩, fun _ => rfl⟩ hZ (Fr.nil _) hn e0
  exact ⟨s₂, o, castTop (hfr m) hs, r1, r2, v, L, e1, q, E⟩
end Calls
theorem catR {v : Value} (h : v.isRef = true) : v.category = 1 := by rcases ref_cases h with rfl | ⟨a, rfl⟩ <;> rfl
/-! ## lcmp -/
theorem cmp_lt (x y : Int64) : (XT.cmpL x y).toInt < 0 ↔ x.toInt < y.toInt := by
  unfold XT.cmpL; rw [← Int64.lt_iff_toInt_lt]
  by_cases h1 : y < x
  · simp only [h1, if_true]; constructor
    · intro h; exact absurd h (by decide)
    · intro h; rw [Int64.lt_iff_toInt_lt] at h h1; omega
  · by_cases h2 : x = y
    · subst h2; simp only [h1, if_true, if_false]; simp
    · simp only [h1, h2, if_false]
      have h3 : x < y := by rw [Int64.lt_iff_toInt_lt] at h1 ⊢; rw [← Int64.toInt_inj] at h2; omega
      exact ⟨fun _ => h3, fun _ => by decide⟩
theorem cmp_gt (x y : Int64) : 0 < (XT.cmpL x y).toInt ↔ y.toInt < x.toInt := by
  unfold XT.cmpL; rw [← Int64.lt_iff_toInt_lt]
  by_cases h1 : y < x
  · simp only [h1, if_true]; exact ⟨fun _ => trivial, fun _ => by decide⟩
  · by_cases h2 : x = y
    · subst h2; simp only [h1, if_true, if_false]; simp
    · simp only [h1, h2, if_false]; simp
theorem cmp_eq (x y : Int64) : XT.cmpL x y = 0 ↔ x = y := by
  unfold XT.cmpL
  by_cases h1 : y < x
  · simp only [h1, if_true]; constructor
    · intro h; exact absurd h (by decide)
    · intro h; subst h; rw [Int64.lt_iff_toInt_lt] at h1; omega
  · by_cases h2 : x = y
    · subst h2; simp only [h1, if_true, if_false]
    · simp only [h1, h2, if_false]; exact ⟨fun h => absurd h (by decide), fun h => h.elim⟩
/-! ## what a case's words say at the start -/
theorem stZ {s : State} {args : Array Value} {C n d : String} {v : Value} (ev : (Term.static C n d).eval args s none [] s = some v) (wi : (Cond.initialized C).before args s = true) (wl : (Cond.laysStatic C n d).before args s = true) : Sta s s.heap C n d v := Sta.start ev (Or.inr ⟨wi, wl⟩)
theorem fldI {s : State} {args : Array Value} {t : Term} {a : Addr} {O f d : String} {k : Int32} (ev : t.eval args s none [] s = some (.ref a)) (hq : (Cond.eq (.field t O f d) (.int k)).value args s none s [] = some true) : Fld s s.heap a O f d (.int k) := by
  obtain ⟨x, y, e1, e2, k1, k2⟩ := cmp_v (Or.inl hq)
  rw [fld_at ev] at e1
  cases (e2.symm.trans (Term.int_eval k) : some y = some (.int k))
  obtain ⟨z, rfl⟩ := k2
  refine Fld.start ?_
  have e3 : (Term.field t O f d).eval args s none [] s = some (.int z) := (fld_at ev).trans e1
  have := gotT (Cond.eq_ints e3 (Term.int_eval k)) hq
  rw [e1, this]
theorem fldJ {s : State} {args : Array Value} {t : Term} {a : Addr} {O f d : String} {k : Int64} (ev : t.eval args s none [] s = some (.ref a)) (hq : (Cond.eq (.field t O f d) (.long k)).value args s none s [] = some true) : Fld s s.heap a O f d (.long k) := by
  obtain ⟨x, y, e1, e2, k1, k2⟩ := cmp_v (Or.inl hq)
  rw [fld_at ev] at e1
  cases (e2.symm.trans (long_at k) : some y = some (.long k))
  obtain ⟨z, rfl⟩ := k2
  refine Fld.start ?_
  have e3 : (Term.field t O f d).eval args s none [] s = some (.long z) := (fld_at ev).trans e1
  have := gotT (eq_L e3 (long_at k)) hq
  rw [e1, this]
theorem staI {s : State} {args : Array Value} {C n d : String} {k : Int32} (hq : (Cond.eq (.static C n d) (.int k)).value args s none s [] = some true) : (Term.static C n d).eval args s none [] s = some (.int k) := by
  obtain ⟨x, y, e1, e2, k1, k2⟩ := cmp_v (Or.inl hq)
  cases (e2.symm.trans (Term.int_eval k) : some y = some (.int k))
  obtain ⟨z, rfl⟩ := k2
  have := gotT (Cond.eq_ints e1 (Term.int_eval k)) hq
  rw [e1, this]
theorem staJ {s : State} {args : Array Value} {C n d : String} {k : Int64} (hq : (Cond.eq (.static C n d) (.long k)).value args s none s [] = some true) : (Term.static C n d).eval args s none [] s = some (.long k) := by
  obtain ⟨x, y, e1, e2, k1, k2⟩ := cmp_v (Or.inl hq)
  cases (e2.symm.trans (long_at k) : some y = some (.long k))
  obtain ⟨z, rfl⟩ := k2
  have := gotT (eq_L e1 (long_at k)) hq
  rw [e1, this]
theorem ordNe {Z : State} {h : Heap} {a b : Addr} {C n d : String} {v w : Value} (F : Fld Z h a C n d v) (G : Fld Z h b C n d w) (q : v ≠ w) : (Value.ref a) ≠ .ref b := fun e => F.ne G q (by cases e; rfl)
end Laws
end Jvm.OwnKit

namespace Jvm.OwnKit
open Sem ClassFile Op Lib Jvm.Stand Jvm.Free Jvm.LawKit Jvm.RoadKit
/-! ## arrays, by the list of what they hold -/
def Av (Z : State) (h : Heap) (a : Addr) (k : ClassId) (ty : FieldType) (vs : List Value) : Prop := ∃ c : Cell, Arr Z h a c ty ∧ c.cls = k ∧ c.slots.toList = vs ∧ vs.length < 2 ^ 31 ∧ ∀ v ∈ vs, fits ty v = true
section Av
variable {Z : State} {h h' : Heap} {a b : Addr} {k : ClassId} {ty : FieldType} {vs : List Value} {sl : Nat} {v : Value} {ws : List Addr}
theorem Av.lt (F : Av Z h a k ty vs) : a < h.size := by obtain ⟨c, A, -⟩ := F; exact A.lt
theorem Av.ext (F : Av Z h a k ty vs) (E : Ext h h') : Av Z h' a k ty vs := by obtain ⟨c, A, r⟩ := F; exact ⟨c, A.ext E, r⟩
theorem Av.other (F : Av Z h b k ty vs) (W : Wr h h' a sl v) (q : b ≠ a) : Av Z h' b k ty vs := by obtain ⟨c, A, r⟩ := F; exact ⟨c, A.other W q, r⟩
theorem Av.keep (F : Av Z h a k ty vs) (K : Keep h h' ws) (q : a ∉ ws) : Av Z h' a k ty vs := by obtain ⟨c, A, r⟩ := F; exact ⟨c, ⟨K.2.1 a c A.1 q, A.2⟩, r⟩
theorem Av.len (F : Av Z h a k ty vs) : vs.length < 2 ^ 31 := by obtain ⟨c, -, -, -, q, -⟩ := F; exact q
theorem Av.set (F : Av Z h a k ty vs) (W : Wr h h' a sl v) (hv : fits ty v = true) : Av Z h' a k ty (vs.set sl v) := by
  obtain ⟨c, A, e1, e2, e3, e4⟩ := F
  refine ⟨_, A.same W, e1, by simp [Cell.setSlot, e2], by simpa using e3, fun w hw => ?_⟩
  rcases List.mem_or_eq_of_mem_set hw with q | q
  · exact e4 w q
  · exact q ▸ hv
theorem Av.new {cA : ClassId} {n : Int32} (A : Arr Z h a (newA cA ty n) ty) (q : 0 ≤ n.toInt) : Av Z h a cA ty (List.replicate n.toInt.toNat (defaultValue ty)) := by
  have e : n.toNatClampNeg = n.toInt.toNat := rfl
  refine ⟨_, A, rfl, by show (Array.replicate n.toNatClampNeg (defaultValue ty)).toList = _; rw [Array.toList_replicate]; rfl, by have := n.toInt_lt; rw [List.length_replicate]; omega, fun v hv => ?_⟩
  rw [List.mem_replicate] at hv
  rw [hv.2]; cases ty <;> rfl
theorem Av.arv (F : Av Z h a k ty vs) (d : Value) : Arv Z h a k ty (Int32.ofNat vs.length) vs d := by
  obtain ⟨c, A, e1, e2, e3, e4⟩ := F
  have e5 : c.slots.size = vs.length := by rw [← e2]; simp
  have e6 : (Int32.ofNat vs.length).toInt = vs.length := len_toInt e3
  refine ⟨c, A, e1, ?_, ?_, fun i hi => ?_, fun i hi => ?_⟩
  · rw [e5]; show _ = (Int32.ofNat vs.length).toInt.toNat; omega
  · rw [Int32.lt_iff_toInt_lt, e6]; have : (0 : Int32).toInt = 0 := rfl; omega
  · rw [e5] at hi; rw [← e2]; simp [List.getD, ← Array.getElem?_toList]; rw [e2]; simp [hi]
  · rw [e5] at hi; rw [List.getD_eq_getElem?_getD, List.getElem?_eq_getElem hi]; exact e4 _ (List.getElem_mem hi)
theorem Av.of_arv {n : Int32} {d : Value} (F : Arv Z h a k ty n vs d) (hl : n.toInt = vs.length) : Av Z h a k ty vs := by
  obtain ⟨c, A, e1, e2, e3, e4, e5⟩ := F
  have e6 : c.slots.size = vs.length := by rw [e2]; show n.toInt.toNat = _; omega
  have e7 : c.slots.toList = vs := by
    refine List.ext_getElem? fun i => ?_
    rcases Nat.lt_or_ge i vs.length with hi | hi
    · have q := e4 i (by omega)
      rw [Array.getElem?_toList, q, List.getD_eq_getElem?_getD, List.getElem?_eq_getElem hi]; rfl
    · rw [List.getElem?_eq_none hi, List.getElem?_eq_none (by simp; omega)]
  refine ⟨c, A, e1, e7, by have := n.toInt_lt; omega, fun v hv => ?_⟩
  obtain ⟨i, hi, rfl⟩ := List.getElem_of_mem hv
  have q := e5 i (by omega)
  rwa [List.getD_eq_getElem?_getD, List.getElem?_eq_getElem hi] at q
end Av
section ALaws
variable {κ : Cx} {t : FieldType} {l : Launch} {Z : State} {n0 : Nat} {own nm : String} {bytes : ByteArray} {maxL : Nat} {ret : Option FieldType} {rm : Room} {Q : Option Value → Heap → Prop} {h : Heap} {cells slots pc : Nat} {Ls : Array Slot} {st : List Value} {a0 : Array Value}
variable {a : Addr} {k : ClassId} {ty : FieldType} {vs : List Value} {j : Int32} {v : Value}
theorem inV {c : Cell} (e : c.slots.toList = vs) (h0 : 0 ≤ j.toInt) (hj : vs[j.toInt.toNat]? = some v) : ¬ (j < 0 ∨ c.slots.size ≤ j.toNatClampNeg) ∧ c.slots[j.toNatClampNeg]? = some v := by
  have q := (List.getElem?_eq_some_iff.mp hj).1
  have s : c.slots.size = vs.length := by rw [← e]; simp
  have e0 : (0 : Int32).toInt = 0 := rfl
  have e1 : j.toNatClampNeg = j.toInt.toNat := rfl
  refine ⟨?_, ?_⟩
  · rw [Int32.lt_iff_toInt_lt, e0, e1]; omega
  · rw [e1, ← Array.getElem?_toList, e]; exact hj
theorem lenV (K : Ok κ l Z n0 own nm bytes maxL ret rm Q) (hd : decode bytes pc = .ok (.arraylength, 1)) (A : Av Z h a k ty vs) (hr : Go κ h cells slots (pc + 1) Ls (.int (Int32.ofNat vs.length) :: st)) : Go κ h cells slots pc Ls (.ref a :: st) := by
  obtain ⟨c, A1, e1, e2, e3, e4⟩ := A
  exact arrLen K hd A1 (by rw [← e2]; simp) hr
theorem ialoadV (K : Ok κ l Z n0 own nm bytes maxL ret rm Q) (hd : decode bytes pc = .ok (.iaload, 1)) (A : Av Z h a k .int vs) (h0 : 0 ≤ j.toInt) (hj : vs[j.toInt.toNat]? = some v) (hr : Go κ h cells slots (pc + 1) Ls (v :: st)) : Go κ h cells slots pc Ls (.int j :: .ref a :: st) := by
  obtain ⟨c, A1, e1, e2, e3, e4⟩ := A
  obtain ⟨q1, q2⟩ := inV e2 h0 hj
  exact iaload K hd A1 q1 q2 hr
theorem laloadV (K : Ok κ l Z n0 own nm bytes maxL ret rm Q) (hd : decode bytes pc = .ok (.laload, 1)) (A : Av Z h a k .long vs) (h0 : 0 ≤ j.toInt) (hj : vs[j.toInt.toNat]? = some v) (hr : Go κ h cells slots (pc + 1) Ls (v :: st)) : Go κ h cells slots pc Ls (.int j :: .ref a :: st) := by
  obtain ⟨c, A1, e1, e2, e3, e4⟩ := A
  obtain ⟨q1, q2⟩ := inV e2 h0 hj
  exact laload K hd A1 q1 q2 hr
theorem caloadV (K : Ok κ l Z n0 own nm bytes maxL ret rm Q) (hd : decode bytes pc = .ok (.caload, 1)) (A : Av Z h a k .char vs) (h0 : 0 ≤ j.toInt) (hj : vs[j.toInt.toNat]? = some v) (hr : Go κ h cells slots (pc + 1) Ls (v :: st)) : Go κ h cells slots pc Ls (.int j :: .ref a :: st) := by
  obtain ⟨c, A1, e1, e2, e3, e4⟩ := A
  obtain ⟨q1, q2⟩ := inV e2 h0 hj
  exact caload K hd A1 q1 q2 hr
theorem baloadV (K : Ok κ l Z n0 own nm bytes maxL ret rm Q) (hd : decode bytes pc = .ok (.baload, 1)) (A : Av Z h a k .byte vs) (h0 : 0 ≤ j.toInt) (hj : vs[j.toInt.toNat]? = some v) (hr : Go κ h cells slots (pc + 1) Ls (v :: st)) : Go κ h cells slots pc Ls (.int j :: .ref a :: st) := by
  obtain ⟨c, A1, e1, e2, e3, e4⟩ := A
  obtain ⟨q1, q2⟩ := inV e2 h0 hj
  exact baload K hd A1 q1 q2 hr
theorem iastoreV {x : Int32} (K : Ok κ l Z n0 own nm bytes maxL ret rm Q) (hd : decode bytes pc = .ok (.iastore, 1)) (A : Av Z h a k .int vs) (h0 : 0 ≤ j.toInt) (hj : j.toInt < vs.length) (ge : n0 ≤ a)
    (hr : ∀ h', Wr h h' a j.toInt.toNat (.int x) → Av Z h' a k .int (vs.set j.toInt.toNat (.int x)) → Go κ h' cells slots (pc + 1) Ls st) : Go κ h cells slots pc Ls (.int x :: .int j :: .ref a :: st) := by
  obtain ⟨c, A1, e1, e2, e3, e4⟩ := A
  obtain ⟨w, hw⟩ : ∃ w, vs[j.toInt.toNat]? = some w := ⟨_, List.getElem?_eq_getElem (by omega)⟩
  obtain ⟨q1, q2⟩ := inV e2 h0 hw
  exact iastore K hd A1 q1 ge fun h' W => hr h' W (Av.set ⟨c, A1, e1, e2, e3, e4⟩ W rfl)
theorem lastoreV {x : Int64} (K : Ok κ l Z n0 own nm bytes maxL ret rm Q) (hd : decode bytes pc = .ok (.lastore, 1)) (A : Av Z h a k .long vs) (h0 : 0 ≤ j.toInt) (hj : j.toInt < vs.length) (ge : n0 ≤ a)
    (hr : ∀ h', Wr h h' a j.toInt.toNat (.long x) → Av Z h' a k .long (vs.set j.toInt.toNat (.long x)) → Go κ h' cells slots (pc + 1) Ls st) : Go κ h cells slots pc Ls (.long x :: .int j :: .ref a :: st) := by
  obtain ⟨c, A1, e1, e2, e3, e4⟩ := A
  obtain ⟨w, hw⟩ : ∃ w, vs[j.toInt.toNat]? = some w := ⟨_, List.getElem?_eq_getElem (by omega)⟩
  obtain ⟨q1, q2⟩ := inV e2 h0 hw
  exact lastore K hd A1 q1 ge fun h' W => hr h' W (Av.set ⟨c, A1, e1, e2, e3, e4⟩ W rfl)
theorem castoreV {x : Int32} (K : Ok κ l Z n0 own nm bytes maxL ret rm Q) (hd : decode bytes pc = .ok (.castore, 1)) (A : Av Z h a k .char vs) (h0 : 0 ≤ j.toInt) (hj : j.toInt < vs.length) (ge : n0 ≤ a)
    (hr : ∀ h', Wr h h' a j.toInt.toNat (.int (nar .char x)) → Av Z h' a k .char (vs.set j.toInt.toNat (.int (nar .char x))) → Go κ h' cells slots (pc + 1) Ls st) : Go κ h cells slots pc Ls (.int x :: .int j :: .ref a :: st) := by
  obtain ⟨c, A1, e1, e2, e3, e4⟩ := A
  obtain ⟨w, hw⟩ : ∃ w, vs[j.toInt.toNat]? = some w := ⟨_, List.getElem?_eq_getElem (by omega)⟩
  obtain ⟨q1, q2⟩ := inV e2 h0 hw
  exact castore K hd A1 q1 ge fun h' W => hr h' W (Av.set ⟨c, A1, e1, e2, e3, e4⟩ W (fits_nar_char x))
theorem bastoreV {x : Int32} (K : Ok κ l Z n0 own nm bytes maxL ret rm Q) (hd : decode bytes pc = .ok (.bastore, 1)) (A : Av Z h a k .byte vs) (h0 : 0 ≤ j.toInt) (hj : j.toInt < vs.length) (ge : n0 ≤ a)
    (hr : ∀ h', Wr h h' a j.toInt.toNat (.int x.toInt8.toInt32) → Av Z h' a k .byte (vs.set j.toInt.toNat (.int x.toInt8.toInt32)) → Go κ h' cells slots (pc + 1) Ls st) : Go κ h cells slots pc Ls (.int x :: .int j :: .ref a :: st) := by
  obtain ⟨c, A1, e1, e2, e3, e4⟩ := A
  obtain ⟨w, hw⟩ : ∃ w, vs[j.toInt.toNat]? = some w := ⟨_, List.getElem?_eq_getElem (by omega)⟩
  obtain ⟨q1, q2⟩ := inV e2 h0 hw
  exact bastore K hd A1 q1 ge fun h' W => hr h' W (Av.set ⟨c, A1, e1, e2, e3, e4⟩ W (fits_nar_byte x))
theorem aaloadV (K : Ok κ l Z n0 own nm bytes maxL ret rm Q) (hd : decode bytes pc = .ok (.aaload, 1)) (A : Av Z h a k ty vs) (hty : ty.isReference = true) (h0 : 0 ≤ j.toInt) (hj : vs[j.toInt.toNat]? = some v) (hr : Go κ h cells slots (pc + 1) Ls (v :: st)) : Go κ h cells slots pc Ls (.int j :: .ref a :: st) := by
  obtain ⟨c, A1, e1, e2, e3, e4⟩ := A
  obtain ⟨q1, q2⟩ := inV e2 h0 hj
  exact aaload K hd A1 hty q1 q2 hr
theorem aastoreV {C : String} {y : Addr} (K : Ok κ l Z n0 own nm bytes maxL ret rm Q) (hd : decode bytes pc = .ok (.aastore, 1)) (A : Av Z h a k ty vs) (O : Ovr Z k C) (I : Ins Z h y C true) (hty : ty.isReference = true) (h0 : 0 ≤ j.toInt) (hj : j.toInt < vs.length) (ge : n0 ≤ a)
    (hr : ∀ h', Wr h h' a j.toInt.toNat (.ref y) → Av Z h' a k ty (vs.set j.toInt.toNat (.ref y)) → Go κ h' cells slots (pc + 1) Ls st) : Go κ h cells slots pc Ls (.ref y :: .int j :: .ref a :: st) := by
  obtain ⟨c, A1, e1, e2, e3, e4⟩ := A
  obtain ⟨w, hw⟩ : ∃ w, vs[j.toInt.toNat]? = some w := ⟨_, List.getElem?_eq_getElem (by omega)⟩
  obtain ⟨q1, q2⟩ := inV e2 h0 hw
  refine aastore K hd A1 q1 hty (Sto.ofV A1 e1 O I) ge fun h' W => ?_
  exact hr h' W (Av.set ⟨c, A1, e1, e2, e3, e4⟩ W (by cases ty <;> first | (exact Bool.noConfusion hty) | rfl))
theorem newArrV {aty : ArrayType} {n : Int32} {cap : Nat} (K : Ok κ l Z n0 own nm bytes maxL ret rm Q) (hd : decode bytes pc = .ok (.newarray aty, 2)) (w : (Cond.arrayClass (newarray.typeOf aty)).before a0 Z = true) (hn : 0 ≤ n.toInt) (hcap : n.toInt ≤ cap) (hb8 : cap * 8 ≤ 536870912)
    (hc : cells + 1 ≤ rm.cells) (hl : slots + cap ≤ rm.slots)
    (hr : ∀ h' a k, a = h.size → n0 ≤ a → Ext h h' → Av Z h' a k (newarray.typeOf aty) (List.replicate n.toInt.toNat (defaultValue (newarray.typeOf aty))) → Exa Z h' a ("[" ++ (newarray.typeOf aty).toString) → Go κ h' (cells + 1) (slots + cap) (pc + 2) Ls (.ref a :: st)) : Go κ h cells slots pc Ls (.int n :: st) := by
  have e0 : (0 : Int32).toInt = 0 := rfl
  have e1 : n.toNatClampNeg = n.toInt.toNat := rfl
  refine newArr K hd w (by rw [Int32.lt_iff_toInt_lt, e0]; omega) (by rw [e1]; omega) hb8 rfl hc hl fun h' a cA q1 q2 q3 q4 q5 => ?_
  exact hr h' a cA q1 q2 q3 (Av.new q4 hn) q5
theorem anewArrV {C : String} {index : Nat} {n : Int32} {cap : Nat} (K : Ok κ l Z n0 own nm bytes maxL ret rm Q) (hd : decode bytes pc = .ok (.anewarray index, 3)) (w1 : (Cond.classLink own index C).before a0 Z = true) (w2 : (Cond.arrayOver (.object C)).before a0 Z = true) (hn : 0 ≤ n.toInt) (hcap : n.toInt ≤ cap) (hb8 : cap * 8 ≤ 536870912)
    (hc : cells + 1 ≤ rm.cells) (hl : slots + cap ≤ rm.slots)
    (hr : ∀ h' a k, a = h.size → n0 ≤ a → Ext h h' → Av Z h' a k (.object C) (List.replicate n.toInt.toNat .null) → Ovr Z k C → Go κ h' (cells + 1) (slots + cap) (pc + 3) Ls (.ref a :: st)) : Go κ h cells slots pc Ls (.int n :: st) := by
  have e0 : (0 : Int32).toInt = 0 := rfl
  have e1 : n.toNatClampNeg = n.toInt.toNat := rfl
  refine anewArr K hd w1 w2 (by rw [Int32.lt_iff_toInt_lt, e0]; omega) (by rw [e1]; omega) hb8 hc hl fun h' a cA q1 q2 q3 q4 q5 => ?_
  exact hr h' a cA q1 q2 q3 (Av.new q4 hn) q5
/-- System.arraycopy between two arrays of one primitive kind -/
theorem copyV {index : Nat} {b : Addr} {k' : ClassId} {us : List Value} {sp dp nn : Int32} {W : Nat} (K : Ok κ l Z n0 own nm bytes maxL ret rm Q) (hd : decode bytes pc = .ok (.invokestatic index, 3))
    (w1 : (Cond.methodLink own index Jvm.Stand.acN).before a0 Z = true) (w2 : (Cond.native Jvm.Stand.acN).before a0 Z = true) (w3 : (Cond.static Jvm.Stand.acN).before a0 Z = true) (w4 : (Cond.initialized "java/lang/System").before a0 Z = true)
    (A : Av Z h a k ty vs) (B : Av Z h b k' ty us) (hty : refKind ty = false) (h1 : 0 ≤ sp.toInt) (h2 : 0 ≤ dp.toInt) (h3 : 0 ≤ nn.toInt) (h4 : sp.toInt + nn.toInt ≤ vs.length) (h5 : dp.toInt + nn.toInt ≤ us.length) (ge : n0 ≤ b)
    (hsz : Ls.size = maxL) (hW : (st.map fun v => v.category).sum ≤ W) (hf : 1 ≤ rm.frames) (hlo : W + (nativeFrameWords "java/lang/System" "arraycopy" 5 + 11) ≤ rm.locals)
    (hr : ∀ h', Keep h h' [b] → Av Z h' b k' ty (us.take dp.toInt.toNat ++ (vs.drop sp.toInt.toNat).take nn.toInt.toNat ++ us.drop (dp.toInt.toNat + nn.toInt.toNat)) → Go κ h' cells slots (pc + 3) Ls st) :
    Go κ h cells slots pc Ls (.int nn :: .int dp :: .ref b :: .int sp :: .ref a :: st) := fun T locs vm0 X AD hZ N OB eT => by
  have e0 : (0 : Int32).toInt = 0 := rfl
  have eR := K.eR
  have lA := A.len
  have lB := B.len
  have sA : (Int32.ofNat vs.length).toInt = vs.length := len_toInt lA
  have sB : (Int32.ofNat us.length).toInt = us.length := len_toInt lB
  have hus : (vs.drop sp.toInt.toNat).take nn.toInt.toNat = (List.range nn.toNatClampNeg).map fun i => vs.getD (sp.toNatClampNeg + i) .null := by
    refine List.ext_getElem? fun i => ?_
    show _ = ((List.range nn.toInt.toNat).map fun i => vs.getD (sp.toInt.toNat + i) .null)[i]?
    rcases Nat.lt_or_ge i nn.toInt.toNat with hi | hi
    · rw [List.getElem?_take_of_lt hi, List.getElem?_drop, List.getElem?_map, List.getElem?_range hi, Option.map_some, List.getD_eq_getElem?_getD, List.getElem?_eq_getElem (by omega)]; rfl
    · rw [List.getElem?_eq_none (by rw [List.length_take, List.length_drop]; omega), List.getElem?_eq_none (by rw [List.length_map, List.length_range]; omega)]
  obtain ⟨T', h', L, X', e', N', KP, AV, st1⟩ := cpA X K.exec (K.warm hZ) (K.ko AD) w1 w2 w3 w4 eT (A.arv .null) (B.arv .null) (Or.inl ⟨rfl, hty⟩) (sp := sp) (dp := dp) (nn := nn) (by rw [Int32.lt_iff_toInt_lt, e0]; omega) (by rw [Int32.lt_iff_toInt_lt, e0]; omega) (by rw [Int32.lt_iff_toInt_lt, e0]; omega)
    (by show sp.toInt.toNat + nn.toInt.toNat ≤ (Int32.ofNat vs.length).toInt.toNat; omega) (by show dp.toInt.toNat + nn.toInt.toNat ≤ (Int32.ofNat us.length).toInt.toNat; omega) hus (by show dp.toInt.toNat + nn.toInt.toNat ≤ us.length; omega) N (by rw [K.en]; exact ge)
    (g := mkF κ.m pc Ls (.int nn :: .int dp :: .ref b :: .int sp :: .ref a :: st)) rfl (by rw [K.kl]; exact hsz) rfl (hb K.kb hd) (by rw [eR]; exact hf) (W0 hW) (by rw [eR]; exact hlo)
  have AV' : Av Z h' b k' ty (us.take dp.toInt.toNat ++ (vs.drop sp.toInt.toNat).take nn.toInt.toNat ++ us.drop (dp.toInt.toNat + nn.toInt.toNat)) := Av.of_arv AV (by simp only [List.length_append, List.length_take, List.length_drop]; omega)
  obtain ⟨s₂, o, hs, r⟩ := hr h' KP AV' T' L vm0 X' (AD.mono KP.1) hZ N' (OB.keep KP (allS (by rw [K.en]; exact ge) all0)) e'
  exact ⟨s₂, o, st1 _ hs, r⟩
end ALaws
end Jvm.OwnKit

namespace Jvm.Pilot.@@N@@
open Jvm Jvm.ClassFile Sem Op Lib Jvm.Free Jvm.Stand Jvm.LawKit Jvm.RoadKit Bundle Jvm.Pilot.@@N@@.Jvm.D
/-- the byte that stands for a char of a Latin-1 String -/
def own_B (c : Int32) : Value := .int c.toInt8.toInt32
def own_mix (cs : List Int32) (j : Nat) : List Value := (cs.take j).map own_B ++ List.replicate (cs.length - j) (.int 0)
theorem own_mix0 (cs : List Int32) : own_mix cs 0 = List.replicate cs.length (.int 0) := by simp [own_mix]
theorem own_mixN (cs : List Int32) : own_mix cs cs.length = cs.map own_B := by simp [own_mix]
theorem own_mixLen {cs : List Int32} {j : Nat} (h : j ≤ cs.length) : (own_mix cs j).length = cs.length := by simp [own_mix]; omega
theorem own_mixS {cs : List Int32} {j : Nat} {c : Int32} (h : cs[j]? = some c) : (own_mix cs j).set j (own_B c) = own_mix cs (j + 1) := by
  obtain ⟨hj, rfl⟩ := List.getElem?_eq_some_iff.mp h
  refine List.ext_getElem? fun i => ?_
  rw [List.getElem?_set]
  unfold own_mix
  by_cases h1 : j = i
  · subst h1
    rw [if_pos rfl, if_pos (by simp; omega), List.getElem?_append_left (by simp; omega)]
    simp [List.getElem?_take, hj]
  · rw [if_neg h1]
    rcases Nat.lt_or_ge i j with h2 | h2
    · rw [List.getElem?_append_left (by simp; omega), List.getElem?_append_left (by simp; omega)]
      simp [List.getElem?_take, show i < j by omega, show i < j + 1 by omega]
    · rw [List.getElem?_append_right (by simp; omega), List.getElem?_append_right (by simp; omega)]
      simp only [List.length_map, List.length_take, List.getElem?_replicate]
      rw [Nat.min_eq_left (by omega), Nat.min_eq_left (by omega)]
      by_cases h3 : i < cs.length
      · rw [if_pos (by omega), if_pos (by omega)]
      · rw [if_neg (by omega), if_neg (by omega)]
def own_lat (cs : List Int32) : Prop := ∀ c ∈ cs, 0 ≤ c.toInt ∧ c.toInt ≤ 255
theorem own_latAt {cs : List Int32} (h : own_lat cs) {i : Nat} {c : Int32} (q : cs[i]? = some c) : 0 ≤ c.toInt ∧ c.toInt ≤ 255 := h c (List.mem_of_getElem? q)
def QComp (Z : State) (b : Addr) (kb : ClassId) (cs : List Int32) (h0 : Heap) (v : Option Value) (h : Heap) : Prop := ∃ r : Int32, v = some (.int r) ∧ Keep h0 h [b] ∧ 0 ≤ r.toInt ∧ ((r.toInt = cs.length ∧ OwnKit.Av Z h b kb .byte (cs.map own_B)) ∨ (r.toInt < cs.length ∧ ∃ c, cs[r.toInt.toNat]? = some c ∧ 255 < c.toInt))
def QCompL (Z : State) (cs : List Int32) (h0 : Heap) (v : Option Value) (h : Heap) : Prop := ∃ b k, v = some (.ref b) ∧ Keep h0 h [] ∧ h0.size ≤ b ∧ OwnKit.Av Z h b k .byte (cs.map own_B)
def QInt (z : Int32) (h0 : Heap) (v : Option Value) (h : Heap) : Prop := v = some (.int z) ∧ h0 = h
/-- a String made of Latin-1 chars -/
def QStrL (Z : State) (a : Addr) (cs : List Int32) (h0 : Heap) (v : Option Value) (h : Heap) : Prop := ∃ b k, v = none ∧ Keep h0 h [a] ∧ h0.size ≤ b ∧ Fld Z h a "java/lang/String" "value" "[B" (.ref b) ∧ Fld Z h a "java/lang/String" "coder" "B" (.int 0) ∧ OwnKit.Av Z h b k .byte (cs.map own_B)
theorem own_ushr0 : XT.ushr (0 : Int32) (31 : Int32) = 0 := by decide
theorem own_i8 (c : Int32) : c.toInt8.toInt32.toInt8.toInt32 = c.toInt8.toInt32 := by simp
theorem own_ofLen {n : Int32} {k : Nat} (h : n.toInt = k) : Int32.ofNat k = n := by
  have q := n.toInt_lt
  refine Int32.toInt_inj.mp ?_
  rw [show (Int32.ofNat k).toInt = (k : Int) from len_toInt (by omega), h]

theorem d_jdk_52m21_0 : decode jdk_52_method_21_code 0 = .ok (.iconst 0, 1) := by decide +kernel
theorem d_jdk_52m21_1 : decode jdk_52_method_21_code 1 = .ok (.istore 5, 2) := by decide +kernel
theorem d_jdk_52m21_3 : decode jdk_52_method_21_code 3 = .ok (.iload 5, 2) := by decide +kernel
theorem d_jdk_52m21_5 : decode jdk_52_method_21_code 5 = .ok (.iload 4, 2) := by decide +kernel
theorem d_jdk_52m21_7 : decode jdk_52_method_21_code 7 = .ok (.if_icmp .ge 37, 3) := by decide +kernel
theorem d_jdk_52m21_10 : decode jdk_52_method_21_code 10 = .ok (.aload_n 0, 1) := by decide +kernel
theorem d_jdk_52m21_11 : decode jdk_52_method_21_code 11 = .ok (.iload_n 1, 1) := by decide +kernel
theorem d_jdk_52m21_12 : decode jdk_52_method_21_code 12 = .ok (.caload, 1) := by decide +kernel
theorem d_jdk_52m21_13 : decode jdk_52_method_21_code 13 = .ok (.istore 6, 2) := by decide +kernel
theorem d_jdk_52m21_15 : decode jdk_52_method_21_code 15 = .ok (.iload 6, 2) := by decide +kernel
theorem d_jdk_52m21_17 : decode jdk_52_method_21_code 17 = .ok (.sipush 255, 3) := by decide +kernel
theorem d_jdk_52m21_20 : decode jdk_52_method_21_code 20 = .ok (.if_icmp .le 6, 3) := by decide +kernel
theorem d_jdk_52m21_23 : decode jdk_52_method_21_code 23 = .ok (.iload 5, 2) := by decide +kernel
theorem d_jdk_52m21_25 : decode jdk_52_method_21_code 25 = .ok (.ireturn, 1) := by decide +kernel
theorem d_jdk_52m21_26 : decode jdk_52_method_21_code 26 = .ok (.aload_n 2, 1) := by decide +kernel
theorem d_jdk_52m21_27 : decode jdk_52_method_21_code 27 = .ok (.iload_n 3, 1) := by decide +kernel
theorem d_jdk_52m21_28 : decode jdk_52_method_21_code 28 = .ok (.iload 6, 2) := by decide +kernel
theorem d_jdk_52m21_30 : decode jdk_52_method_21_code 30 = .ok (.i2b, 1) := by decide +kernel
theorem d_jdk_52m21_31 : decode jdk_52_method_21_code 31 = .ok (.bastore, 1) := by decide +kernel
theorem d_jdk_52m21_32 : decode jdk_52_method_21_code 32 = .ok (.iinc 1 1, 3) := by decide +kernel
theorem d_jdk_52m21_35 : decode jdk_52_method_21_code 35 = .ok (.iinc 3 1, 3) := by decide +kernel
theorem d_jdk_52m21_38 : decode jdk_52_method_21_code 38 = .ok (.iinc 5 1, 3) := by decide +kernel
theorem d_jdk_52m21_41 : decode jdk_52_method_21_code 41 = .ok (.goto (-38), 3) := by decide +kernel
theorem d_jdk_52m21_44 : decode jdk_52_method_21_code 44 = .ok (.iload 4, 2) := by decide +kernel
theorem d_jdk_52m21_46 : decode jdk_52_method_21_code 46 = .ok (.ireturn, 1) := by decide +kernel
set_option maxRecDepth 65536 in
set_option maxHeartbeats 40000000 in
theorem c_comp (l : Launch) (Z : State) (a0 : Array Value) (hw : ∀ d ∈ tables_1, d.before a0 Z = true) (n0 : Nat) (h0 : Heap) (v b : Addr) (kv kb : ClassId) (cs : List Int32) (n : Int32) (hn : n.toInt = cs.length) (G_b : n0 ≤ b) (nvb : v ≠ b) (Av0 : OwnKit.Av Z h0 v kv .char (cs.map Value.int)) (Ab0 : OwnKit.Av Z h0 b kb .byte (List.replicate cs.length (.int 0))) :
    OwnKit.Con false l Z n0 (⟨"java/lang/StringUTF16", "compress", "([CI[BII)I"⟩ : MethodName) jdk_52_method_21_code 7 (some .int) ({ frames := 0, cells := 0, slots := 0, locals := 0 } : Room) #[.ref v, .int (0 : Int32), .ref b, .int (0 : Int32), .int n] h0 (QComp Z b kb cs h0) := by
  refine OwnKit.Con.of (by first | (refine plainFor_of_name ?_; simp [plainName, overriddenIn]; done) | decide +kernel) ?_ ?_
  · intro κ hwd K0
    have K : OwnKit.Ok κ l Z n0 "java/lang/StringUTF16" "compress" jdk_52_method_21_code 7 (some .int) ({ frames := 0, cells := 0, slots := 0, locals := 0 } : Room) (QComp Z b kb cs h0) := K0
    have ef : (entryFrame κ.m #[.ref v, .int (0 : Int32), .ref b, .int (0 : Int32), .int n] 7).locals = #[.val (.ref v), .val (.int (0 : Int32)), .val (.ref b), .val (.int (0 : Int32)), .val (.int n), .unset, .unset] := by first | (simp [entryFrame, argsToLocals, Value.category]; done) | rfl
    rw [ef]; clear ef K0
    have e0 : (0 : Int32).toInt = 0 := rfl
    have e1 : (1 : Int32).toInt = 1 := rfl
    have e255 : (255 : Int32).toInt = 255 := rfl
    have loop : ∀ (k j : Nat) (i : Int32) (s6 : Slot) (h : Heap), i.toInt = (j : Int) → j + k = cs.length → One s6 → Keep h0 h [b] → OwnKit.Av Z h v kv .char (cs.map Value.int) → OwnKit.Av Z h b kb .byte (own_mix cs j) → OwnKit.Go κ h 0 0 3 #[.val (.ref v), .val (.int i), .val (.ref b), .val (.int i), .val (.int n), .val (.int i), s6] [] := by
      intro k
      induction k with
      | zero =>
        intro j i s6 h hi hjk o_s6 Kp Av Ab
        show OwnKit.Go κ h 0 0 3 #[.val (.ref v), .val (.int i), .val (.ref b), .val (.int i), .val (.int n), .val (.int i), s6] []
        refine OwnKit.iload K d_jdk_52m21_3 rfl ?_
        show OwnKit.Go κ h 0 0 5 #[.val (.ref v), .val (.int i), .val (.ref b), .val (.int i), .val (.int n), .val (.int i), s6] [.int i]
        refine OwnKit.iload K d_jdk_52m21_5 rfl ?_
        show OwnKit.Go κ h 0 0 7 #[.val (.ref v), .val (.int i), .val (.ref b), .val (.int i), .val (.int n), .val (.int i), s6] [.int n, .int i]
        refine OwnKit.icmpge K d_jdk_52m21_7 (by decide) (pc' := 44) rfl  (fun b1 => ?_) (fun b1 => ?_)
        · show OwnKit.Go κ h 0 0 44 #[.val (.ref v), .val (.int i), .val (.ref b), .val (.int i), .val (.int n), .val (.int i), s6] []
          refine OwnKit.iload K d_jdk_52m21_44 rfl ?_
          show OwnKit.Go κ h 0 0 46 #[.val (.ref v), .val (.int i), .val (.ref b), .val (.int i), .val (.int n), .val (.int i), s6] [.int n]
          refine OwnKit.ireturn K d_jdk_52m21_46 (Or.inl rfl) rfl ?_ (Nat.le_of_ble_eq_true rfl) (Nat.le_of_ble_eq_true rfl)
          · obtain rfl : j = cs.length := by omega
            rw [own_mixN] at Ab
            exact ⟨_, rfl, Kp, by omega, Or.inl ⟨hn, Ab⟩⟩
        · exfalso; omega
      | succ k ih =>
        intro j i s6 h hi hjk o_s6 Kp Av Ab
        obtain ⟨c, hcj⟩ : ∃ c, cs[j]? = some c := ⟨_, List.getElem?_eq_getElem (by omega)⟩
        show OwnKit.Go κ h 0 0 3 #[.val (.ref v), .val (.int i), .val (.ref b), .val (.int i), .val (.int n), .val (.int i), s6] []
        refine OwnKit.iload K d_jdk_52m21_3 rfl ?_
        show OwnKit.Go κ h 0 0 5 #[.val (.ref v), .val (.int i), .val (.ref b), .val (.int i), .val (.int n), .val (.int i), s6] [.int i]
        refine OwnKit.iload K d_jdk_52m21_5 rfl ?_
        show OwnKit.Go κ h 0 0 7 #[.val (.ref v), .val (.int i), .val (.ref b), .val (.int i), .val (.int n), .val (.int i), s6] [.int n, .int i]
        refine OwnKit.icmpge K d_jdk_52m21_7 (by decide) (pc' := 44) rfl  (fun b2 => ?_) (fun b2 => ?_)
        · exfalso; omega
        · show OwnKit.Go κ h 0 0 10 #[.val (.ref v), .val (.int i), .val (.ref b), .val (.int i), .val (.int n), .val (.int i), s6] []
          refine OwnKit.aloadN K d_jdk_52m21_10 rfl rfl ?_
          show OwnKit.Go κ h 0 0 11 #[.val (.ref v), .val (.int i), .val (.ref b), .val (.int i), .val (.int n), .val (.int i), s6] [.ref v]
          refine OwnKit.iloadN K d_jdk_52m21_11 rfl ?_
          show OwnKit.Go κ h 0 0 12 #[.val (.ref v), .val (.int i), .val (.ref b), .val (.int i), .val (.int n), .val (.int i), s6] [.int i, .ref v]
          refine OwnKit.caloadV K d_jdk_52m21_12 (v := .int c) Av (by omega) (by rw [hi]; simp [hcj]) ?_
          show OwnKit.Go κ h 0 0 13 #[.val (.ref v), .val (.int i), .val (.ref b), .val (.int i), .val (.int n), .val (.int i), s6] [.int c]
          refine OwnKit.istore K d_jdk_52m21_13 (l' := #[.val (.ref v), .val (.int i), .val (.ref b), .val (.int i), .val (.int n), .val (.int i), .val (.int c)]) (XS.store1 rfl o_s6 rfl) ?_
          show OwnKit.Go κ h 0 0 15 #[.val (.ref v), .val (.int i), .val (.ref b), .val (.int i), .val (.int n), .val (.int i), .val (.int c)] []
          refine OwnKit.iload K d_jdk_52m21_15 rfl ?_
          show OwnKit.Go κ h 0 0 17 #[.val (.ref v), .val (.int i), .val (.ref b), .val (.int i), .val (.int n), .val (.int i), .val (.int c)] [.int c]
          refine OwnKit.sipush K d_jdk_52m21_17 ?_
          show OwnKit.Go κ h 0 0 20 #[.val (.ref v), .val (.int i), .val (.ref b), .val (.int i), .val (.int n), .val (.int i), .val (.int c)] [.int (255 : Int32), .int c]
          refine OwnKit.icmple K d_jdk_52m21_20 (by decide) (pc' := 26) rfl  (fun b3 => ?_) (fun b3 => ?_)
          · show OwnKit.Go κ h 0 0 26 #[.val (.ref v), .val (.int i), .val (.ref b), .val (.int i), .val (.int n), .val (.int i), .val (.int c)] []
            refine OwnKit.aloadN K d_jdk_52m21_26 rfl rfl ?_
            show OwnKit.Go κ h 0 0 27 #[.val (.ref v), .val (.int i), .val (.ref b), .val (.int i), .val (.int n), .val (.int i), .val (.int c)] [.ref b]
            refine OwnKit.iloadN K d_jdk_52m21_27 rfl ?_
            show OwnKit.Go κ h 0 0 28 #[.val (.ref v), .val (.int i), .val (.ref b), .val (.int i), .val (.int n), .val (.int i), .val (.int c)] [.int i, .ref b]
            refine OwnKit.iload K d_jdk_52m21_28 rfl ?_
            show OwnKit.Go κ h 0 0 30 #[.val (.ref v), .val (.int i), .val (.ref b), .val (.int i), .val (.int n), .val (.int i), .val (.int c)] [.int c, .int i, .ref b]
            refine OwnKit.i2b K d_jdk_52m21_30 ?_
            show OwnKit.Go κ h 0 0 31 #[.val (.ref v), .val (.int i), .val (.ref b), .val (.int i), .val (.int n), .val (.int i), .val (.int c)] [.int c.toInt8.toInt32, .int i, .ref b]
            refine OwnKit.bastoreV K d_jdk_52m21_31 Ab (by omega) (by rw [own_mixLen (by omega)]; omega) G_b ?_
            intro h2 W2 A2
            have A3 : OwnKit.Av Z h2 b kb .byte (own_mix cs (j + 1)) := by rw [hi, own_i8] at A2; rw [← own_mixS hcj]; exact A2
            have Av2 := Av.other W2 nvb
            have Kp2 := Kp.wr W2 (Or.inl (by simp))
            show OwnKit.Go κ h2 0 0 32 #[.val (.ref v), .val (.int i), .val (.ref b), .val (.int i), .val (.int n), .val (.int i), .val (.int c)] []
            refine OwnKit.iinc K d_jdk_52m21_32 rfl (l' := #[.val (.ref v), .val (.int (i + (1 : Int32))), .val (.ref b), .val (.int i), .val (.int n), .val (.int i), .val (.int c)]) rfl ?_
            show OwnKit.Go κ h2 0 0 35 #[.val (.ref v), .val (.int (i + (1 : Int32))), .val (.ref b), .val (.int i), .val (.int n), .val (.int i), .val (.int c)] []
            refine OwnKit.iinc K d_jdk_52m21_35 rfl (l' := #[.val (.ref v), .val (.int (i + (1 : Int32))), .val (.ref b), .val (.int (i + (1 : Int32))), .val (.int n), .val (.int i), .val (.int c)]) rfl ?_
            show OwnKit.Go κ h2 0 0 38 #[.val (.ref v), .val (.int (i + (1 : Int32))), .val (.ref b), .val (.int (i + (1 : Int32))), .val (.int n), .val (.int i), .val (.int c)] []
            refine OwnKit.iinc K d_jdk_52m21_38 rfl (l' := #[.val (.ref v), .val (.int (i + (1 : Int32))), .val (.ref b), .val (.int (i + (1 : Int32))), .val (.int n), .val (.int (i + (1 : Int32))), .val (.int c)]) rfl ?_
            show OwnKit.Go κ h2 0 0 41 #[.val (.ref v), .val (.int (i + (1 : Int32))), .val (.ref b), .val (.int (i + (1 : Int32))), .val (.int n), .val (.int (i + (1 : Int32))), .val (.int c)] []
            refine OwnKit.goto K d_jdk_52m21_41 (by decide) (pc' := 3) rfl ?_
            show OwnKit.Go κ h2 0 0 3 #[.val (.ref v), .val (.int (i + (1 : Int32))), .val (.ref b), .val (.int (i + (1 : Int32))), .val (.int n), .val (.int (i + (1 : Int32))), .val (.int c)] []
            exact ih (j + 1) _ _ h2 (by have q := c_iadd i 1; have r := rng32 (i + 1); have := n.toInt_lt; omega) (by omega) (One.val rfl) Kp2 Av2 A3
          · show OwnKit.Go κ h 0 0 23 #[.val (.ref v), .val (.int i), .val (.ref b), .val (.int i), .val (.int n), .val (.int i), .val (.int c)] []
            refine OwnKit.iload K d_jdk_52m21_23 rfl ?_
            show OwnKit.Go κ h 0 0 25 #[.val (.ref v), .val (.int i), .val (.ref b), .val (.int i), .val (.int n), .val (.int i), .val (.int c)] [.int i]
            refine OwnKit.ireturn K d_jdk_52m21_25 (Or.inl rfl) rfl ?_ (Nat.le_of_ble_eq_true rfl) (Nat.le_of_ble_eq_true rfl)
            exact ⟨_, rfl, Kp, by omega, Or.inr ⟨by omega, c, by rw [hi]; simpa using hcj, by omega⟩⟩
    show OwnKit.Go κ h0 0 0 0 #[.val (.ref v), .val (.int (0 : Int32)), .val (.ref b), .val (.int (0 : Int32)), .val (.int n), .unset, .unset] []
    refine OwnKit.iconst K d_jdk_52m21_0 ?_
    show OwnKit.Go κ h0 0 0 1 #[.val (.ref v), .val (.int (0 : Int32)), .val (.ref b), .val (.int (0 : Int32)), .val (.int n), .unset, .unset] [.int (0 : Int32)]
    refine OwnKit.istore K d_jdk_52m21_1 (l' := #[.val (.ref v), .val (.int (0 : Int32)), .val (.ref b), .val (.int (0 : Int32)), .val (.int n), .val (.int (0 : Int32)), .unset]) rfl ?_
    show OwnKit.Go κ h0 0 0 3 #[.val (.ref v), .val (.int (0 : Int32)), .val (.ref b), .val (.int (0 : Int32)), .val (.int n), .val (.int (0 : Int32)), .unset] []
    exact loop cs.length 0 _ _ h0 rfl (by omega) One.u (Keep.refl _ _) Av0 (by rw [own_mix0]; exact Ab0)
  · intro m; first | rfl | (simp [entryFrame, mkF, argsToLocals, Value.category]; done)

theorem d_jdk_52m16_0 : decode jdk_52_method_16_code 0 = .ok (.iload_n 2, 1) := by decide +kernel
theorem d_jdk_52m16_1 : decode jdk_52_method_16_code 1 = .ok (.newarray .byte, 2) := by decide +kernel
theorem d_jdk_52m16_3 : decode jdk_52_method_16_code 3 = .ok (.astore_n 3, 1) := by decide +kernel
theorem d_jdk_52m16_4 : decode jdk_52_method_16_code 4 = .ok (.aload_n 0, 1) := by decide +kernel
theorem d_jdk_52m16_5 : decode jdk_52_method_16_code 5 = .ok (.iload_n 1, 1) := by decide +kernel
theorem d_jdk_52m16_6 : decode jdk_52_method_16_code 6 = .ok (.aload_n 3, 1) := by decide +kernel
theorem d_jdk_52m16_7 : decode jdk_52_method_16_code 7 = .ok (.iconst 0, 1) := by decide +kernel
theorem d_jdk_52m16_8 : decode jdk_52_method_16_code 8 = .ok (.iload_n 2, 1) := by decide +kernel
theorem d_jdk_52m16_9 : decode jdk_52_method_16_code 9 = .ok (.invokestatic 115, 3) := by decide +kernel
theorem d_jdk_52m16_12 : decode jdk_52_method_16_code 12 = .ok (.istore 4, 2) := by decide +kernel
theorem d_jdk_52m16_14 : decode jdk_52_method_16_code 14 = .ok (.iload 4, 2) := by decide +kernel
theorem d_jdk_52m16_16 : decode jdk_52_method_16_code 16 = .ok (.iload_n 2, 1) := by decide +kernel
theorem d_jdk_52m16_17 : decode jdk_52_method_16_code 17 = .ok (.if_icmp .eq 40, 3) := by decide +kernel
theorem d_jdk_52m16_57 : decode jdk_52_method_16_code 57 = .ok (.aload_n 3, 1) := by decide +kernel
theorem d_jdk_52m16_58 : decode jdk_52_method_16_code 58 = .ok (.areturn, 1) := by decide +kernel
set_option maxRecDepth 65536 in
set_option maxHeartbeats 40000000 in
theorem c_compL (l : Launch) (Z : State) (a0 : Array Value) (hw : ∀ d ∈ tables_1, d.before a0 Z = true) (n0 : Nat) (h0 : Heap) (v : Addr) (kv : ClassId) (cs : List Int32) (n : Int32) (hn : n.toInt = cs.length) (hcap : cs.length ≤ 2) (hl : own_lat cs) (Av0 : OwnKit.Av Z h0 v kv .char (cs.map Value.int)) :
    OwnKit.Con false l Z n0 (⟨"java/lang/StringUTF16", "compress", "([CII)[B"⟩ : MethodName) jdk_52_method_16_code 6 (some (.array .byte)) ({ frames := 1, cells := 1, slots := 2, locals := 18 } : Room) #[.ref v, .int (0 : Int32), .int n] h0 (QCompL Z cs h0) := by
  refine OwnKit.Con.of (by first | (refine plainFor_of_name ?_; simp [plainName, overriddenIn]; done) | decide +kernel) ?_ ?_
  · intro κ hwd K0
    have K : OwnKit.Ok κ l Z n0 "java/lang/StringUTF16" "compress" jdk_52_method_16_code 6 (some (.array .byte)) ({ frames := 1, cells := 1, slots := 2, locals := 18 } : Room) (QCompL Z cs h0) := K0
    have ef : (entryFrame κ.m #[.ref v, .int (0 : Int32), .int n] 6).locals = #[.val (.ref v), .val (.int (0 : Int32)), .val (.int n), .unset, .unset, .unset] := by first | (simp [entryFrame, argsToLocals, Value.category]; done) | rfl
    rw [ef]; clear ef K0
    have K0 := Keep.refl h0 []
    show OwnKit.Go κ h0 0 0 0 #[.val (.ref v), .val (.int (0 : Int32)), .val (.int n), .unset, .unset, .unset] []
    refine OwnKit.iloadN K d_jdk_52m16_0 rfl ?_
    show OwnKit.Go κ h0 0 0 1 #[.val (.ref v), .val (.int (0 : Int32)), .val (.int n), .unset, .unset, .unset] [.int n]
    refine OwnKit.newArrV (cap := 2) K d_jdk_52m16_1 (hw _ (List.mem_of_getElem? (i := 19) rfl)) (by omega) (by omega) (by decide) (by decide) (by decide) ?_
    intro h1 a2 k3 g4 G5 Ex6 A7 E8
    have ne9 : v ≠ a2 := by rw [g4]; exact Nat.ne_of_lt Av0.lt
    have L10 : h0.size ≤ a2 := g4 ▸ K0.1
    have A11 := Av0.ext Ex6
    have K12 := K0.ext Ex6
    have A13 : OwnKit.Av Z h1 a2 k3 .byte (List.replicate cs.length (.int 0)) := by rw [hn] at A7; exact A7
    show OwnKit.Go κ h1 1 2 3 #[.val (.ref v), .val (.int (0 : Int32)), .val (.int n), .unset, .unset, .unset] [.ref a2]
    refine OwnKit.astoreN K d_jdk_52m16_3 rfl (l' := #[.val (.ref v), .val (.int (0 : Int32)), .val (.int n), .val (.ref a2), .unset, .unset]) rfl ?_
    show OwnKit.Go κ h1 1 2 4 #[.val (.ref v), .val (.int (0 : Int32)), .val (.int n), .val (.ref a2), .unset, .unset] []
    refine OwnKit.aloadN K d_jdk_52m16_4 rfl rfl ?_
    show OwnKit.Go κ h1 1 2 5 #[.val (.ref v), .val (.int (0 : Int32)), .val (.int n), .val (.ref a2), .unset, .unset] [.ref v]
    refine OwnKit.iloadN K d_jdk_52m16_5 rfl ?_
    show OwnKit.Go κ h1 1 2 6 #[.val (.ref v), .val (.int (0 : Int32)), .val (.int n), .val (.ref a2), .unset, .unset] [.int (0 : Int32), .ref v]
    refine OwnKit.aloadN K d_jdk_52m16_6 rfl rfl ?_
    show OwnKit.Go κ h1 1 2 7 #[.val (.ref v), .val (.int (0 : Int32)), .val (.int n), .val (.ref a2), .unset, .unset] [.ref a2, .int (0 : Int32), .ref v]
    refine OwnKit.iconst K d_jdk_52m16_7 ?_
    show OwnKit.Go κ h1 1 2 8 #[.val (.ref v), .val (.int (0 : Int32)), .val (.int n), .val (.ref a2), .unset, .unset] [.int (0 : Int32), .ref a2, .int (0 : Int32), .ref v]
    refine OwnKit.iloadN K d_jdk_52m16_8 rfl ?_
    show OwnKit.Go κ h1 1 2 9 #[.val (.ref v), .val (.int (0 : Int32)), .val (.int n), .val (.ref a2), .unset, .unset] [.int n, .int (0 : Int32), .ref a2, .int (0 : Int32), .ref v]
    refine OwnKit.invS (y := (⟨"java/lang/StringUTF16", "compress", "([CI[BII)I"⟩ : MethodName)) (argsL := [.ref v, .int (0 : Int32), .ref a2, .int (0 : Int32), .int n]) (rest := []) K (c_comp l Z a0 hw n0 h1 v a2 kv k3 cs n hn G5 ne9 A11 A13) d_jdk_52m16_9 (hw _ (List.mem_of_getElem? (i := 20) rfl)) (hw _ (List.mem_of_getElem? (i := 21) rfl)) (hw _ (List.mem_of_getElem? (i := 17) rfl)) (hw _ (List.mem_of_getElem? (i := 22) rfl)) (by decide) (lenOf (by decide +kernel : parseMethodDescriptor "([CI[BII)I" = some ⟨[(.array .char), .int, (.array .byte), .int, .int], some .int⟩) rfl) rfl rfl (W := 0) (Nat.le_of_ble_eq_true rfl) (Nat.le_of_ble_eq_true rfl) (Nat.le_of_ble_eq_true rfl) (Nat.le_of_ble_eq_true rfl) (Nat.le_of_ble_eq_true rfl) ?_
    rintro _ h14 ⟨r, rfl, Kx, hr0, hr⟩ g15
    have A16 := A11.keep Kx (ninS ne9 nin0)
    have K17 := K12.trans Kx (allS (Or.inr L10) all0)
    show OwnKit.Go κ h14 1 2 12 #[.val (.ref v), .val (.int (0 : Int32)), .val (.int n), .val (.ref a2), .unset, .unset] [.int r]
    refine OwnKit.istore K d_jdk_52m16_12 (l' := #[.val (.ref v), .val (.int (0 : Int32)), .val (.int n), .val (.ref a2), .val (.int r), .unset]) rfl ?_
    show OwnKit.Go κ h14 1 2 14 #[.val (.ref v), .val (.int (0 : Int32)), .val (.int n), .val (.ref a2), .val (.int r), .unset] []
    refine OwnKit.iload K d_jdk_52m16_14 rfl ?_
    show OwnKit.Go κ h14 1 2 16 #[.val (.ref v), .val (.int (0 : Int32)), .val (.int n), .val (.ref a2), .val (.int r), .unset] [.int r]
    refine OwnKit.iloadN K d_jdk_52m16_16 rfl ?_
    show OwnKit.Go κ h14 1 2 17 #[.val (.ref v), .val (.int (0 : Int32)), .val (.int n), .val (.ref a2), .val (.int r), .unset] [.int n, .int r]
    refine OwnKit.icmpeq K d_jdk_52m16_17 (by decide) (pc' := 57) rfl  (fun b18 => ?_) (fun b18 => ?_)
    · show OwnKit.Go κ h14 1 2 57 #[.val (.ref v), .val (.int (0 : Int32)), .val (.int n), .val (.ref a2), .val (.int r), .unset] []
      refine OwnKit.aloadN K d_jdk_52m16_57 rfl rfl ?_
      show OwnKit.Go κ h14 1 2 58 #[.val (.ref v), .val (.int (0 : Int32)), .val (.int n), .val (.ref a2), .val (.int r), .unset] [.ref a2]
      refine OwnKit.areturn K d_jdk_52m16_58 rfl rfl ?_ (Nat.le_of_ble_eq_true rfl) (Nat.le_of_ble_eq_true rfl)
      · rcases hr with ⟨q, A⟩ | ⟨-, c, q1, q2⟩
        · exact ⟨_, _, rfl, K17, L10, A⟩
        · have := own_latAt hl q1
          omega
    · exfalso
      rcases hr with ⟨q, -⟩ | ⟨-, c, q1, q2⟩
      · exact b18 (Int32.toInt_inj.mp (q.trans hn.symm))
      · have := own_latAt hl q1
        omega
  · intro m; first | rfl | (simp [entryFrame, mkF, argsToLocals, Value.category]; done)

theorem d_jdk_52m15_0 : decode jdk_52_method_15_code 0 = .ok (.iload_n 1, 1) := by decide +kernel
theorem d_jdk_52m15_1 : decode jdk_52_method_15_code 1 = .ok (.aload_n 0, 1) := by decide +kernel
theorem d_jdk_52m15_2 : decode jdk_52_method_15_code 2 = .ok (.arraylength, 1) := by decide +kernel
theorem d_jdk_52m15_3 : decode jdk_52_method_15_code 3 = .ok (.isub, 1) := by decide +kernel
theorem d_jdk_52m15_4 : decode jdk_52_method_15_code 4 = .ok (.bipush 31, 2) := by decide +kernel
theorem d_jdk_52m15_6 : decode jdk_52_method_15_code 6 = .ok (.iushr, 1) := by decide +kernel
theorem d_jdk_52m15_7 : decode jdk_52_method_15_code 7 = .ok (.i2b, 1) := by decide +kernel
theorem d_jdk_52m15_8 : decode jdk_52_method_15_code 8 = .ok (.ireturn, 1) := by decide +kernel
set_option maxRecDepth 65536 in
set_option maxHeartbeats 40000000 in
theorem c_coderL (l : Launch) (Z : State) (a0 : Array Value) (hw : ∀ d ∈ tables_1, d.before a0 Z = true) (n0 : Nat) (h0 : Heap) (b : Addr) (kb : ClassId) (vs : List Value) (n : Int32) (hn : n.toInt = vs.length) (Ab0 : OwnKit.Av Z h0 b kb .byte vs) :
    OwnKit.Con false l Z n0 (⟨"java/lang/StringUTF16", "coderFromArrayLen", "([BI)B"⟩ : MethodName) jdk_52_method_15_code 2 (some .byte) ({ frames := 0, cells := 0, slots := 0, locals := 0 } : Room) #[.ref b, .int n] h0 (QInt 0 h0) := by
  refine OwnKit.Con.of (by first | (refine plainFor_of_name ?_; simp [plainName, overriddenIn]; done) | decide +kernel) ?_ ?_
  · intro κ hwd K0
    have K : OwnKit.Ok κ l Z n0 "java/lang/StringUTF16" "coderFromArrayLen" jdk_52_method_15_code 2 (some .byte) ({ frames := 0, cells := 0, slots := 0, locals := 0 } : Room) (QInt 0 h0) := K0
    have ef : (entryFrame κ.m #[.ref b, .int n] 2).locals = #[.val (.ref b), .val (.int n)] := by first | (simp [entryFrame, argsToLocals, Value.category]; done) | rfl
    rw [ef]; clear ef K0
    have el := own_ofLen hn
    show OwnKit.Go κ h0 0 0 0 #[.val (.ref b), .val (.int n)] []
    refine OwnKit.iloadN K d_jdk_52m15_0 rfl ?_
    show OwnKit.Go κ h0 0 0 1 #[.val (.ref b), .val (.int n)] [.int n]
    refine OwnKit.aloadN K d_jdk_52m15_1 rfl rfl ?_
    show OwnKit.Go κ h0 0 0 2 #[.val (.ref b), .val (.int n)] [.ref b, .int n]
    refine OwnKit.lenV K d_jdk_52m15_2 Ab0 ?_
    show OwnKit.Go κ h0 0 0 3 #[.val (.ref b), .val (.int n)] [.int (Int32.ofNat (vs).length), .int n]
    refine OwnKit.isub K d_jdk_52m15_3 ?_
    show OwnKit.Go κ h0 0 0 4 #[.val (.ref b), .val (.int n)] [.int (n - (Int32.ofNat (vs).length))]
    refine OwnKit.bipush K d_jdk_52m15_4 ?_
    show OwnKit.Go κ h0 0 0 6 #[.val (.ref b), .val (.int n)] [.int (31 : Int32), .int (n - (Int32.ofNat (vs).length))]
    refine OwnKit.iushr K d_jdk_52m15_6 ?_
    show OwnKit.Go κ h0 0 0 7 #[.val (.ref b), .val (.int n)] [.int (XT.ushr (n - (Int32.ofNat (vs).length)) (31 : Int32))]
    refine OwnKit.i2b K d_jdk_52m15_7 ?_
    show OwnKit.Go κ h0 0 0 8 #[.val (.ref b), .val (.int n)] [.int ((XT.ushr (n - (Int32.ofNat (vs).length)) (31 : Int32)).toInt8.toInt32)]
    refine OwnKit.ireturn K d_jdk_52m15_8 (Or.inr (Or.inr (Or.inl rfl))) (by rw [el, Int32.sub_self]; decide) ?_ (Nat.le_of_ble_eq_true rfl) (Nat.le_of_ble_eq_true rfl)
    · rw [el, Int32.sub_self]
      exact ⟨rfl, rfl⟩
  · intro m; first | rfl | (simp [entryFrame, mkF, argsToLocals, Value.category]; done)

theorem d_jdk_42m149_0 : decode jdk_42_method_149_code 0 = .ok (.aload_n 0, 1) := by decide +kernel
theorem d_jdk_42m149_1 : decode jdk_42_method_149_code 1 = .ok (.invokespecial 1, 3) := by decide +kernel
theorem d_jdk_42m149_4 : decode jdk_42_method_149_code 4 = .ok (.iload_n 3, 1) := by decide +kernel
theorem d_jdk_42m149_5 : decode jdk_42_method_149_code 5 = .ok (.ifCond .ne 22, 3) := by decide +kernel
theorem d_jdk_42m149_27 : decode jdk_42_method_149_code 27 = .ok (.getstatic 38, 3) := by decide +kernel
theorem d_jdk_42m149_30 : decode jdk_42_method_149_code 30 = .ok (.ifCond .eq 28, 3) := by decide +kernel
theorem d_jdk_42m149_33 : decode jdk_42_method_149_code 33 = .ok (.aload_n 1, 1) := by decide +kernel
theorem d_jdk_42m149_34 : decode jdk_42_method_149_code 34 = .ok (.iload_n 2, 1) := by decide +kernel
theorem d_jdk_42m149_35 : decode jdk_42_method_149_code 35 = .ok (.iload_n 3, 1) := by decide +kernel
theorem d_jdk_42m149_36 : decode jdk_42_method_149_code 36 = .ok (.invokestatic 177, 3) := by decide +kernel
theorem d_jdk_42m149_39 : decode jdk_42_method_149_code 39 = .ok (.astore 5, 2) := by decide +kernel
theorem d_jdk_42m149_41 : decode jdk_42_method_149_code 41 = .ok (.aload_n 0, 1) := by decide +kernel
theorem d_jdk_42m149_42 : decode jdk_42_method_149_code 42 = .ok (.aload 5, 2) := by decide +kernel
theorem d_jdk_42m149_44 : decode jdk_42_method_149_code 44 = .ok (.iload_n 3, 1) := by decide +kernel
theorem d_jdk_42m149_45 : decode jdk_42_method_149_code 45 = .ok (.invokestatic 47, 3) := by decide +kernel
theorem d_jdk_42m149_48 : decode jdk_42_method_149_code 48 = .ok (.putfield 15, 3) := by decide +kernel
theorem d_jdk_42m149_51 : decode jdk_42_method_149_code 51 = .ok (.aload_n 0, 1) := by decide +kernel
theorem d_jdk_42m149_52 : decode jdk_42_method_149_code 52 = .ok (.aload 5, 2) := by decide +kernel
theorem d_jdk_42m149_54 : decode jdk_42_method_149_code 54 = .ok (.putfield 9, 3) := by decide +kernel
theorem d_jdk_42m149_57 : decode jdk_42_method_149_code 57 = .ok (.return_, 1) := by decide +kernel
set_option maxRecDepth 65536 in
set_option maxHeartbeats 40000000 in
theorem c_init4L (l : Launch) (Z : State) (a0 : Array Value) (hw : ∀ d ∈ tables_1, d.before a0 Z = true) (n0 : Nat) (h0 : Heap) (a v : Addr) (kv : ClassId) (cs : List Int32) (n : Int32) (i_COMPACT_STRINGS : Int32) (v_SIOOBE_FORMATTER : Value) (hn : n.toInt = cs.length) (h1 : 0 < cs.length) (hcap : cs.length ≤ 2) (hl : own_lat cs) (nva : v ≠ a) (Av0 : OwnKit.Av Z h0 v kv .char (cs.map Value.int)) (E_a : Exa Z h0 a "java/lang/String") (G_a : n0 ≤ a) (F_a_coder : Fld Z h0 a "java/lang/String" "coder" "B" (.int (0 : Int32))) (F_a_value : Fld Z h0 a "java/lang/String" "value" "[B" (.null)) (S_COMPACT_STRINGS : Sta Z Z.heap "java/lang/String" "COMPACT_STRINGS" "Z" (.int i_COMPACT_STRINGS)) (nz_COMPACT_STRINGS : ¬ i_COMPACT_STRINGS = (0 : Int32)) (S_SIOOBE_FORMATTER : Sta Z Z.heap "jdk/internal/util/Preconditions" "SIOOBE_FORMATTER" "Ljava/util/function/BiFunction;" (v_SIOOBE_FORMATTER)) (hr_v_SIOOBE_FORMATTER : v_SIOOBE_FORMATTER.isRef = true) :
    OwnKit.Con false l Z n0 (⟨"java/lang/String", "<init>", "([CIILjava/lang/Void;)V"⟩ : MethodName) jdk_42_method_149_code 6 none ({ frames := 2, cells := 1, slots := 2, locals := 35 } : Room) #[.ref a, .ref v, .int (0 : Int32), .int n, .null] h0 (QStrL Z a cs h0) := by
  refine OwnKit.Con.of (by first | (refine plainFor_of_name ?_; simp [plainName, overriddenIn]; done) | decide +kernel) ?_ ?_
  · intro κ hwd K0
    have K : OwnKit.Ok κ l Z n0 "java/lang/String" "<init>" jdk_42_method_149_code 6 none ({ frames := 2, cells := 1, slots := 2, locals := 35 } : Room) (QStrL Z a cs h0) := K0
    have ef : (entryFrame κ.m #[.ref a, .ref v, .int (0 : Int32), .int n, .null] 6).locals = #[.val (.ref a), .val (.ref v), .val (.int (0 : Int32)), .val (.int n), .val (.null), .unset] := by first | (simp [entryFrame, argsToLocals, Value.category]; done) | rfl
    rw [ef]; clear ef K0
    have hc_v_SIOOBE_FORMATTER := OwnKit.catR hr_v_SIOOBE_FORMATTER
    have K0 := Keep.refl h0 [a]
    show OwnKit.Go κ h0 0 0 0 #[.val (.ref a), .val (.ref v), .val (.int (0 : Int32)), .val (.int n), .val (.null), .unset] []
    refine OwnKit.aloadN K d_jdk_42m149_0 rfl rfl ?_
    show OwnKit.Go κ h0 0 0 1 #[.val (.ref a), .val (.ref v), .val (.int (0 : Int32)), .val (.int n), .val (.null), .unset] [.ref a]
    refine OwnKit.invO (W := 0) K d_jdk_42m149_1 (hw _ (List.mem_of_getElem? (i := 11) rfl)) (hw _ (List.mem_of_getElem? (i := 12) rfl)) (hw _ (List.mem_of_getElem? (i := 13) rfl)) rfl (Nat.le_of_ble_eq_true rfl) (Nat.le_of_ble_eq_true rfl) (Nat.le_of_ble_eq_true rfl) ?_
    show OwnKit.Go κ h0 0 0 4 #[.val (.ref a), .val (.ref v), .val (.int (0 : Int32)), .val (.int n), .val (.null), .unset] []
    refine OwnKit.iloadN K d_jdk_42m149_4 rfl ?_
    show OwnKit.Go κ h0 0 0 5 #[.val (.ref a), .val (.ref v), .val (.int (0 : Int32)), .val (.int n), .val (.null), .unset] [.int n]
    refine OwnKit.ifne K d_jdk_42m149_5 (by decide) (pc' := 27) rfl  (fun b1 => ?_) (fun b1 => ?_)
    · show OwnKit.Go κ h0 0 0 27 #[.val (.ref a), .val (.ref v), .val (.int (0 : Int32)), .val (.int n), .val (.null), .unset] []
      refine OwnKit.getstaticZ K d_jdk_42m149_27 (host := "") (Or.inl (hw _ (List.mem_of_getElem? (i := 14) rfl))) Via.refl S_COMPACT_STRINGS ?_
      show OwnKit.Go κ h0 0 0 30 #[.val (.ref a), .val (.ref v), .val (.int (0 : Int32)), .val (.int n), .val (.null), .unset] [.int i_COMPACT_STRINGS]
      refine OwnKit.ifeq K d_jdk_42m149_30 (by decide) (pc' := 58) rfl  (fun b2 => ?_) (fun b2 => ?_)
      · exact absurd b2 nz_COMPACT_STRINGS
      · show OwnKit.Go κ h0 0 0 33 #[.val (.ref a), .val (.ref v), .val (.int (0 : Int32)), .val (.int n), .val (.null), .unset] []
        refine OwnKit.aloadN K d_jdk_42m149_33 rfl rfl ?_
        show OwnKit.Go κ h0 0 0 34 #[.val (.ref a), .val (.ref v), .val (.int (0 : Int32)), .val (.int n), .val (.null), .unset] [.ref v]
        refine OwnKit.iloadN K d_jdk_42m149_34 rfl ?_
        show OwnKit.Go κ h0 0 0 35 #[.val (.ref a), .val (.ref v), .val (.int (0 : Int32)), .val (.int n), .val (.null), .unset] [.int (0 : Int32), .ref v]
        refine OwnKit.iloadN K d_jdk_42m149_35 rfl ?_
        show OwnKit.Go κ h0 0 0 36 #[.val (.ref a), .val (.ref v), .val (.int (0 : Int32)), .val (.int n), .val (.null), .unset] [.int n, .int (0 : Int32), .ref v]
        refine OwnKit.invS (y := (⟨"java/lang/StringUTF16", "compress", "([CII)[B"⟩ : MethodName)) (argsL := [.ref v, .int (0 : Int32), .int n]) (rest := []) K (c_compL l Z a0 hw n0 h0 v kv cs n hn hcap hl Av0) d_jdk_42m149_36 (hw _ (List.mem_of_getElem? (i := 15) rfl)) (hw _ (List.mem_of_getElem? (i := 16) rfl)) (hw _ (List.mem_of_getElem? (i := 17) rfl)) (hw _ (List.mem_of_getElem? (i := 18) rfl)) (by decide) (lenOf (by decide +kernel : parseMethodDescriptor "([CII)[B" = some ⟨[(.array .char), .int, .int], some (.array .byte)⟩) rfl) rfl rfl (W := 0) (Nat.le_of_ble_eq_true rfl) (Nat.le_of_ble_eq_true rfl) (Nat.le_of_ble_eq_true rfl) (Nat.le_of_ble_eq_true rfl) (Nat.le_of_ble_eq_true rfl) ?_
        rintro _ h3 ⟨b, kb, rfl, Kx, gb, Ab⟩ g4
        have ne5 : a ≠ b := fun e => absurd E_a.lt (by rw [e]; exact Nat.not_lt.mpr gb)
        have ne6 : v ≠ b := fun e => absurd Av0.lt (by rw [e]; exact Nat.not_lt.mpr gb)
        have L7 : h0.size ≤ b := Nat.le_trans K0.1 gb
        have E8 := E_a.keep Kx
        have F9 := F_a_coder.keep Kx nin0
        have F10 := F_a_value.keep Kx nin0
        have A11 := Av0.keep Kx nin0
        have K12 := K0.trans Kx all0
        show OwnKit.Go κ h3 1 2 39 #[.val (.ref a), .val (.ref v), .val (.int (0 : Int32)), .val (.int n), .val (.null), .unset] [.ref b]
        refine OwnKit.astore K d_jdk_42m149_39 rfl (l' := #[.val (.ref a), .val (.ref v), .val (.int (0 : Int32)), .val (.int n), .val (.null), .val (.ref b)]) rfl ?_
        show OwnKit.Go κ h3 1 2 41 #[.val (.ref a), .val (.ref v), .val (.int (0 : Int32)), .val (.int n), .val (.null), .val (.ref b)] []
        refine OwnKit.aloadN K d_jdk_42m149_41 rfl rfl ?_
        show OwnKit.Go κ h3 1 2 42 #[.val (.ref a), .val (.ref v), .val (.int (0 : Int32)), .val (.int n), .val (.null), .val (.ref b)] [.ref a]
        refine OwnKit.aload K d_jdk_42m149_42 rfl rfl ?_
        show OwnKit.Go κ h3 1 2 44 #[.val (.ref a), .val (.ref v), .val (.int (0 : Int32)), .val (.int n), .val (.null), .val (.ref b)] [.ref b, .ref a]
        refine OwnKit.iloadN K d_jdk_42m149_44 rfl ?_
        show OwnKit.Go κ h3 1 2 45 #[.val (.ref a), .val (.ref v), .val (.int (0 : Int32)), .val (.int n), .val (.null), .val (.ref b)] [.int n, .ref b, .ref a]
        refine OwnKit.invS (y := (⟨"java/lang/StringUTF16", "coderFromArrayLen", "([BI)B"⟩ : MethodName)) (argsL := [.ref b, .int n]) (rest := [.ref a]) K (c_coderL l Z a0 hw n0 h3 b kb _ n (by simpa using hn) Ab) d_jdk_42m149_45 (hw _ (List.mem_of_getElem? (i := 23) rfl)) (hw _ (List.mem_of_getElem? (i := 24) rfl)) (hw _ (List.mem_of_getElem? (i := 17) rfl)) (hw _ (List.mem_of_getElem? (i := 25) rfl)) (by decide) (lenOf (by decide +kernel : parseMethodDescriptor "([BI)B" = some ⟨[(.array .byte), .int], some .byte⟩) rfl) rfl rfl (W := 1) (Nat.le_of_ble_eq_true rfl) (Nat.le_of_ble_eq_true rfl) (Nat.le_of_ble_eq_true rfl) (Nat.le_of_ble_eq_true rfl) (Nat.le_of_ble_eq_true rfl) ?_
        rintro _ h13 ⟨rfl, rfl⟩ g14
        show OwnKit.Go κ h3 1 2 48 #[.val (.ref a), .val (.ref v), .val (.int (0 : Int32)), .val (.int n), .val (.null), .val (.ref b)] [.int (0 : Int32), .ref a]
        refine OwnKit.putfield K d_jdk_42m149_48 (host := "") (Or.inl (hw _ (List.mem_of_getElem? (i := 26) rfl))) Via.refl F9 E8 (Or.inr ⟨(hw _ (List.mem_of_getElem? (i := 27) rfl)), rfl, rfl⟩) (hw _ (List.mem_of_getElem? (i := 2) rfl)) (show parseFieldDescriptor "B" = some (.byte) from by decide +kernel) rfl rfl G_a ?_
        intro h15 W16
        have E17 := E8.wr W16
        have F18 := Fld.same W16 F9
        have F19 := Fld.other W16 F10 (Or.inr (RoadKit.slot_ne (t := (.array .byte)) (t' := .byte) (Or.inr (hw _ (List.mem_of_getElem? (i := 29) rfl))) (Or.inr (hw _ (List.mem_of_getElem? (i := 27) rfl))) (by decide) (by decide +kernel) (by decide +kernel)))
        have A20 := A11.other W16 nva
        have K21 := K12.wr W16 (Or.inl (by simp))
        have A22 := Ab.other W16 (Ne.symm ne5)
        show OwnKit.Go κ h15 1 2 51 #[.val (.ref a), .val (.ref v), .val (.int (0 : Int32)), .val (.int n), .val (.null), .val (.ref b)] []
        refine OwnKit.aloadN K d_jdk_42m149_51 rfl rfl ?_
        show OwnKit.Go κ h15 1 2 52 #[.val (.ref a), .val (.ref v), .val (.int (0 : Int32)), .val (.int n), .val (.null), .val (.ref b)] [.ref a]
        refine OwnKit.aload K d_jdk_42m149_52 rfl rfl ?_
        show OwnKit.Go κ h15 1 2 54 #[.val (.ref a), .val (.ref v), .val (.int (0 : Int32)), .val (.int n), .val (.null), .val (.ref b)] [.ref b, .ref a]
        refine OwnKit.putfield K d_jdk_42m149_54 (host := "") (Or.inl (hw _ (List.mem_of_getElem? (i := 28) rfl))) Via.refl F19 E17 (Or.inr ⟨(hw _ (List.mem_of_getElem? (i := 29) rfl)), rfl, rfl⟩) (hw _ (List.mem_of_getElem? (i := 2) rfl)) (show parseFieldDescriptor "[B" = some ((.array .byte)) from by decide +kernel) rfl rfl G_a ?_
        intro h23 W24
        have E25 := E17.wr W24
        have F26 := Fld.other W24 F18 (Or.inr (RoadKit.slot_ne (t := .byte) (t' := (.array .byte)) (Or.inr (hw _ (List.mem_of_getElem? (i := 27) rfl))) (Or.inr (hw _ (List.mem_of_getElem? (i := 29) rfl))) (by decide) (by decide +kernel) (by decide +kernel)))
        have F27 := Fld.same W24 F19
        have A28 := A20.other W24 nva
        have K29 := K21.wr W24 (Or.inl (by simp))
        have A30 := A22.other W24 (Ne.symm ne5)
        show OwnKit.Go κ h23 1 2 57 #[.val (.ref a), .val (.ref v), .val (.int (0 : Int32)), .val (.int n), .val (.null), .val (.ref b)] []
        refine OwnKit.return0 K d_jdk_42m149_57  ?_ (Nat.le_of_ble_eq_true rfl) (Nat.le_of_ble_eq_true rfl)
        exact ⟨b, kb, rfl, K29, L7, F27, F26, A30⟩
    · exfalso
      rw [b1] at hn
      have e0 : (0 : Int32).toInt = 0 := rfl
      omega
  · intro m; first | rfl | (simp [entryFrame, mkF, argsToLocals, Value.category]; done)

theorem d_jdk_42m3_0 : decode jdk_42_method_3_code 0 = .ok (.aload_n 0, 1) := by decide +kernel
theorem d_jdk_42m3_1 : decode jdk_42_method_3_code 1 = .ok (.aload_n 1, 1) := by decide +kernel
theorem d_jdk_42m3_2 : decode jdk_42_method_3_code 2 = .ok (.iconst 0, 1) := by decide +kernel
theorem d_jdk_42m3_3 : decode jdk_42_method_3_code 3 = .ok (.aload_n 1, 1) := by decide +kernel
theorem d_jdk_42m3_4 : decode jdk_42_method_3_code 4 = .ok (.arraylength, 1) := by decide +kernel
theorem d_jdk_42m3_5 : decode jdk_42_method_3_code 5 = .ok (.aconst_null, 1) := by decide +kernel
theorem d_jdk_42m3_6 : decode jdk_42_method_3_code 6 = .ok (.invokespecial 27, 3) := by decide +kernel
theorem d_jdk_42m3_9 : decode jdk_42_method_3_code 9 = .ok (.return_, 1) := by decide +kernel
set_option maxRecDepth 65536 in
set_option maxHeartbeats 40000000 in
theorem c_initL (l : Launch) (Z : State) (a0 : Array Value) (hw : ∀ d ∈ tables_1, d.before a0 Z = true) (n0 : Nat) (h0 : Heap) (a v : Addr) (kv : ClassId) (cs : List Int32) (i_COMPACT_STRINGS : Int32) (v_SIOOBE_FORMATTER : Value) (h1 : 0 < cs.length) (hcap : cs.length ≤ 2) (hl : own_lat cs) (nva : v ≠ a) (Av0 : OwnKit.Av Z h0 v kv .char (cs.map Value.int)) (E_a : Exa Z h0 a "java/lang/String") (G_a : n0 ≤ a) (F_a_coder : Fld Z h0 a "java/lang/String" "coder" "B" (.int (0 : Int32))) (F_a_value : Fld Z h0 a "java/lang/String" "value" "[B" (.null)) (S_COMPACT_STRINGS : Sta Z Z.heap "java/lang/String" "COMPACT_STRINGS" "Z" (.int i_COMPACT_STRINGS)) (nz_COMPACT_STRINGS : ¬ i_COMPACT_STRINGS = (0 : Int32)) (S_SIOOBE_FORMATTER : Sta Z Z.heap "jdk/internal/util/Preconditions" "SIOOBE_FORMATTER" "Ljava/util/function/BiFunction;" (v_SIOOBE_FORMATTER)) (hr_v_SIOOBE_FORMATTER : v_SIOOBE_FORMATTER.isRef = true) :
    OwnKit.Con false l Z n0 (⟨"java/lang/String", "<init>", "([C)V"⟩ : MethodName) jdk_42_method_3_code 2 none ({ frames := 3, cells := 1, slots := 2, locals := 52 } : Room) #[.ref a, .ref v] h0 (QStrL Z a cs h0) := by
  refine OwnKit.Con.of (by first | (refine plainFor_of_name ?_; simp [plainName, overriddenIn]; done) | decide +kernel) ?_ ?_
  · intro κ hwd K0
    have K : OwnKit.Ok κ l Z n0 "java/lang/String" "<init>" jdk_42_method_3_code 2 none ({ frames := 3, cells := 1, slots := 2, locals := 52 } : Room) (QStrL Z a cs h0) := K0
    have ef : (entryFrame κ.m #[.ref a, .ref v] 2).locals = #[.val (.ref a), .val (.ref v)] := by first | (simp [entryFrame, argsToLocals, Value.category]; done) | rfl
    rw [ef]; clear ef K0
    have hn : (Int32.ofNat (cs.map Value.int).length).toInt = cs.length := by have := Av0.len; rw [len_toInt this]; simp
    show OwnKit.Go κ h0 0 0 0 #[.val (.ref a), .val (.ref v)] []
    refine OwnKit.aloadN K d_jdk_42m3_0 rfl rfl ?_
    show OwnKit.Go κ h0 0 0 1 #[.val (.ref a), .val (.ref v)] [.ref a]
    refine OwnKit.aloadN K d_jdk_42m3_1 rfl rfl ?_
    show OwnKit.Go κ h0 0 0 2 #[.val (.ref a), .val (.ref v)] [.ref v, .ref a]
    refine OwnKit.iconst K d_jdk_42m3_2 ?_
    show OwnKit.Go κ h0 0 0 3 #[.val (.ref a), .val (.ref v)] [.int (0 : Int32), .ref v, .ref a]
    refine OwnKit.aloadN K d_jdk_42m3_3 rfl rfl ?_
    show OwnKit.Go κ h0 0 0 4 #[.val (.ref a), .val (.ref v)] [.ref v, .int (0 : Int32), .ref v, .ref a]
    refine OwnKit.lenV K d_jdk_42m3_4 Av0 ?_
    show OwnKit.Go κ h0 0 0 5 #[.val (.ref a), .val (.ref v)] [.int (Int32.ofNat (cs.map Value.int).length), .int (0 : Int32), .ref v, .ref a]
    refine OwnKit.aconstNull K d_jdk_42m3_5 ?_
    show OwnKit.Go κ h0 0 0 6 #[.val (.ref a), .val (.ref v)] [.null, .int (Int32.ofNat (cs.map Value.int).length), .int (0 : Int32), .ref v, .ref a]
    refine OwnKit.invC (y := (⟨"java/lang/String", "<init>", "([CIILjava/lang/Void;)V"⟩ : MethodName)) (argsL := [.ref v, .int (0 : Int32), .int (Int32.ofNat (cs.map Value.int).length), .null]) (rest := []) K (c_init4L l Z a0 hw n0 h0 a v kv cs _ i_COMPACT_STRINGS v_SIOOBE_FORMATTER hn h1 hcap hl nva Av0 E_a G_a F_a_coder F_a_value S_COMPACT_STRINGS nz_COMPACT_STRINGS S_SIOOBE_FORMATTER hr_v_SIOOBE_FORMATTER) d_jdk_42m3_6 rfl (hw _ (List.mem_of_getElem? (i := 7) rfl)) (hw _ (List.mem_of_getElem? (i := 8) rfl)) (hw _ (List.mem_of_getElem? (i := 10) rfl)) (hw _ (List.mem_of_getElem? (i := 3) rfl)) (by decide) (lenOf (by decide +kernel : parseMethodDescriptor "([CIILjava/lang/Void;)V" = some ⟨[(.array .char), .int, .int, (.object "java/lang/Void")], none⟩) rfl) rfl rfl (W := 0) (Nat.le_of_ble_eq_true rfl) (Nat.le_of_ble_eq_true rfl) (Nat.le_of_ble_eq_true rfl) (Nat.le_of_ble_eq_true rfl) (Nat.le_of_ble_eq_true rfl) ?_
    rintro _ h1 ⟨b, kb, rfl, hq⟩ g2
    show OwnKit.Go κ h1 1 2 9 #[.val (.ref a), .val (.ref v)] []
    refine OwnKit.return0 K d_jdk_42m3_9  ?_ (Nat.le_of_ble_eq_true rfl) (Nat.le_of_ble_eq_true rfl)
    exact ⟨b, kb, rfl, hq⟩
  · intro m; first | rfl | (simp [entryFrame, mkF, argsToLocals, Value.category]; done)

def QHold (Z : State) (a s : Addr) (f e : Int64) (h0 : Heap) (v : Option Value) (h : Heap) : Prop := v = none ∧ Exa Z h a "com/example/forelock/forelock/core/Holds$Hold" ∧ Fld Z h a "com/example/forelock/forelock/core/Holds$Hold" "count" "I" (.int 1) ∧ Fld Z h a "com/example/forelock/forelock/core/Holds$Hold" "ownerToken" "Ljava/lang/String;" (.ref s) ∧ Fld Z h a "com/example/forelock/forelock/core/Holds$Hold" "fencingToken" "J" (.long f) ∧ Fld Z h a "com/example/forelock/forelock/core/Holds$Hold" "leaseNanos" "J" (.long e) ∧ Keep h0 h [a]
def QCnt (Z : State) (a : Addr) (c : Int32) (h0 : Heap) (v : Option Value) (h : Heap) : Prop := v = none ∧ Wr h0 h a (RoadKit.slotOf Z "com/example/forelock/forelock/core/Holds$Hold" "count" "I") (.int c)
def QVal (w : Value) (h0 : Heap) (v : Option Value) (h : Heap) : Prop := v = some w ∧ h0 = h
def QLaw (v : Option Value) (h : Heap) : Prop := v = some (.int 1)
theorem own_m8 (c : Int32) : nar .char ((c &&& (255 : Int32)).toUInt32.toUInt16.toUInt32.toInt32) = c &&& 255 := by
  rw [i2c_mask]; exact i2c_mask c
theorem own_lat2 (c d : Int32) : own_lat [c &&& 255, d &&& 255] := by
  intro x hx
  simp only [List.mem_cons, List.not_mem_nil, or_false] at hx
  rcases hx with rfl | rfl
  · exact c_and c 255 (by decide)
  · exact c_and d 255 (by decide)

theorem d_prog_14m1_0 : decode prog_14_method_1_code 0 = .ok (.aload_n 0, 1) := by decide +kernel
theorem d_prog_14m1_1 : decode prog_14_method_1_code 1 = .ok (.invokespecial 1, 3) := by decide +kernel
theorem d_prog_14m1_4 : decode prog_14_method_1_code 4 = .ok (.aload_n 0, 1) := by decide +kernel
theorem d_prog_14m1_5 : decode prog_14_method_1_code 5 = .ok (.iconst 1, 1) := by decide +kernel
theorem d_prog_14m1_6 : decode prog_14_method_1_code 6 = .ok (.putfield 7, 3) := by decide +kernel
theorem d_prog_14m1_9 : decode prog_14_method_1_code 9 = .ok (.aload_n 0, 1) := by decide +kernel
theorem d_prog_14m1_10 : decode prog_14_method_1_code 10 = .ok (.aload_n 1, 1) := by decide +kernel
theorem d_prog_14m1_11 : decode prog_14_method_1_code 11 = .ok (.putfield 13, 3) := by decide +kernel
theorem d_prog_14m1_14 : decode prog_14_method_1_code 14 = .ok (.aload_n 0, 1) := by decide +kernel
theorem d_prog_14m1_15 : decode prog_14_method_1_code 15 = .ok (.lload_n 2, 1) := by decide +kernel
theorem d_prog_14m1_16 : decode prog_14_method_1_code 16 = .ok (.putfield 17, 3) := by decide +kernel
theorem d_prog_14m1_19 : decode prog_14_method_1_code 19 = .ok (.aload_n 0, 1) := by decide +kernel
theorem d_prog_14m1_20 : decode prog_14_method_1_code 20 = .ok (.lload 4, 2) := by decide +kernel
theorem d_prog_14m1_22 : decode prog_14_method_1_code 22 = .ok (.putfield 21, 3) := by decide +kernel
theorem d_prog_14m1_25 : decode prog_14_method_1_code 25 = .ok (.aload_n 0, 1) := by decide +kernel
theorem d_prog_14m1_26 : decode prog_14_method_1_code 26 = .ok (.lload 6, 2) := by decide +kernel
theorem d_prog_14m1_28 : decode prog_14_method_1_code 28 = .ok (.lload 4, 2) := by decide +kernel
theorem d_prog_14m1_30 : decode prog_14_method_1_code 30 = .ok (.ladd, 1) := by decide +kernel
theorem d_prog_14m1_31 : decode prog_14_method_1_code 31 = .ok (.putfield 24, 3) := by decide +kernel
theorem d_prog_14m1_34 : decode prog_14_method_1_code 34 = .ok (.return_, 1) := by decide +kernel
set_option maxRecDepth 65536 in
set_option maxHeartbeats 40000000 in
theorem c_hold (l : Launch) (Z : State) (a0 : Array Value) (hw : ∀ d ∈ tables_1, d.before a0 Z = true) (n0 : Nat) (h0 : Heap) (a s : Addr) (f e t : Int64) (E_a : Exa Z h0 a "com/example/forelock/forelock/core/Holds$Hold") (G_a : n0 ≤ a) (F_a_count : Fld Z h0 a "com/example/forelock/forelock/core/Holds$Hold" "count" "I" (.int (0 : Int32))) (F_a_ownerToken : Fld Z h0 a "com/example/forelock/forelock/core/Holds$Hold" "ownerToken" "Ljava/lang/String;" (.null)) (F_a_fencingToken : Fld Z h0 a "com/example/forelock/forelock/core/Holds$Hold" "fencingToken" "J" (.long (0 : Int64))) (F_a_leaseNanos : Fld Z h0 a "com/example/forelock/forelock/core/Holds$Hold" "leaseNanos" "J" (.long (0 : Int64))) (F_a_leaseEnd : Fld Z h0 a "com/example/forelock/forelock/core/Holds$Hold" "leaseEnd" "J" (.long (0 : Int64))) :
    OwnKit.Con false l Z n0 (⟨"com/example/forelock/forelock/core/Holds$Hold", "<init>", "(Ljava/lang/String;JJJ)V"⟩ : MethodName) prog_14_method_1_code 8 none ({ frames := 1, cells := 0, slots := 0, locals := 12 } : Room) #[.ref a, .ref s, .long f, .long e, .long t] h0 (QHold Z a s f e h0) := by
  refine OwnKit.Con.of (by first | (refine plainFor_of_name ?_; simp [plainName, overriddenIn]; done) | decide +kernel) ?_ ?_
  · intro κ hwd K0
    have K : OwnKit.Ok κ l Z n0 "com/example/forelock/forelock/core/Holds$Hold" "<init>" prog_14_method_1_code 8 none ({ frames := 1, cells := 0, slots := 0, locals := 12 } : Room) (QHold Z a s f e h0) := K0
    have ef : (entryFrame κ.m #[.ref a, .ref s, .long f, .long e, .long t] 8).locals = #[.val (.ref a), .val (.ref s), .val (.long f), .second, .val (.long e), .second, .val (.long t), .second] := by first | (simp [entryFrame, argsToLocals, Value.category]; done) | rfl
    rw [ef]; clear ef K0
    have K0 := Keep.refl h0 [a]
    show OwnKit.Go κ h0 0 0 0 #[.val (.ref a), .val (.ref s), .val (.long f), .second, .val (.long e), .second, .val (.long t), .second] []
    refine OwnKit.aloadN K d_prog_14m1_0 rfl rfl ?_
    show OwnKit.Go κ h0 0 0 1 #[.val (.ref a), .val (.ref s), .val (.long f), .second, .val (.long e), .second, .val (.long t), .second] [.ref a]
    refine OwnKit.invO (W := 0) K d_prog_14m1_1 (hw _ (List.mem_of_getElem? (i := 36) rfl)) (hw _ (List.mem_of_getElem? (i := 12) rfl)) (hw _ (List.mem_of_getElem? (i := 13) rfl)) rfl (Nat.le_of_ble_eq_true rfl) (Nat.le_of_ble_eq_true rfl) (Nat.le_of_ble_eq_true rfl) ?_
    show OwnKit.Go κ h0 0 0 4 #[.val (.ref a), .val (.ref s), .val (.long f), .second, .val (.long e), .second, .val (.long t), .second] []
    refine OwnKit.aloadN K d_prog_14m1_4 rfl rfl ?_
    show OwnKit.Go κ h0 0 0 5 #[.val (.ref a), .val (.ref s), .val (.long f), .second, .val (.long e), .second, .val (.long t), .second] [.ref a]
    refine OwnKit.iconst K d_prog_14m1_5 ?_
    show OwnKit.Go κ h0 0 0 6 #[.val (.ref a), .val (.ref s), .val (.long f), .second, .val (.long e), .second, .val (.long t), .second] [.int (1 : Int32), .ref a]
    refine OwnKit.putfield K d_prog_14m1_6 (host := "") (Or.inl (hw _ (List.mem_of_getElem? (i := 37) rfl))) Via.refl F_a_count E_a (Or.inl (hw _ (List.mem_of_getElem? (i := 38) rfl))) (hw _ (List.mem_of_getElem? (i := 31) rfl)) (show parseFieldDescriptor "I" = some (.int) from by decide +kernel) rfl rfl G_a ?_
    intro h1 W2
    have E3 := E_a.wr W2
    have F4 := Fld.same W2 F_a_count
    have F5 := Fld.other W2 F_a_ownerToken (Or.inr (RoadKit.slot_ne (t := (.object "java/lang/String")) (t' := .int) (Or.inr (hw _ (List.mem_of_getElem? (i := 40) rfl))) (Or.inl (hw _ (List.mem_of_getElem? (i := 38) rfl))) (by decide) (by decide +kernel) (by decide +kernel)))
    have F6 := Fld.other W2 F_a_fencingToken (Or.inr (RoadKit.slot_ne (t := .long) (t' := .int) (Or.inr (hw _ (List.mem_of_getElem? (i := 42) rfl))) (Or.inl (hw _ (List.mem_of_getElem? (i := 38) rfl))) (by decide) (by decide +kernel) (by decide +kernel)))
    have F7 := Fld.other W2 F_a_leaseNanos (Or.inr (RoadKit.slot_ne (t := .long) (t' := .int) (Or.inr (hw _ (List.mem_of_getElem? (i := 44) rfl))) (Or.inl (hw _ (List.mem_of_getElem? (i := 38) rfl))) (by decide) (by decide +kernel) (by decide +kernel)))
    have F8 := Fld.other W2 F_a_leaseEnd (Or.inr (RoadKit.slot_ne (t := .long) (t' := .int) (Or.inl (hw _ (List.mem_of_getElem? (i := 46) rfl))) (Or.inl (hw _ (List.mem_of_getElem? (i := 38) rfl))) (by decide) (by decide +kernel) (by decide +kernel)))
    have K9 := K0.wr W2 (Or.inl (by simp))
    show OwnKit.Go κ h1 0 0 9 #[.val (.ref a), .val (.ref s), .val (.long f), .second, .val (.long e), .second, .val (.long t), .second] []
    refine OwnKit.aloadN K d_prog_14m1_9 rfl rfl ?_
    show OwnKit.Go κ h1 0 0 10 #[.val (.ref a), .val (.ref s), .val (.long f), .second, .val (.long e), .second, .val (.long t), .second] [.ref a]
    refine OwnKit.aloadN K d_prog_14m1_10 rfl rfl ?_
    show OwnKit.Go κ h1 0 0 11 #[.val (.ref a), .val (.ref s), .val (.long f), .second, .val (.long e), .second, .val (.long t), .second] [.ref s, .ref a]
    refine OwnKit.putfield K d_prog_14m1_11 (host := "") (Or.inl (hw _ (List.mem_of_getElem? (i := 39) rfl))) Via.refl F5 E3 (Or.inr ⟨(hw _ (List.mem_of_getElem? (i := 40) rfl)), rfl, rfl⟩) (hw _ (List.mem_of_getElem? (i := 31) rfl)) (show parseFieldDescriptor "Ljava/lang/String;" = some ((.object "java/lang/String")) from by decide +kernel) rfl rfl G_a ?_
    intro h10 W11
    have E12 := E3.wr W11
    have F13 := Fld.other W11 F4 (Or.inr (RoadKit.slot_ne (t := .int) (t' := (.object "java/lang/String")) (Or.inl (hw _ (List.mem_of_getElem? (i := 38) rfl))) (Or.inr (hw _ (List.mem_of_getElem? (i := 40) rfl))) (by decide) (by decide +kernel) (by decide +kernel)))
    have F14 := Fld.same W11 F5
    have F15 := Fld.other W11 F6 (Or.inr (RoadKit.slot_ne (t := .long) (t' := (.object "java/lang/String")) (Or.inr (hw _ (List.mem_of_getElem? (i := 42) rfl))) (Or.inr (hw _ (List.mem_of_getElem? (i := 40) rfl))) (by decide) (by decide +kernel) (by decide +kernel)))
    have F16 := Fld.other W11 F7 (Or.inr (RoadKit.slot_ne (t := .long) (t' := (.object "java/lang/String")) (Or.inr (hw _ (List.mem_of_getElem? (i := 44) rfl))) (Or.inr (hw _ (List.mem_of_getElem? (i := 40) rfl))) (by decide) (by decide +kernel) (by decide +kernel)))
    have F17 := Fld.other W11 F8 (Or.inr (RoadKit.slot_ne (t := .long) (t' := (.object "java/lang/String")) (Or.inl (hw _ (List.mem_of_getElem? (i := 46) rfl))) (Or.inr (hw _ (List.mem_of_getElem? (i := 40) rfl))) (by decide) (by decide +kernel) (by decide +kernel)))
    have K18 := K9.wr W11 (Or.inl (by simp))
    show OwnKit.Go κ h10 0 0 14 #[.val (.ref a), .val (.ref s), .val (.long f), .second, .val (.long e), .second, .val (.long t), .second] []
    refine OwnKit.aloadN K d_prog_14m1_14 rfl rfl ?_
    show OwnKit.Go κ h10 0 0 15 #[.val (.ref a), .val (.ref s), .val (.long f), .second, .val (.long e), .second, .val (.long t), .second] [.ref a]
    refine OwnKit.lloadN K d_prog_14m1_15 rfl ?_
    show OwnKit.Go κ h10 0 0 16 #[.val (.ref a), .val (.ref s), .val (.long f), .second, .val (.long e), .second, .val (.long t), .second] [.long f, .ref a]
    refine OwnKit.putfield K d_prog_14m1_16 (host := "") (Or.inl (hw _ (List.mem_of_getElem? (i := 41) rfl))) Via.refl F15 E12 (Or.inr ⟨(hw _ (List.mem_of_getElem? (i := 42) rfl)), rfl, rfl⟩) (hw _ (List.mem_of_getElem? (i := 31) rfl)) (show parseFieldDescriptor "J" = some (.long) from by decide +kernel) rfl rfl G_a ?_
    intro h19 W20
    have E21 := E12.wr W20
    have F22 := Fld.other W20 F13 (Or.inr (RoadKit.slot_ne (t := .int) (t' := .long) (Or.inl (hw _ (List.mem_of_getElem? (i := 38) rfl))) (Or.inr (hw _ (List.mem_of_getElem? (i := 42) rfl))) (by decide) (by decide +kernel) (by decide +kernel)))
    have F23 := Fld.other W20 F14 (Or.inr (RoadKit.slot_ne (t := (.object "java/lang/String")) (t' := .long) (Or.inr (hw _ (List.mem_of_getElem? (i := 40) rfl))) (Or.inr (hw _ (List.mem_of_getElem? (i := 42) rfl))) (by decide) (by decide +kernel) (by decide +kernel)))
    have F24 := Fld.same W20 F15
    have F25 := Fld.other W20 F16 (Or.inr (RoadKit.slot_ne (t := .long) (t' := .long) (Or.inr (hw _ (List.mem_of_getElem? (i := 44) rfl))) (Or.inr (hw _ (List.mem_of_getElem? (i := 42) rfl))) (by decide) (by decide +kernel) (by decide +kernel)))
    have F26 := Fld.other W20 F17 (Or.inr (RoadKit.slot_ne (t := .long) (t' := .long) (Or.inl (hw _ (List.mem_of_getElem? (i := 46) rfl))) (Or.inr (hw _ (List.mem_of_getElem? (i := 42) rfl))) (by decide) (by decide +kernel) (by decide +kernel)))
    have K27 := K18.wr W20 (Or.inl (by simp))
    show OwnKit.Go κ h19 0 0 19 #[.val (.ref a), .val (.ref s), .val (.long f), .second, .val (.long e), .second, .val (.long t), .second] []
    refine OwnKit.aloadN K d_prog_14m1_19 rfl rfl ?_
    show OwnKit.Go κ h19 0 0 20 #[.val (.ref a), .val (.ref s), .val (.long f), .second, .val (.long e), .second, .val (.long t), .second] [.ref a]
    refine OwnKit.lload K d_prog_14m1_20 rfl ?_
    show OwnKit.Go κ h19 0 0 22 #[.val (.ref a), .val (.ref s), .val (.long f), .second, .val (.long e), .second, .val (.long t), .second] [.long e, .ref a]
    refine OwnKit.putfield K d_prog_14m1_22 (host := "") (Or.inl (hw _ (List.mem_of_getElem? (i := 43) rfl))) Via.refl F25 E21 (Or.inr ⟨(hw _ (List.mem_of_getElem? (i := 44) rfl)), rfl, rfl⟩) (hw _ (List.mem_of_getElem? (i := 31) rfl)) (show parseFieldDescriptor "J" = some (.long) from by decide +kernel) rfl rfl G_a ?_
    intro h28 W29
    have E30 := E21.wr W29
    have F31 := Fld.other W29 F22 (Or.inr (RoadKit.slot_ne (t := .int) (t' := .long) (Or.inl (hw _ (List.mem_of_getElem? (i := 38) rfl))) (Or.inr (hw _ (List.mem_of_getElem? (i := 44) rfl))) (by decide) (by decide +kernel) (by decide +kernel)))
    have F32 := Fld.other W29 F23 (Or.inr (RoadKit.slot_ne (t := (.object "java/lang/String")) (t' := .long) (Or.inr (hw _ (List.mem_of_getElem? (i := 40) rfl))) (Or.inr (hw _ (List.mem_of_getElem? (i := 44) rfl))) (by decide) (by decide +kernel) (by decide +kernel)))
    have F33 := Fld.other W29 F24 (Or.inr (RoadKit.slot_ne (t := .long) (t' := .long) (Or.inr (hw _ (List.mem_of_getElem? (i := 42) rfl))) (Or.inr (hw _ (List.mem_of_getElem? (i := 44) rfl))) (by decide) (by decide +kernel) (by decide +kernel)))
    have F34 := Fld.same W29 F25
    have F35 := Fld.other W29 F26 (Or.inr (RoadKit.slot_ne (t := .long) (t' := .long) (Or.inl (hw _ (List.mem_of_getElem? (i := 46) rfl))) (Or.inr (hw _ (List.mem_of_getElem? (i := 44) rfl))) (by decide) (by decide +kernel) (by decide +kernel)))
    have K36 := K27.wr W29 (Or.inl (by simp))
    show OwnKit.Go κ h28 0 0 25 #[.val (.ref a), .val (.ref s), .val (.long f), .second, .val (.long e), .second, .val (.long t), .second] []
    refine OwnKit.aloadN K d_prog_14m1_25 rfl rfl ?_
    show OwnKit.Go κ h28 0 0 26 #[.val (.ref a), .val (.ref s), .val (.long f), .second, .val (.long e), .second, .val (.long t), .second] [.ref a]
    refine OwnKit.lload K d_prog_14m1_26 rfl ?_
    show OwnKit.Go κ h28 0 0 28 #[.val (.ref a), .val (.ref s), .val (.long f), .second, .val (.long e), .second, .val (.long t), .second] [.long t, .ref a]
    refine OwnKit.lload K d_prog_14m1_28 rfl ?_
    show OwnKit.Go κ h28 0 0 30 #[.val (.ref a), .val (.ref s), .val (.long f), .second, .val (.long e), .second, .val (.long t), .second] [.long e, .long t, .ref a]
    refine OwnKit.ladd K d_prog_14m1_30 ?_
    show OwnKit.Go κ h28 0 0 31 #[.val (.ref a), .val (.ref s), .val (.long f), .second, .val (.long e), .second, .val (.long t), .second] [.long (t + e), .ref a]
    refine OwnKit.putfield K d_prog_14m1_31 (host := "") (Or.inl (hw _ (List.mem_of_getElem? (i := 45) rfl))) Via.refl F35 E30 (Or.inl (hw _ (List.mem_of_getElem? (i := 46) rfl))) (hw _ (List.mem_of_getElem? (i := 31) rfl)) (show parseFieldDescriptor "J" = some (.long) from by decide +kernel) rfl rfl G_a ?_
    intro h37 W38
    have E39 := E30.wr W38
    have F40 := Fld.other W38 F31 (Or.inr (RoadKit.slot_ne (t := .int) (t' := .long) (Or.inl (hw _ (List.mem_of_getElem? (i := 38) rfl))) (Or.inl (hw _ (List.mem_of_getElem? (i := 46) rfl))) (by decide) (by decide +kernel) (by decide +kernel)))
    have F41 := Fld.other W38 F32 (Or.inr (RoadKit.slot_ne (t := (.object "java/lang/String")) (t' := .long) (Or.inr (hw _ (List.mem_of_getElem? (i := 40) rfl))) (Or.inl (hw _ (List.mem_of_getElem? (i := 46) rfl))) (by decide) (by decide +kernel) (by decide +kernel)))
    have F42 := Fld.other W38 F33 (Or.inr (RoadKit.slot_ne (t := .long) (t' := .long) (Or.inr (hw _ (List.mem_of_getElem? (i := 42) rfl))) (Or.inl (hw _ (List.mem_of_getElem? (i := 46) rfl))) (by decide) (by decide +kernel) (by decide +kernel)))
    have F43 := Fld.other W38 F34 (Or.inr (RoadKit.slot_ne (t := .long) (t' := .long) (Or.inr (hw _ (List.mem_of_getElem? (i := 44) rfl))) (Or.inl (hw _ (List.mem_of_getElem? (i := 46) rfl))) (by decide) (by decide +kernel) (by decide +kernel)))
    have F44 := Fld.same W38 F35
    have K45 := K36.wr W38 (Or.inl (by simp))
    show OwnKit.Go κ h37 0 0 34 #[.val (.ref a), .val (.ref s), .val (.long f), .second, .val (.long e), .second, .val (.long t), .second] []
    refine OwnKit.return0 K d_prog_14m1_34  ?_ (Nat.le_of_ble_eq_true rfl) (Nat.le_of_ble_eq_true rfl)
    exact ⟨rfl, E39, F40, F41, F42, F43, K45⟩
  · intro m; first | rfl | (simp [entryFrame, mkF, argsToLocals, Value.category]; done)

theorem d_prog_14m12_0 : decode prog_14_method_12_code 0 = .ok (.aload_n 0, 1) := by decide +kernel
theorem d_prog_14m12_1 : decode prog_14_method_12_code 1 = .ok (.dup, 1) := by decide +kernel
theorem d_prog_14m12_2 : decode prog_14_method_12_code 2 = .ok (.getfield 7, 3) := by decide +kernel
theorem d_prog_14m12_5 : decode prog_14_method_12_code 5 = .ok (.iconst 1, 1) := by decide +kernel
theorem d_prog_14m12_6 : decode prog_14_method_12_code 6 = .ok (.isub, 1) := by decide +kernel
theorem d_prog_14m12_7 : decode prog_14_method_12_code 7 = .ok (.putfield 7, 3) := by decide +kernel
theorem d_prog_14m12_10 : decode prog_14_method_12_code 10 = .ok (.return_, 1) := by decide +kernel
set_option maxRecDepth 65536 in
set_option maxHeartbeats 40000000 in
theorem c_exit (l : Launch) (Z : State) (a0 : Array Value) (hw : ∀ d ∈ tables_1, d.before a0 Z = true) (n0 : Nat) (h0 : Heap) (a : Addr) (c : Int32) (E_a : Exa Z h0 a "com/example/forelock/forelock/core/Holds$Hold") (G_a : n0 ≤ a) (F_a_count : Fld Z h0 a "com/example/forelock/forelock/core/Holds$Hold" "count" "I" (.int c)) :
    OwnKit.Con false l Z n0 (⟨"com/example/forelock/forelock/core/Holds$Hold", "exit", "()V"⟩ : MethodName) prog_14_method_12_code 1 none ({ frames := 0, cells := 0, slots := 0, locals := 0 } : Room) #[.ref a] h0 (QCnt Z a (c - 1) h0) := by
  refine OwnKit.Con.of (by first | (refine plainFor_of_name ?_; simp [plainName, overriddenIn]; done) | decide +kernel) ?_ ?_
  · intro κ hwd K0
    have K : OwnKit.Ok κ l Z n0 "com/example/forelock/forelock/core/Holds$Hold" "exit" prog_14_method_12_code 1 none ({ frames := 0, cells := 0, slots := 0, locals := 0 } : Room) (QCnt Z a (c - 1) h0) := K0
    have ef : (entryFrame κ.m #[.ref a] 1).locals = #[.val (.ref a)] := by first | (simp [entryFrame, argsToLocals, Value.category]; done) | rfl
    rw [ef]; clear ef K0
    show OwnKit.Go κ h0 0 0 0 #[.val (.ref a)] []
    refine OwnKit.aloadN K d_prog_14m12_0 rfl rfl ?_
    show OwnKit.Go κ h0 0 0 1 #[.val (.ref a)] [.ref a]
    refine OwnKit.dup K d_prog_14m12_1 rfl ?_
    show OwnKit.Go κ h0 0 0 2 #[.val (.ref a)] [.ref a, .ref a]
    refine OwnKit.getfield K d_prog_14m12_2 (host := "") (Or.inl (hw _ (List.mem_of_getElem? (i := 37) rfl))) Via.refl F_a_count ?_
    show OwnKit.Go κ h0 0 0 5 #[.val (.ref a)] [.int c, .ref a]
    refine OwnKit.iconst K d_prog_14m12_5 ?_
    show OwnKit.Go κ h0 0 0 6 #[.val (.ref a)] [.int (1 : Int32), .int c, .ref a]
    refine OwnKit.isub K d_prog_14m12_6 ?_
    show OwnKit.Go κ h0 0 0 7 #[.val (.ref a)] [.int (c - (1 : Int32)), .ref a]
    refine OwnKit.putfield K d_prog_14m12_7 (host := "") (Or.inl (hw _ (List.mem_of_getElem? (i := 37) rfl))) Via.refl F_a_count E_a (Or.inl (hw _ (List.mem_of_getElem? (i := 38) rfl))) (hw _ (List.mem_of_getElem? (i := 31) rfl)) (show parseFieldDescriptor "I" = some (.int) from by decide +kernel) rfl rfl G_a ?_
    intro h1 W2
    have E3 := E_a.wr W2
    have F4 := Fld.same W2 F_a_count
    show OwnKit.Go κ h1 0 0 10 #[.val (.ref a)] []
    refine OwnKit.return0 K d_prog_14m12_10  ?_ (Nat.le_of_ble_eq_true rfl) (Nat.le_of_ble_eq_true rfl)
    exact ⟨rfl, W2⟩
  · intro m; first | rfl | (simp [entryFrame, mkF, argsToLocals, Value.category]; done)

theorem d_prog_14m11_0 : decode prog_14_method_11_code 0 = .ok (.aload_n 0, 1) := by decide +kernel
theorem d_prog_14m11_1 : decode prog_14_method_11_code 1 = .ok (.getfield 7, 3) := by decide +kernel
theorem d_prog_14m11_4 : decode prog_14_method_11_code 4 = .ok (.ldc 62, 2) := by decide +kernel
theorem d_prog_14m11_6 : decode prog_14_method_11_code 6 = .ok (.if_icmp .ne 13, 3) := by decide +kernel
theorem d_prog_14m11_19 : decode prog_14_method_11_code 19 = .ok (.aload_n 0, 1) := by decide +kernel
theorem d_prog_14m11_20 : decode prog_14_method_11_code 20 = .ok (.dup, 1) := by decide +kernel
theorem d_prog_14m11_21 : decode prog_14_method_11_code 21 = .ok (.getfield 7, 3) := by decide +kernel
theorem d_prog_14m11_24 : decode prog_14_method_11_code 24 = .ok (.iconst 1, 1) := by decide +kernel
theorem d_prog_14m11_25 : decode prog_14_method_11_code 25 = .ok (.iadd, 1) := by decide +kernel
theorem d_prog_14m11_26 : decode prog_14_method_11_code 26 = .ok (.putfield 7, 3) := by decide +kernel
theorem d_prog_14m11_29 : decode prog_14_method_11_code 29 = .ok (.return_, 1) := by decide +kernel
set_option maxRecDepth 65536 in
set_option maxHeartbeats 40000000 in
theorem c_enter (l : Launch) (Z : State) (a0 : Array Value) (hw : ∀ d ∈ tables_1, d.before a0 Z = true) (n0 : Nat) (h0 : Heap) (a : Addr) (c : Int32) (hc : ¬ c = (2147483647 : Int32)) (E_a : Exa Z h0 a "com/example/forelock/forelock/core/Holds$Hold") (G_a : n0 ≤ a) (F_a_count : Fld Z h0 a "com/example/forelock/forelock/core/Holds$Hold" "count" "I" (.int c)) :
    OwnKit.Con false l Z n0 (⟨"com/example/forelock/forelock/core/Holds$Hold", "enter", "()V"⟩ : MethodName) prog_14_method_11_code 1 none ({ frames := 0, cells := 0, slots := 0, locals := 0 } : Room) #[.ref a] h0 (QCnt Z a (c + 1) h0) := by
  refine OwnKit.Con.of (by first | (refine plainFor_of_name ?_; simp [plainName, overriddenIn]; done) | decide +kernel) ?_ ?_
  · intro κ hwd K0
    have K : OwnKit.Ok κ l Z n0 "com/example/forelock/forelock/core/Holds$Hold" "enter" prog_14_method_11_code 1 none ({ frames := 0, cells := 0, slots := 0, locals := 0 } : Room) (QCnt Z a (c + 1) h0) := K0
    have ef : (entryFrame κ.m #[.ref a] 1).locals = #[.val (.ref a)] := by first | (simp [entryFrame, argsToLocals, Value.category]; done) | rfl
    rw [ef]; clear ef K0
    show OwnKit.Go κ h0 0 0 0 #[.val (.ref a)] []
    refine OwnKit.aloadN K d_prog_14m11_0 rfl rfl ?_
    show OwnKit.Go κ h0 0 0 1 #[.val (.ref a)] [.ref a]
    refine OwnKit.getfield K d_prog_14m11_1 (host := "") (Or.inl (hw _ (List.mem_of_getElem? (i := 37) rfl))) Via.refl F_a_count ?_
    show OwnKit.Go κ h0 0 0 4 #[.val (.ref a)] [.int c]
    refine OwnKit.ldcI K d_prog_14m11_4 (hw _ (List.mem_of_getElem? (i := 57) rfl)) ?_
    show OwnKit.Go κ h0 0 0 6 #[.val (.ref a)] [.int (2147483647 : Int32), .int c]
    refine OwnKit.icmpne K d_prog_14m11_6 (by decide) (pc' := 19) rfl  (fun b1 => ?_) (fun b1 => ?_)
    · show OwnKit.Go κ h0 0 0 19 #[.val (.ref a)] []
      refine OwnKit.aloadN K d_prog_14m11_19 rfl rfl ?_
      show OwnKit.Go κ h0 0 0 20 #[.val (.ref a)] [.ref a]
      refine OwnKit.dup K d_prog_14m11_20 rfl ?_
      show OwnKit.Go κ h0 0 0 21 #[.val (.ref a)] [.ref a, .ref a]
      refine OwnKit.getfield K d_prog_14m11_21 (host := "") (Or.inl (hw _ (List.mem_of_getElem? (i := 37) rfl))) Via.refl F_a_count ?_
      show OwnKit.Go κ h0 0 0 24 #[.val (.ref a)] [.int c, .ref a]
      refine OwnKit.iconst K d_prog_14m11_24 ?_
      show OwnKit.Go κ h0 0 0 25 #[.val (.ref a)] [.int (1 : Int32), .int c, .ref a]
      refine OwnKit.iadd K d_prog_14m11_25 ?_
      show OwnKit.Go κ h0 0 0 26 #[.val (.ref a)] [.int (c + (1 : Int32)), .ref a]
      refine OwnKit.putfield K d_prog_14m11_26 (host := "") (Or.inl (hw _ (List.mem_of_getElem? (i := 37) rfl))) Via.refl F_a_count E_a (Or.inl (hw _ (List.mem_of_getElem? (i := 38) rfl))) (hw _ (List.mem_of_getElem? (i := 31) rfl)) (show parseFieldDescriptor "I" = some (.int) from by decide +kernel) rfl rfl G_a ?_
      intro h2 W3
      have E4 := E_a.wr W3
      have F5 := Fld.same W3 F_a_count
      show OwnKit.Go κ h2 0 0 29 #[.val (.ref a)] []
      refine OwnKit.return0 K d_prog_14m11_29  ?_ (Nat.le_of_ble_eq_true rfl) (Nat.le_of_ble_eq_true rfl)
      exact ⟨rfl, W3⟩
    · exact absurd b1 hc
  · intro m; first | rfl | (simp [entryFrame, mkF, argsToLocals, Value.category]; done)

theorem d_prog_14m5_0 : decode prog_14_method_5_code 0 = .ok (.aload_n 0, 1) := by decide +kernel
theorem d_prog_14m5_1 : decode prog_14_method_5_code 1 = .ok (.getfield 7, 3) := by decide +kernel
theorem d_prog_14m5_4 : decode prog_14_method_5_code 4 = .ok (.ireturn, 1) := by decide +kernel
set_option maxRecDepth 65536 in
set_option maxHeartbeats 40000000 in
theorem c_count (l : Launch) (Z : State) (a0 : Array Value) (hw : ∀ d ∈ tables_1, d.before a0 Z = true) (n0 : Nat) (h0 : Heap) (a : Addr) (z : Int32) (E_a : Exa Z h0 a "com/example/forelock/forelock/core/Holds$Hold") (F_a_count : Fld Z h0 a "com/example/forelock/forelock/core/Holds$Hold" "count" "I" (.int z)) :
    OwnKit.Con false l Z n0 (⟨"com/example/forelock/forelock/core/Holds$Hold", "count", "()I"⟩ : MethodName) prog_14_method_5_code 1 (some .int) ({ frames := 0, cells := 0, slots := 0, locals := 0 } : Room) #[.ref a] h0 (QVal (.int z) h0) := by
  refine OwnKit.Con.of (by first | (refine plainFor_of_name ?_; simp [plainName, overriddenIn]; done) | decide +kernel) ?_ ?_
  · intro κ hwd K0
    have K : OwnKit.Ok κ l Z n0 "com/example/forelock/forelock/core/Holds$Hold" "count" prog_14_method_5_code 1 (some .int) ({ frames := 0, cells := 0, slots := 0, locals := 0 } : Room) (QVal (.int z) h0) := K0
    have ef : (entryFrame κ.m #[.ref a] 1).locals = #[.val (.ref a)] := by first | (simp [entryFrame, argsToLocals, Value.category]; done) | rfl
    rw [ef]; clear ef K0
    show OwnKit.Go κ h0 0 0 0 #[.val (.ref a)] []
    refine OwnKit.aloadN K d_prog_14m5_0 rfl rfl ?_
    show OwnKit.Go κ h0 0 0 1 #[.val (.ref a)] [.ref a]
    refine OwnKit.getfield K d_prog_14m5_1 (host := "") (Or.inl (hw _ (List.mem_of_getElem? (i := 37) rfl))) Via.refl F_a_count ?_
    show OwnKit.Go κ h0 0 0 4 #[.val (.ref a)] [.int z]
    refine OwnKit.ireturn K d_prog_14m5_4 (Or.inl rfl) rfl ?_ (Nat.le_of_ble_eq_true rfl) (Nat.le_of_ble_eq_true rfl)
    exact ⟨rfl, rfl⟩
  · intro m; first | rfl | (simp [entryFrame, mkF, argsToLocals, Value.category]; done)

theorem d_prog_14m3_0 : decode prog_14_method_3_code 0 = .ok (.aload_n 0, 1) := by decide +kernel
theorem d_prog_14m3_1 : decode prog_14_method_3_code 1 = .ok (.getfield 17, 3) := by decide +kernel
theorem d_prog_14m3_4 : decode prog_14_method_3_code 4 = .ok (.lreturn, 1) := by decide +kernel
set_option maxRecDepth 65536 in
set_option maxHeartbeats 40000000 in
theorem c_fencingToken (l : Launch) (Z : State) (a0 : Array Value) (hw : ∀ d ∈ tables_1, d.before a0 Z = true) (n0 : Nat) (h0 : Heap) (a : Addr) (z : Int64) (E_a : Exa Z h0 a "com/example/forelock/forelock/core/Holds$Hold") (F_a_fencingToken : Fld Z h0 a "com/example/forelock/forelock/core/Holds$Hold" "fencingToken" "J" (.long z)) :
    OwnKit.Con false l Z n0 (⟨"com/example/forelock/forelock/core/Holds$Hold", "fencingToken", "()J"⟩ : MethodName) prog_14_method_3_code 1 (some .long) ({ frames := 0, cells := 0, slots := 0, locals := 0 } : Room) #[.ref a] h0 (QVal (.long z) h0) := by
  refine OwnKit.Con.of (by first | (refine plainFor_of_name ?_; simp [plainName, overriddenIn]; done) | decide +kernel) ?_ ?_
  · intro κ hwd K0
    have K : OwnKit.Ok κ l Z n0 "com/example/forelock/forelock/core/Holds$Hold" "fencingToken" prog_14_method_3_code 1 (some .long) ({ frames := 0, cells := 0, slots := 0, locals := 0 } : Room) (QVal (.long z) h0) := K0
    have ef : (entryFrame κ.m #[.ref a] 1).locals = #[.val (.ref a)] := by first | (simp [entryFrame, argsToLocals, Value.category]; done) | rfl
    rw [ef]; clear ef K0
    show OwnKit.Go κ h0 0 0 0 #[.val (.ref a)] []
    refine OwnKit.aloadN K d_prog_14m3_0 rfl rfl ?_
    show OwnKit.Go κ h0 0 0 1 #[.val (.ref a)] [.ref a]
    refine OwnKit.getfield K d_prog_14m3_1 (host := "") (Or.inl (hw _ (List.mem_of_getElem? (i := 41) rfl))) Via.refl F_a_fencingToken ?_
    show OwnKit.Go κ h0 0 0 4 #[.val (.ref a)] [.long z]
    refine OwnKit.lreturn K d_prog_14m3_4  ?_ (Nat.le_of_ble_eq_true rfl) (Nat.le_of_ble_eq_true rfl)
    exact ⟨rfl, rfl⟩
  · intro m; first | rfl | (simp [entryFrame, mkF, argsToLocals, Value.category]; done)

theorem d_prog_14m4_0 : decode prog_14_method_4_code 0 = .ok (.aload_n 0, 1) := by decide +kernel
theorem d_prog_14m4_1 : decode prog_14_method_4_code 1 = .ok (.getfield 21, 3) := by decide +kernel
theorem d_prog_14m4_4 : decode prog_14_method_4_code 4 = .ok (.lreturn, 1) := by decide +kernel
set_option maxRecDepth 65536 in
set_option maxHeartbeats 40000000 in
theorem c_leaseNanos (l : Launch) (Z : State) (a0 : Array Value) (hw : ∀ d ∈ tables_1, d.before a0 Z = true) (n0 : Nat) (h0 : Heap) (a : Addr) (z : Int64) (E_a : Exa Z h0 a "com/example/forelock/forelock/core/Holds$Hold") (F_a_leaseNanos : Fld Z h0 a "com/example/forelock/forelock/core/Holds$Hold" "leaseNanos" "J" (.long z)) :
    OwnKit.Con false l Z n0 (⟨"com/example/forelock/forelock/core/Holds$Hold", "leaseNanos", "()J"⟩ : MethodName) prog_14_method_4_code 1 (some .long) ({ frames := 0, cells := 0, slots := 0, locals := 0 } : Room) #[.ref a] h0 (QVal (.long z) h0) := by
  refine OwnKit.Con.of (by first | (refine plainFor_of_name ?_; simp [plainName, overriddenIn]; done) | decide +kernel) ?_ ?_
  · intro κ hwd K0
    have K : OwnKit.Ok κ l Z n0 "com/example/forelock/forelock/core/Holds$Hold" "leaseNanos" prog_14_method_4_code 1 (some .long) ({ frames := 0, cells := 0, slots := 0, locals := 0 } : Room) (QVal (.long z) h0) := K0
    have ef : (entryFrame κ.m #[.ref a] 1).locals = #[.val (.ref a)] := by first | (simp [entryFrame, argsToLocals, Value.category]; done) | rfl
    rw [ef]; clear ef K0
    show OwnKit.Go κ h0 0 0 0 #[.val (.ref a)] []
    refine OwnKit.aloadN K d_prog_14m4_0 rfl rfl ?_
    show OwnKit.Go κ h0 0 0 1 #[.val (.ref a)] [.ref a]
    refine OwnKit.getfield K d_prog_14m4_1 (host := "") (Or.inl (hw _ (List.mem_of_getElem? (i := 43) rfl))) Via.refl F_a_leaseNanos ?_
    show OwnKit.Go κ h0 0 0 4 #[.val (.ref a)] [.long z]
    refine OwnKit.lreturn K d_prog_14m4_4  ?_ (Nat.le_of_ble_eq_true rfl) (Nat.le_of_ble_eq_true rfl)
    exact ⟨rfl, rfl⟩
  · intro m; first | rfl | (simp [entryFrame, mkF, argsToLocals, Value.category]; done)

theorem d_prog_14m2_0 : decode prog_14_method_2_code 0 = .ok (.aload_n 0, 1) := by decide +kernel
theorem d_prog_14m2_1 : decode prog_14_method_2_code 1 = .ok (.getfield 13, 3) := by decide +kernel
theorem d_prog_14m2_4 : decode prog_14_method_2_code 4 = .ok (.areturn, 1) := by decide +kernel
set_option maxRecDepth 65536 in
set_option maxHeartbeats 40000000 in
theorem c_ownerToken (l : Launch) (Z : State) (a0 : Array Value) (hw : ∀ d ∈ tables_1, d.before a0 Z = true) (n0 : Nat) (h0 : Heap) (a : Addr) (z : Addr) (E_a : Exa Z h0 a "com/example/forelock/forelock/core/Holds$Hold") (F_a_ownerToken : Fld Z h0 a "com/example/forelock/forelock/core/Holds$Hold" "ownerToken" "Ljava/lang/String;" (.ref z)) :
    OwnKit.Con false l Z n0 (⟨"com/example/forelock/forelock/core/Holds$Hold", "ownerToken", "()Ljava/lang/String;"⟩ : MethodName) prog_14_method_2_code 1 (some (.object "java/lang/String")) ({ frames := 0, cells := 0, slots := 0, locals := 0 } : Room) #[.ref a] h0 (QVal (.ref z) h0) := by
  refine OwnKit.Con.of (by first | (refine plainFor_of_name ?_; simp [plainName, overriddenIn]; done) | decide +kernel) ?_ ?_
  · intro κ hwd K0
    have K : OwnKit.Ok κ l Z n0 "com/example/forelock/forelock/core/Holds$Hold" "ownerToken" prog_14_method_2_code 1 (some (.object "java/lang/String")) ({ frames := 0, cells := 0, slots := 0, locals := 0 } : Room) (QVal (.ref z) h0) := K0
    have ef : (entryFrame κ.m #[.ref a] 1).locals = #[.val (.ref a)] := by first | (simp [entryFrame, argsToLocals, Value.category]; done) | rfl
    rw [ef]; clear ef K0
    show OwnKit.Go κ h0 0 0 0 #[.val (.ref a)] []
    refine OwnKit.aloadN K d_prog_14m2_0 rfl rfl ?_
    show OwnKit.Go κ h0 0 0 1 #[.val (.ref a)] [.ref a]
    refine OwnKit.getfield K d_prog_14m2_1 (host := "") (Or.inl (hw _ (List.mem_of_getElem? (i := 39) rfl))) Via.refl F_a_ownerToken ?_
    show OwnKit.Go κ h0 0 0 4 #[.val (.ref a)] [.ref z]
    refine OwnKit.areturn K d_prog_14m2_4 rfl rfl ?_ (Nat.le_of_ble_eq_true rfl) (Nat.le_of_ble_eq_true rfl)
    exact ⟨rfl, rfl⟩
  · intro m; first | rfl | (simp [entryFrame, mkF, argsToLocals, Value.category]; done)

theorem d_jdk_42m66_0 : decode jdk_42_method_66_code 0 = .ok (.aload_n 0, 1) := by decide +kernel
theorem d_jdk_42m66_1 : decode jdk_42_method_66_code 1 = .ok (.aload_n 1, 1) := by decide +kernel
theorem d_jdk_42m66_2 : decode jdk_42_method_66_code 2 = .ok (.if_acmp .ne 5, 3) := by decide +kernel
theorem d_jdk_42m66_5 : decode jdk_42_method_66_code 5 = .ok (.iconst 1, 1) := by decide +kernel
theorem d_jdk_42m66_6 : decode jdk_42_method_66_code 6 = .ok (.ireturn, 1) := by decide +kernel
set_option maxRecDepth 65536 in
set_option maxHeartbeats 40000000 in
theorem c_eq (l : Launch) (Z : State) (a0 : Array Value) (hw : ∀ d ∈ tables_1, d.before a0 Z = true) (n0 : Nat) (h0 : Heap) (a : Addr)  :
    OwnKit.Con false l Z n0 (⟨"java/lang/String", "equals", "(Ljava/lang/Object;)Z"⟩ : MethodName) jdk_42_method_66_code 3 (some .boolean) ({ frames := 0, cells := 0, slots := 0, locals := 0 } : Room) #[.ref a, .ref a] h0 (QVal (.int 1) h0) := by
  refine OwnKit.Con.of (by first | (refine plainFor_of_name ?_; simp [plainName, overriddenIn]; done) | decide +kernel) ?_ ?_
  · intro κ hwd K0
    have K : OwnKit.Ok κ l Z n0 "java/lang/String" "equals" jdk_42_method_66_code 3 (some .boolean) ({ frames := 0, cells := 0, slots := 0, locals := 0 } : Room) (QVal (.int 1) h0) := K0
    have ef : (entryFrame κ.m #[.ref a, .ref a] 3).locals = #[.val (.ref a), .val (.ref a), .unset] := by first | (simp [entryFrame, argsToLocals, Value.category]; done) | rfl
    rw [ef]; clear ef K0
    show OwnKit.Go κ h0 0 0 0 #[.val (.ref a), .val (.ref a), .unset] []
    refine OwnKit.aloadN K d_jdk_42m66_0 rfl rfl ?_
    show OwnKit.Go κ h0 0 0 1 #[.val (.ref a), .val (.ref a), .unset] [.ref a]
    refine OwnKit.aloadN K d_jdk_42m66_1 rfl rfl ?_
    show OwnKit.Go κ h0 0 0 2 #[.val (.ref a), .val (.ref a), .unset] [.ref a, .ref a]
    refine OwnKit.acmpne K d_jdk_42m66_2 (by decide) (pc' := 7) rfl rfl rfl (fun b1 => ?_) (fun b1 => ?_)
    · exact absurd rfl b1
    · show OwnKit.Go κ h0 0 0 5 #[.val (.ref a), .val (.ref a), .unset] []
      refine OwnKit.iconst K d_jdk_42m66_5 ?_
      show OwnKit.Go κ h0 0 0 6 #[.val (.ref a), .val (.ref a), .unset] [.int (1 : Int32)]
      refine OwnKit.ireturn K d_jdk_42m66_6 (Or.inr (Or.inl rfl)) rfl ?_ (Nat.le_of_ble_eq_true rfl) (Nat.le_of_ble_eq_true rfl)
      exact ⟨rfl, rfl⟩
  · intro m; first | rfl | (simp [entryFrame, mkF, argsToLocals, Value.category]; done)

set_option maxRecDepth 65536 in
set_option maxHeartbeats 40000000 in
theorem c_law (l : Launch) (Z : State) (a0 : Array Value) (hw : ∀ d ∈ tables_1, d.before a0 Z = true) (n0 : Nat) (h0 : Heap) (c : Int32) (f e t : Int64) (k : Int32) (i_COMPACT_STRINGS : Int32) (v_SIOOBE_FORMATTER : Value) (S_COMPACT_STRINGS : Sta Z Z.heap "java/lang/String" "COMPACT_STRINGS" "Z" (.int i_COMPACT_STRINGS)) (nz_COMPACT_STRINGS : ¬ i_COMPACT_STRINGS = (0 : Int32)) (S_SIOOBE_FORMATTER : Sta Z Z.heap "jdk/internal/util/Preconditions" "SIOOBE_FORMATTER" "Ljava/util/function/BiFunction;" (v_SIOOBE_FORMATTER)) (hr_v_SIOOBE_FORMATTER : v_SIOOBE_FORMATTER.isRef = true) :
    OwnKit.Con false l Z n0 x code maxLocals ret room_1 #[.int c, .long f, .long e, .long t, .int k] h0 QLaw := by
  refine OwnKit.Con.of (by first | (refine plainFor_of_name ?_; simp [plainName, overriddenIn]; done) | decide +kernel) ?_ ?_
  · intro κ hwd K0
    have K : OwnKit.Ok κ l Z n0 "com/example/forelock/forelock/core/HoldEnterPinLaw" "law" code 13 (some .boolean) room_1 QLaw := K0
    have ef : (entryFrame κ.m #[.int c, .long f, .long e, .long t, .int k] maxLocals).locals = #[.val (.int c), .val (.long f), .second, .val (.long e), .second, .val (.long t), .second, .val (.int k), .unset, .unset, .unset, .unset, .unset] := by first | (simp [entryFrame, argsToLocals, Value.category, maxLocals]; done) | rfl
    rw [ef]; clear ef K0
    have hc_v_SIOOBE_FORMATTER := OwnKit.catR hr_v_SIOOBE_FORMATTER
    show OwnKit.Go κ h0 0 0 0 #[.val (.int c), .val (.long f), .second, .val (.long e), .second, .val (.long t), .second, .val (.int k), .unset, .unset, .unset, .unset, .unset] []
    refine OwnKit.iconst K at_0 ?_
    show OwnKit.Go κ h0 0 0 1 #[.val (.int c), .val (.long f), .second, .val (.long e), .second, .val (.long t), .second, .val (.int k), .unset, .unset, .unset, .unset, .unset] [.int (2 : Int32)]
    refine OwnKit.newArrV (cap := 2) K at_1 (hw _ (List.mem_of_getElem? (i := 0) rfl)) (by decide) (by decide) (by decide) (Nat.le_of_ble_eq_true rfl) (Nat.le_of_ble_eq_true rfl) ?_
    intro h1 a2 k3 g4 G5 Ex6 A7 E8
    have A9 : OwnKit.Av Z h1 a2 k3 .char [.int (0 : Int32), .int (0 : Int32)] := A7
    show OwnKit.Go κ h1 1 2 3 #[.val (.int c), .val (.long f), .second, .val (.long e), .second, .val (.long t), .second, .val (.int k), .unset, .unset, .unset, .unset, .unset] [.ref a2]
    refine OwnKit.dup K at_3 rfl ?_
    show OwnKit.Go κ h1 1 2 4 #[.val (.int c), .val (.long f), .second, .val (.long e), .second, .val (.long t), .second, .val (.int k), .unset, .unset, .unset, .unset, .unset] [.ref a2, .ref a2]
    refine OwnKit.iconst K at_4 ?_
    show OwnKit.Go κ h1 1 2 5 #[.val (.int c), .val (.long f), .second, .val (.long e), .second, .val (.long t), .second, .val (.int k), .unset, .unset, .unset, .unset, .unset] [.int (0 : Int32), .ref a2, .ref a2]
    refine OwnKit.iloadN K at_5 rfl ?_
    show OwnKit.Go κ h1 1 2 6 #[.val (.int c), .val (.long f), .second, .val (.long e), .second, .val (.long t), .second, .val (.int k), .unset, .unset, .unset, .unset, .unset] [.int c, .int (0 : Int32), .ref a2, .ref a2]
    refine OwnKit.sipush K at_6 ?_
    show OwnKit.Go κ h1 1 2 9 #[.val (.int c), .val (.long f), .second, .val (.long e), .second, .val (.long t), .second, .val (.int k), .unset, .unset, .unset, .unset, .unset] [.int (255 : Int32), .int c, .int (0 : Int32), .ref a2, .ref a2]
    refine OwnKit.iand K at_9 ?_
    show OwnKit.Go κ h1 1 2 10 #[.val (.int c), .val (.long f), .second, .val (.long e), .second, .val (.long t), .second, .val (.int k), .unset, .unset, .unset, .unset, .unset] [.int (c &&& (255 : Int32)), .int (0 : Int32), .ref a2, .ref a2]
    refine OwnKit.i2c K at_10 ?_
    show OwnKit.Go κ h1 1 2 11 #[.val (.int c), .val (.long f), .second, .val (.long e), .second, .val (.long t), .second, .val (.int k), .unset, .unset, .unset, .unset, .unset] [.int ((c &&& (255 : Int32)).toUInt32.toUInt16.toUInt32.toInt32), .int (0 : Int32), .ref a2, .ref a2]
    refine OwnKit.castoreV K at_11 A9 (by decide) (by show ((0 : Int32)).toInt < ((2 : Nat) : Int); decide) G5 ?_
    intro h10 W11 A12
    have E14 := E8.wr W11
    have A13 : OwnKit.Av Z h10 a2 k3 .char [.int (nar .char ((c &&& (255 : Int32)).toUInt32.toUInt16.toUInt32.toInt32)), .int (0 : Int32)] := A12
    show OwnKit.Go κ h10 1 2 12 #[.val (.int c), .val (.long f), .second, .val (.long e), .second, .val (.long t), .second, .val (.int k), .unset, .unset, .unset, .unset, .unset] [.ref a2]
    refine OwnKit.dup K at_12 rfl ?_
    show OwnKit.Go κ h10 1 2 13 #[.val (.int c), .val (.long f), .second, .val (.long e), .second, .val (.long t), .second, .val (.int k), .unset, .unset, .unset, .unset, .unset] [.ref a2, .ref a2]
    refine OwnKit.iconst K at_13 ?_
    show OwnKit.Go κ h10 1 2 14 #[.val (.int c), .val (.long f), .second, .val (.long e), .second, .val (.long t), .second, .val (.int k), .unset, .unset, .unset, .unset, .unset] [.int (1 : Int32), .ref a2, .ref a2]
    refine OwnKit.iloadN K at_14 rfl ?_
    show OwnKit.Go κ h10 1 2 15 #[.val (.int c), .val (.long f), .second, .val (.long e), .second, .val (.long t), .second, .val (.int k), .unset, .unset, .unset, .unset, .unset] [.int c, .int (1 : Int32), .ref a2, .ref a2]
    refine OwnKit.bipush K at_15 ?_
    show OwnKit.Go κ h10 1 2 17 #[.val (.int c), .val (.long f), .second, .val (.long e), .second, .val (.long t), .second, .val (.int k), .unset, .unset, .unset, .unset, .unset] [.int (8 : Int32), .int c, .int (1 : Int32), .ref a2, .ref a2]
    refine OwnKit.iushr K at_17 ?_
    show OwnKit.Go κ h10 1 2 18 #[.val (.int c), .val (.long f), .second, .val (.long e), .second, .val (.long t), .second, .val (.int k), .unset, .unset, .unset, .unset, .unset] [.int (XT.ushr c (8 : Int32)), .int (1 : Int32), .ref a2, .ref a2]
    refine OwnKit.sipush K at_18 ?_
    show OwnKit.Go κ h10 1 2 21 #[.val (.int c), .val (.long f), .second, .val (.long e), .second, .val (.long t), .second, .val (.int k), .unset, .unset, .unset, .unset, .unset] [.int (255 : Int32), .int (XT.ushr c (8 : Int32)), .int (1 : Int32), .ref a2, .ref a2]
    refine OwnKit.iand K at_21 ?_
    show OwnKit.Go κ h10 1 2 22 #[.val (.int c), .val (.long f), .second, .val (.long e), .second, .val (.long t), .second, .val (.int k), .unset, .unset, .unset, .unset, .unset] [.int ((XT.ushr c (8 : Int32)) &&& (255 : Int32)), .int (1 : Int32), .ref a2, .ref a2]
    refine OwnKit.i2c K at_22 ?_
    show OwnKit.Go κ h10 1 2 23 #[.val (.int c), .val (.long f), .second, .val (.long e), .second, .val (.long t), .second, .val (.int k), .unset, .unset, .unset, .unset, .unset] [.int (((XT.ushr c (8 : Int32)) &&& (255 : Int32)).toUInt32.toUInt16.toUInt32.toInt32), .int (1 : Int32), .ref a2, .ref a2]
    refine OwnKit.castoreV K at_23 A13 (by decide) (by show ((1 : Int32)).toInt < ((2 : Nat) : Int); decide) G5 ?_
    intro h15 W16 A17
    have E19 := E14.wr W16
    have A18 : OwnKit.Av Z h15 a2 k3 .char [.int (nar .char ((c &&& (255 : Int32)).toUInt32.toUInt16.toUInt32.toInt32)), .int (nar .char (((XT.ushr c (8 : Int32)) &&& (255 : Int32)).toUInt32.toUInt16.toUInt32.toInt32))] := A17
    show OwnKit.Go κ h15 1 2 24 #[.val (.int c), .val (.long f), .second, .val (.long e), .second, .val (.long t), .second, .val (.int k), .unset, .unset, .unset, .unset, .unset] [.ref a2]
    refine OwnKit.astore K at_24 rfl (l' := #[.val (.int c), .val (.long f), .second, .val (.long e), .second, .val (.long t), .second, .val (.int k), .val (.ref a2), .unset, .unset, .unset, .unset]) rfl ?_
    show OwnKit.Go κ h15 1 2 26 #[.val (.int c), .val (.long f), .second, .val (.long e), .second, .val (.long t), .second, .val (.int k), .val (.ref a2), .unset, .unset, .unset, .unset] []
    refine OwnKit.newObj K at_26 (hw _ (List.mem_of_getElem? (i := 1) rfl)) (hw _ (List.mem_of_getElem? (i := 2) rfl)) (hw _ (List.mem_of_getElem? (i := 3) rfl)) (Nat.le_of_ble_eq_true rfl) (Nat.le_of_ble_eq_true rfl) ?_
    intro h20 a21 g22 G23 Ex24 E25 D26 U27
    have ne28 : a2 ≠ a21 := by rw [g22]; exact Nat.ne_of_lt A18.lt
    have A29 := A18.ext Ex24
    have E30 := E19.ext Ex24
    have F31 : Fld Z h20 a21 "java/lang/String" "coder" "B" (.int (0 : Int32)) := D26 (Or.inr (hw _ (List.mem_of_getElem? (i := 27) rfl))) (show parseFieldDescriptor "B" = some (.byte) from by decide +kernel)
    have F32 : Fld Z h20 a21 "java/lang/String" "value" "[B" (.null) := D26 (Or.inr (hw _ (List.mem_of_getElem? (i := 29) rfl))) (show parseFieldDescriptor "[B" = some ((.array .byte)) from by decide +kernel)
    show OwnKit.Go κ h20 2 6 29 #[.val (.int c), .val (.long f), .second, .val (.long e), .second, .val (.long t), .second, .val (.int k), .val (.ref a2), .unset, .unset, .unset, .unset] [.ref a21]
    refine OwnKit.dup K at_29 rfl ?_
    show OwnKit.Go κ h20 2 6 30 #[.val (.int c), .val (.long f), .second, .val (.long e), .second, .val (.long t), .second, .val (.int k), .val (.ref a2), .unset, .unset, .unset, .unset] [.ref a21, .ref a21]
    refine OwnKit.aload K at_30 rfl rfl ?_
    show OwnKit.Go κ h20 2 6 32 #[.val (.int c), .val (.long f), .second, .val (.long e), .second, .val (.long t), .second, .val (.int k), .val (.ref a2), .unset, .unset, .unset, .unset] [.ref a2, .ref a21, .ref a21]
    have Avx : OwnKit.Av Z h20 a2 k3 .char ([c &&& 255, XT.ushr c 8 &&& 255].map Value.int) := by
      have q := A29; rw [own_m8, own_m8] at q; exact q
    refine OwnKit.invC (y := (⟨"java/lang/String", "<init>", "([C)V"⟩ : MethodName)) (argsL := [.ref a2]) (rest := [.ref a21]) K (c_initL l Z a0 hw n0 h20 a21 a2 k3 _ i_COMPACT_STRINGS v_SIOOBE_FORMATTER (by simp) (by simp) (own_lat2 _ _) ne28 Avx E25 G23 F31 F32 S_COMPACT_STRINGS nz_COMPACT_STRINGS S_SIOOBE_FORMATTER hr_v_SIOOBE_FORMATTER) at_32 rfl (hw _ (List.mem_of_getElem? (i := 4) rfl)) (hw _ (List.mem_of_getElem? (i := 5) rfl)) (hw _ (List.mem_of_getElem? (i := 6) rfl)) (hw _ (List.mem_of_getElem? (i := 3) rfl)) (by decide) (lenOf (by decide +kernel : parseMethodDescriptor "([C)V" = some ⟨[(.array .char)], none⟩) rfl) rfl rfl (W := 1) (Nat.le_of_ble_eq_true rfl) (Nat.le_of_ble_eq_true rfl) (Nat.le_of_ble_eq_true rfl) (Nat.le_of_ble_eq_true rfl) (Nat.le_of_ble_eq_true rfl) ?_
    rintro _ h33 ⟨b, kb, rfl, Kx, gb, Fv, Fc, Ab⟩ g34
    have A35 := A29.keep Kx (ninS ne28 nin0)
    have E36 := E30.keep Kx
    have E37 := E25.keep Kx
    show OwnKit.Go κ h33 3 8 35 #[.val (.int c), .val (.long f), .second, .val (.long e), .second, .val (.long t), .second, .val (.int k), .val (.ref a2), .unset, .unset, .unset, .unset] [.ref a21]
    refine OwnKit.astore K at_35 rfl (l' := #[.val (.int c), .val (.long f), .second, .val (.long e), .second, .val (.long t), .second, .val (.int k), .val (.ref a2), .val (.ref a21), .unset, .unset, .unset]) rfl ?_
    show OwnKit.Go κ h33 3 8 37 #[.val (.int c), .val (.long f), .second, .val (.long e), .second, .val (.long t), .second, .val (.int k), .val (.ref a2), .val (.ref a21), .unset, .unset, .unset] []
    refine OwnKit.newObj K at_37 (hw _ (List.mem_of_getElem? (i := 30) rfl)) (hw _ (List.mem_of_getElem? (i := 31) rfl)) (hw _ (List.mem_of_getElem? (i := 32) rfl)) (Nat.le_of_ble_eq_true rfl) (Nat.le_of_ble_eq_true rfl) ?_
    intro h38 a39 g40 G41 Ex42 E43 D44 U45
    have ne46 : a21 ≠ a39 := by rw [g40]; exact Nat.ne_of_lt E37.lt
    have E47 := E37.ext Ex42
    have F48 : Fld Z h38 a39 "com/example/forelock/forelock/core/Holds$Hold" "count" "I" (.int (0 : Int32)) := D44 (Or.inl (hw _ (List.mem_of_getElem? (i := 38) rfl))) (show parseFieldDescriptor "I" = some (.int) from by decide +kernel)
    have F49 : Fld Z h38 a39 "com/example/forelock/forelock/core/Holds$Hold" "ownerToken" "Ljava/lang/String;" (.null) := D44 (Or.inr (hw _ (List.mem_of_getElem? (i := 40) rfl))) (show parseFieldDescriptor "Ljava/lang/String;" = some ((.object "java/lang/String")) from by decide +kernel)
    have F50 : Fld Z h38 a39 "com/example/forelock/forelock/core/Holds$Hold" "fencingToken" "J" (.long (0 : Int64)) := D44 (Or.inr (hw _ (List.mem_of_getElem? (i := 42) rfl))) (show parseFieldDescriptor "J" = some (.long) from by decide +kernel)
    have F51 : Fld Z h38 a39 "com/example/forelock/forelock/core/Holds$Hold" "leaseNanos" "J" (.long (0 : Int64)) := D44 (Or.inr (hw _ (List.mem_of_getElem? (i := 44) rfl))) (show parseFieldDescriptor "J" = some (.long) from by decide +kernel)
    have F52 : Fld Z h38 a39 "com/example/forelock/forelock/core/Holds$Hold" "leaseEnd" "J" (.long (0 : Int64)) := D44 (Or.inl (hw _ (List.mem_of_getElem? (i := 46) rfl))) (show parseFieldDescriptor "J" = some (.long) from by decide +kernel)
    show OwnKit.Go κ h38 4 15 40 #[.val (.int c), .val (.long f), .second, .val (.long e), .second, .val (.long t), .second, .val (.int k), .val (.ref a2), .val (.ref a21), .unset, .unset, .unset] [.ref a39]
    refine OwnKit.dup K at_40 rfl ?_
    show OwnKit.Go κ h38 4 15 41 #[.val (.int c), .val (.long f), .second, .val (.long e), .second, .val (.long t), .second, .val (.int k), .val (.ref a2), .val (.ref a21), .unset, .unset, .unset] [.ref a39, .ref a39]
    refine OwnKit.aload K at_41 rfl rfl ?_
    show OwnKit.Go κ h38 4 15 43 #[.val (.int c), .val (.long f), .second, .val (.long e), .second, .val (.long t), .second, .val (.int k), .val (.ref a2), .val (.ref a21), .unset, .unset, .unset] [.ref a21, .ref a39, .ref a39]
    refine OwnKit.lloadN K at_43 rfl ?_
    show OwnKit.Go κ h38 4 15 44 #[.val (.int c), .val (.long f), .second, .val (.long e), .second, .val (.long t), .second, .val (.int k), .val (.ref a2), .val (.ref a21), .unset, .unset, .unset] [.long f, .ref a21, .ref a39, .ref a39]
    refine OwnKit.lloadN K at_44 rfl ?_
    show OwnKit.Go κ h38 4 15 45 #[.val (.int c), .val (.long f), .second, .val (.long e), .second, .val (.long t), .second, .val (.int k), .val (.ref a2), .val (.ref a21), .unset, .unset, .unset] [.long e, .long f, .ref a21, .ref a39, .ref a39]
    refine OwnKit.lload K at_45 rfl ?_
    show OwnKit.Go κ h38 4 15 47 #[.val (.int c), .val (.long f), .second, .val (.long e), .second, .val (.long t), .second, .val (.int k), .val (.ref a2), .val (.ref a21), .unset, .unset, .unset] [.long t, .long e, .long f, .ref a21, .ref a39, .ref a39]
    refine OwnKit.invC (y := (⟨"com/example/forelock/forelock/core/Holds$Hold", "<init>", "(Ljava/lang/String;JJJ)V"⟩ : MethodName)) (argsL := [.ref a21, .long f, .long e, .long t]) (rest := [.ref a39]) K (c_hold l Z a0 hw n0 h38 a39 a21 f e t E43 G41 F48 F49 F50 F51 F52) at_47 rfl (hw _ (List.mem_of_getElem? (i := 33) rfl)) (hw _ (List.mem_of_getElem? (i := 34) rfl)) (hw _ (List.mem_of_getElem? (i := 35) rfl)) (hw _ (List.mem_of_getElem? (i := 32) rfl)) (by decide) (lenOf (by decide +kernel : parseMethodDescriptor "(Ljava/lang/String;JJJ)V" = some ⟨[(.object "java/lang/String"), .long, .long, .long], none⟩) rfl) rfl rfl (W := 1) (Nat.le_of_ble_eq_true rfl) (Nat.le_of_ble_eq_true rfl) (Nat.le_of_ble_eq_true rfl) (Nat.le_of_ble_eq_true rfl) (Nat.le_of_ble_eq_true rfl) ?_
    rintro _ h53 ⟨rfl, Eh, Fc, Fo, Ff, Fl, Kx⟩ g54
    have E55 := E47.keep Kx
    have E56 := E43.keep Kx
    show OwnKit.Go κ h53 4 15 50 #[.val (.int c), .val (.long f), .second, .val (.long e), .second, .val (.long t), .second, .val (.int k), .val (.ref a2), .val (.ref a21), .unset, .unset, .unset] [.ref a39]
    refine OwnKit.astore K at_50 rfl (l' := #[.val (.int c), .val (.long f), .second, .val (.long e), .second, .val (.long t), .second, .val (.int k), .val (.ref a2), .val (.ref a21), .val (.ref a39), .unset, .unset]) rfl ?_
    show OwnKit.Go κ h53 4 15 52 #[.val (.int c), .val (.long f), .second, .val (.long e), .second, .val (.long t), .second, .val (.int k), .val (.ref a2), .val (.ref a21), .val (.ref a39), .unset, .unset] []
    refine OwnKit.iconst K at_52 ?_
    show OwnKit.Go κ h53 4 15 53 #[.val (.int c), .val (.long f), .second, .val (.long e), .second, .val (.long t), .second, .val (.int k), .val (.ref a2), .val (.ref a21), .val (.ref a39), .unset, .unset] [.int (1 : Int32)]
    refine OwnKit.istore K at_53 (l' := #[.val (.int c), .val (.long f), .second, .val (.long e), .second, .val (.long t), .second, .val (.int k), .val (.ref a2), .val (.ref a21), .val (.ref a39), .val (.int (1 : Int32)), .unset]) rfl ?_
    show OwnKit.Go κ h53 4 15 55 #[.val (.int c), .val (.long f), .second, .val (.long e), .second, .val (.long t), .second, .val (.int k), .val (.ref a2), .val (.ref a21), .val (.ref a39), .val (.int (1 : Int32)), .unset] []
    refine OwnKit.iload K at_55 rfl ?_
    show OwnKit.Go κ h53 4 15 57 #[.val (.int c), .val (.long f), .second, .val (.long e), .second, .val (.long t), .second, .val (.int k), .val (.ref a2), .val (.ref a21), .val (.ref a39), .val (.int (1 : Int32)), .unset] [.int k]
    refine OwnKit.iconst K at_57 ?_
    show OwnKit.Go κ h53 4 15 58 #[.val (.int c), .val (.long f), .second, .val (.long e), .second, .val (.long t), .second, .val (.int k), .val (.ref a2), .val (.ref a21), .val (.ref a39), .val (.int (1 : Int32)), .unset] [.int (1 : Int32), .int k]
    refine OwnKit.iand K at_58 ?_
    show OwnKit.Go κ h53 4 15 59 #[.val (.int c), .val (.long f), .second, .val (.long e), .second, .val (.long t), .second, .val (.int k), .val (.ref a2), .val (.ref a21), .val (.ref a39), .val (.int (1 : Int32)), .unset] [.int (k &&& (1 : Int32))]
    refine OwnKit.ifeq K at_59 (by decide) (pc' := 73) rfl  (fun b57 => ?_) (fun b57 => ?_)
    · show OwnKit.Go κ h53 4 15 73 #[.val (.int c), .val (.long f), .second, .val (.long e), .second, .val (.long t), .second, .val (.int k), .val (.ref a2), .val (.ref a21), .val (.ref a39), .val (.int (1 : Int32)), .unset] []
      refine OwnKit.iload K at_73 rfl ?_
      show OwnKit.Go κ h53 4 15 75 #[.val (.int c), .val (.long f), .second, .val (.long e), .second, .val (.long t), .second, .val (.int k), .val (.ref a2), .val (.ref a21), .val (.ref a39), .val (.int (1 : Int32)), .unset] [.int k]
      refine OwnKit.iconst K at_75 ?_
      show OwnKit.Go κ h53 4 15 76 #[.val (.int c), .val (.long f), .second, .val (.long e), .second, .val (.long t), .second, .val (.int k), .val (.ref a2), .val (.ref a21), .val (.ref a39), .val (.int (1 : Int32)), .unset] [.int (2 : Int32), .int k]
      refine OwnKit.iand K at_76 ?_
      show OwnKit.Go κ h53 4 15 77 #[.val (.int c), .val (.long f), .second, .val (.long e), .second, .val (.long t), .second, .val (.int k), .val (.ref a2), .val (.ref a21), .val (.ref a39), .val (.int (1 : Int32)), .unset] [.int (k &&& (2 : Int32))]
      refine OwnKit.ifeq K at_77 (by decide) (pc' := 91) rfl  (fun b58 => ?_) (fun b58 => ?_)
      · show OwnKit.Go κ h53 4 15 91 #[.val (.int c), .val (.long f), .second, .val (.long e), .second, .val (.long t), .second, .val (.int k), .val (.ref a2), .val (.ref a21), .val (.ref a39), .val (.int (1 : Int32)), .unset] []
        refine OwnKit.aload K at_91 rfl rfl ?_
        show OwnKit.Go κ h53 4 15 93 #[.val (.int c), .val (.long f), .second, .val (.long e), .second, .val (.long t), .second, .val (.int k), .val (.ref a2), .val (.ref a21), .val (.ref a39), .val (.int (1 : Int32)), .unset] [.ref a39]
        refine OwnKit.invV (y := (⟨"com/example/forelock/forelock/core/Holds$Hold", "enter", "()V"⟩ : MethodName)) (z := (⟨"com/example/forelock/forelock/core/Holds$Hold", "enter", "()V"⟩ : MethodName)) (argsL := []) (rest := []) K (c_enter l Z a0 hw n0 h53 a39 (1 : Int32) (by decide) Eh G41 Fc) at_93 Eh (hw _ (List.mem_of_getElem? (i := 52) rfl)) (hw _ (List.mem_of_getElem? (i := 53) rfl)) (OwnKit.nfS (hw _ (List.mem_of_getElem? (i := 55) rfl))) (hw _ (List.mem_of_getElem? (i := 55) rfl)) (hw _ (List.mem_of_getElem? (i := 54) rfl)) (hw _ (List.mem_of_getElem? (i := 56) rfl)) (hw _ (List.mem_of_getElem? (i := 32) rfl)) (by decide) (lenOf (by decide +kernel : parseMethodDescriptor "()V" = some ⟨[], none⟩) rfl) rfl rfl (W := 0) (Nat.le_of_ble_eq_true rfl) (Nat.le_of_ble_eq_true rfl) (Nat.le_of_ble_eq_true rfl) (Nat.le_of_ble_eq_true rfl) (Nat.le_of_ble_eq_true rfl) ?_
        rintro _ h59 ⟨rfl, W61⟩ g60
        have E62 := E55.wr W61
        have E63 := Eh.wr W61
        have F64 := Fld.same W61 Fc
        have F65 := Fld.other W61 Fo (Or.inr (RoadKit.slot_ne (t := (.object "java/lang/String")) (t' := .int) (Or.inr (hw _ (List.mem_of_getElem? (i := 40) rfl))) (Or.inl (hw _ (List.mem_of_getElem? (i := 38) rfl))) (by decide) (by decide +kernel) (by decide +kernel)))
        have F66 := Fld.other W61 Ff (Or.inr (RoadKit.slot_ne (t := .long) (t' := .int) (Or.inr (hw _ (List.mem_of_getElem? (i := 42) rfl))) (Or.inl (hw _ (List.mem_of_getElem? (i := 38) rfl))) (by decide) (by decide +kernel) (by decide +kernel)))
        have F67 := Fld.other W61 Fl (Or.inr (RoadKit.slot_ne (t := .long) (t' := .int) (Or.inr (hw _ (List.mem_of_getElem? (i := 44) rfl))) (Or.inl (hw _ (List.mem_of_getElem? (i := 38) rfl))) (by decide) (by decide +kernel) (by decide +kernel)))
        show OwnKit.Go κ h59 4 15 96 #[.val (.int c), .val (.long f), .second, .val (.long e), .second, .val (.long t), .second, .val (.int k), .val (.ref a2), .val (.ref a21), .val (.ref a39), .val (.int (1 : Int32)), .unset] []
        refine OwnKit.aload K at_96 rfl rfl ?_
        show OwnKit.Go κ h59 4 15 98 #[.val (.int c), .val (.long f), .second, .val (.long e), .second, .val (.long t), .second, .val (.int k), .val (.ref a2), .val (.ref a21), .val (.ref a39), .val (.int (1 : Int32)), .unset] [.ref a39]
        refine OwnKit.invV (y := (⟨"com/example/forelock/forelock/core/Holds$Hold", "count", "()I"⟩ : MethodName)) (z := (⟨"com/example/forelock/forelock/core/Holds$Hold", "count", "()I"⟩ : MethodName)) (argsL := []) (rest := []) K (c_count l Z a0 hw n0 h59 a39 (2 : Int32) E63 F64) at_98 E63 (hw _ (List.mem_of_getElem? (i := 58) rfl)) (hw _ (List.mem_of_getElem? (i := 59) rfl)) (OwnKit.nfS (hw _ (List.mem_of_getElem? (i := 61) rfl))) (hw _ (List.mem_of_getElem? (i := 61) rfl)) (hw _ (List.mem_of_getElem? (i := 60) rfl)) (hw _ (List.mem_of_getElem? (i := 62) rfl)) (hw _ (List.mem_of_getElem? (i := 32) rfl)) (by decide) (lenOf (by decide +kernel : parseMethodDescriptor "()I" = some ⟨[], some .int⟩) rfl) rfl rfl (W := 0) (Nat.le_of_ble_eq_true rfl) (Nat.le_of_ble_eq_true rfl) (Nat.le_of_ble_eq_true rfl) (Nat.le_of_ble_eq_true rfl) (Nat.le_of_ble_eq_true rfl) ?_
        rintro _ h68 ⟨rfl, rfl⟩ g69
        show OwnKit.Go κ h59 4 15 101 #[.val (.int c), .val (.long f), .second, .val (.long e), .second, .val (.long t), .second, .val (.int k), .val (.ref a2), .val (.ref a21), .val (.ref a39), .val (.int (1 : Int32)), .unset] [.int (2 : Int32)]
        refine OwnKit.iload K at_101 rfl ?_
        show OwnKit.Go κ h59 4 15 103 #[.val (.int c), .val (.long f), .second, .val (.long e), .second, .val (.long t), .second, .val (.int k), .val (.ref a2), .val (.ref a21), .val (.ref a39), .val (.int (1 : Int32)), .unset] [.int (1 : Int32), .int (2 : Int32)]
        refine OwnKit.iconst K at_103 ?_
        show OwnKit.Go κ h59 4 15 104 #[.val (.int c), .val (.long f), .second, .val (.long e), .second, .val (.long t), .second, .val (.int k), .val (.ref a2), .val (.ref a21), .val (.ref a39), .val (.int (1 : Int32)), .unset] [.int (1 : Int32), .int (1 : Int32), .int (2 : Int32)]
        refine OwnKit.iadd K at_104 ?_
        show OwnKit.Go κ h59 4 15 105 #[.val (.int c), .val (.long f), .second, .val (.long e), .second, .val (.long t), .second, .val (.int k), .val (.ref a2), .val (.ref a21), .val (.ref a39), .val (.int (1 : Int32)), .unset] [.int ((1 : Int32) + (1 : Int32)), .int (2 : Int32)]
        show OwnKit.Go κ h59 4 15 105 #[.val (.int c), .val (.long f), .second, .val (.long e), .second, .val (.long t), .second, .val (.int k), .val (.ref a2), .val (.ref a21), .val (.ref a39), .val (.int (1 : Int32)), .unset] [.int (2 : Int32), .int (2 : Int32)]
        refine OwnKit.icmpne K at_105 (by decide) (pc' := 112) rfl  (fun b70 => ?_) (fun b70 => ?_)
        · exact absurd b70 (by decide)
        · show OwnKit.Go κ h59 4 15 108 #[.val (.int c), .val (.long f), .second, .val (.long e), .second, .val (.long t), .second, .val (.int k), .val (.ref a2), .val (.ref a21), .val (.ref a39), .val (.int (1 : Int32)), .unset] []
          refine OwnKit.iconst K at_108 ?_
          show OwnKit.Go κ h59 4 15 109 #[.val (.int c), .val (.long f), .second, .val (.long e), .second, .val (.long t), .second, .val (.int k), .val (.ref a2), .val (.ref a21), .val (.ref a39), .val (.int (1 : Int32)), .unset] [.int (1 : Int32)]
          refine OwnKit.goto K at_109 (by decide) (pc' := 113) rfl ?_
          show OwnKit.Go κ h59 4 15 113 #[.val (.int c), .val (.long f), .second, .val (.long e), .second, .val (.long t), .second, .val (.int k), .val (.ref a2), .val (.ref a21), .val (.ref a39), .val (.int (1 : Int32)), .unset] [.int (1 : Int32)]
          refine OwnKit.istore K at_113 (l' := #[.val (.int c), .val (.long f), .second, .val (.long e), .second, .val (.long t), .second, .val (.int k), .val (.ref a2), .val (.ref a21), .val (.ref a39), .val (.int (1 : Int32)), .val (.int (1 : Int32))]) rfl ?_
          show OwnKit.Go κ h59 4 15 115 #[.val (.int c), .val (.long f), .second, .val (.long e), .second, .val (.long t), .second, .val (.int k), .val (.ref a2), .val (.ref a21), .val (.ref a39), .val (.int (1 : Int32)), .val (.int (1 : Int32))] []
          refine OwnKit.aload K at_115 rfl rfl ?_
          show OwnKit.Go κ h59 4 15 117 #[.val (.int c), .val (.long f), .second, .val (.long e), .second, .val (.long t), .second, .val (.int k), .val (.ref a2), .val (.ref a21), .val (.ref a39), .val (.int (1 : Int32)), .val (.int (1 : Int32))] [.ref a39]
          refine OwnKit.invV (y := (⟨"com/example/forelock/forelock/core/Holds$Hold", "enter", "()V"⟩ : MethodName)) (z := (⟨"com/example/forelock/forelock/core/Holds$Hold", "enter", "()V"⟩ : MethodName)) (argsL := []) (rest := []) K (c_enter l Z a0 hw n0 h59 a39 (2 : Int32) (by decide) E63 G41 F64) at_117 E63 (hw _ (List.mem_of_getElem? (i := 52) rfl)) (hw _ (List.mem_of_getElem? (i := 53) rfl)) (OwnKit.nfS (hw _ (List.mem_of_getElem? (i := 55) rfl))) (hw _ (List.mem_of_getElem? (i := 55) rfl)) (hw _ (List.mem_of_getElem? (i := 54) rfl)) (hw _ (List.mem_of_getElem? (i := 56) rfl)) (hw _ (List.mem_of_getElem? (i := 32) rfl)) (by decide) (lenOf (by decide +kernel : parseMethodDescriptor "()V" = some ⟨[], none⟩) rfl) rfl rfl (W := 0) (Nat.le_of_ble_eq_true rfl) (Nat.le_of_ble_eq_true rfl) (Nat.le_of_ble_eq_true rfl) (Nat.le_of_ble_eq_true rfl) (Nat.le_of_ble_eq_true rfl) ?_
          rintro _ h71 ⟨rfl, W73⟩ g72
          have E74 := E62.wr W73
          have E75 := E63.wr W73
          have F76 := Fld.same W73 F64
          have F77 := Fld.other W73 F65 (Or.inr (RoadKit.slot_ne (t := (.object "java/lang/String")) (t' := .int) (Or.inr (hw _ (List.mem_of_getElem? (i := 40) rfl))) (Or.inl (hw _ (List.mem_of_getElem? (i := 38) rfl))) (by decide) (by decide +kernel) (by decide +kernel)))
          have F78 := Fld.other W73 F66 (Or.inr (RoadKit.slot_ne (t := .long) (t' := .int) (Or.inr (hw _ (List.mem_of_getElem? (i := 42) rfl))) (Or.inl (hw _ (List.mem_of_getElem? (i := 38) rfl))) (by decide) (by decide +kernel) (by decide +kernel)))
          have F79 := Fld.other W73 F67 (Or.inr (RoadKit.slot_ne (t := .long) (t' := .int) (Or.inr (hw _ (List.mem_of_getElem? (i := 44) rfl))) (Or.inl (hw _ (List.mem_of_getElem? (i := 38) rfl))) (by decide) (by decide +kernel) (by decide +kernel)))
          show OwnKit.Go κ h71 4 15 120 #[.val (.int c), .val (.long f), .second, .val (.long e), .second, .val (.long t), .second, .val (.int k), .val (.ref a2), .val (.ref a21), .val (.ref a39), .val (.int (1 : Int32)), .val (.int (1 : Int32))] []
          refine OwnKit.iload K at_120 rfl ?_
          show OwnKit.Go κ h71 4 15 122 #[.val (.int c), .val (.long f), .second, .val (.long e), .second, .val (.long t), .second, .val (.int k), .val (.ref a2), .val (.ref a21), .val (.ref a39), .val (.int (1 : Int32)), .val (.int (1 : Int32))] [.int (1 : Int32)]
          refine OwnKit.ifeq K at_122 (by decide) (pc' := 141) rfl  (fun b80 => ?_) (fun b80 => ?_)
          · exact absurd b80 (by decide)
          · show OwnKit.Go κ h71 4 15 125 #[.val (.int c), .val (.long f), .second, .val (.long e), .second, .val (.long t), .second, .val (.int k), .val (.ref a2), .val (.ref a21), .val (.ref a39), .val (.int (1 : Int32)), .val (.int (1 : Int32))] []
            refine OwnKit.aload K at_125 rfl rfl ?_
            show OwnKit.Go κ h71 4 15 127 #[.val (.int c), .val (.long f), .second, .val (.long e), .second, .val (.long t), .second, .val (.int k), .val (.ref a2), .val (.ref a21), .val (.ref a39), .val (.int (1 : Int32)), .val (.int (1 : Int32))] [.ref a39]
            refine OwnKit.invV (y := (⟨"com/example/forelock/forelock/core/Holds$Hold", "count", "()I"⟩ : MethodName)) (z := (⟨"com/example/forelock/forelock/core/Holds$Hold", "count", "()I"⟩ : MethodName)) (argsL := []) (rest := []) K (c_count l Z a0 hw n0 h71 a39 (3 : Int32) E75 F76) at_127 E75 (hw _ (List.mem_of_getElem? (i := 58) rfl)) (hw _ (List.mem_of_getElem? (i := 59) rfl)) (OwnKit.nfS (hw _ (List.mem_of_getElem? (i := 61) rfl))) (hw _ (List.mem_of_getElem? (i := 61) rfl)) (hw _ (List.mem_of_getElem? (i := 60) rfl)) (hw _ (List.mem_of_getElem? (i := 62) rfl)) (hw _ (List.mem_of_getElem? (i := 32) rfl)) (by decide) (lenOf (by decide +kernel : parseMethodDescriptor "()I" = some ⟨[], some .int⟩) rfl) rfl rfl (W := 0) (Nat.le_of_ble_eq_true rfl) (Nat.le_of_ble_eq_true rfl) (Nat.le_of_ble_eq_true rfl) (Nat.le_of_ble_eq_true rfl) (Nat.le_of_ble_eq_true rfl) ?_
            rintro _ h81 ⟨rfl, rfl⟩ g82
            show OwnKit.Go κ h71 4 15 130 #[.val (.int c), .val (.long f), .second, .val (.long e), .second, .val (.long t), .second, .val (.int k), .val (.ref a2), .val (.ref a21), .val (.ref a39), .val (.int (1 : Int32)), .val (.int (1 : Int32))] [.int (3 : Int32)]
            refine OwnKit.iload K at_130 rfl ?_
            show OwnKit.Go κ h71 4 15 132 #[.val (.int c), .val (.long f), .second, .val (.long e), .second, .val (.long t), .second, .val (.int k), .val (.ref a2), .val (.ref a21), .val (.ref a39), .val (.int (1 : Int32)), .val (.int (1 : Int32))] [.int (1 : Int32), .int (3 : Int32)]
            refine OwnKit.iconst K at_132 ?_
            show OwnKit.Go κ h71 4 15 133 #[.val (.int c), .val (.long f), .second, .val (.long e), .second, .val (.long t), .second, .val (.int k), .val (.ref a2), .val (.ref a21), .val (.ref a39), .val (.int (1 : Int32)), .val (.int (1 : Int32))] [.int (2 : Int32), .int (1 : Int32), .int (3 : Int32)]
            refine OwnKit.iadd K at_133 ?_
            show OwnKit.Go κ h71 4 15 134 #[.val (.int c), .val (.long f), .second, .val (.long e), .second, .val (.long t), .second, .val (.int k), .val (.ref a2), .val (.ref a21), .val (.ref a39), .val (.int (1 : Int32)), .val (.int (1 : Int32))] [.int ((1 : Int32) + (2 : Int32)), .int (3 : Int32)]
            show OwnKit.Go κ h71 4 15 134 #[.val (.int c), .val (.long f), .second, .val (.long e), .second, .val (.long t), .second, .val (.int k), .val (.ref a2), .val (.ref a21), .val (.ref a39), .val (.int (1 : Int32)), .val (.int (1 : Int32))] [.int (3 : Int32), .int (3 : Int32)]
            refine OwnKit.icmpne K at_134 (by decide) (pc' := 141) rfl  (fun b83 => ?_) (fun b83 => ?_)
            · exact absurd b83 (by decide)
            · show OwnKit.Go κ h71 4 15 137 #[.val (.int c), .val (.long f), .second, .val (.long e), .second, .val (.long t), .second, .val (.int k), .val (.ref a2), .val (.ref a21), .val (.ref a39), .val (.int (1 : Int32)), .val (.int (1 : Int32))] []
              refine OwnKit.iconst K at_137 ?_
              show OwnKit.Go κ h71 4 15 138 #[.val (.int c), .val (.long f), .second, .val (.long e), .second, .val (.long t), .second, .val (.int k), .val (.ref a2), .val (.ref a21), .val (.ref a39), .val (.int (1 : Int32)), .val (.int (1 : Int32))] [.int (1 : Int32)]
              refine OwnKit.goto K at_138 (by decide) (pc' := 142) rfl ?_
              show OwnKit.Go κ h71 4 15 142 #[.val (.int c), .val (.long f), .second, .val (.long e), .second, .val (.long t), .second, .val (.int k), .val (.ref a2), .val (.ref a21), .val (.ref a39), .val (.int (1 : Int32)), .val (.int (1 : Int32))] [.int (1 : Int32)]
              refine OwnKit.istore K at_142 (l' := #[.val (.int c), .val (.long f), .second, .val (.long e), .second, .val (.long t), .second, .val (.int k), .val (.ref a2), .val (.ref a21), .val (.ref a39), .val (.int (1 : Int32)), .val (.int (1 : Int32))]) rfl ?_
              show OwnKit.Go κ h71 4 15 144 #[.val (.int c), .val (.long f), .second, .val (.long e), .second, .val (.long t), .second, .val (.int k), .val (.ref a2), .val (.ref a21), .val (.ref a39), .val (.int (1 : Int32)), .val (.int (1 : Int32))] []
              refine OwnKit.iload K at_144 rfl ?_
              show OwnKit.Go κ h71 4 15 146 #[.val (.int c), .val (.long f), .second, .val (.long e), .second, .val (.long t), .second, .val (.int k), .val (.ref a2), .val (.ref a21), .val (.ref a39), .val (.int (1 : Int32)), .val (.int (1 : Int32))] [.int (1 : Int32)]
              refine OwnKit.ifeq K at_146 (by decide) (pc' := 186) rfl  (fun b84 => ?_) (fun b84 => ?_)
              · exact absurd b84 (by decide)
              · show OwnKit.Go κ h71 4 15 149 #[.val (.int c), .val (.long f), .second, .val (.long e), .second, .val (.long t), .second, .val (.int k), .val (.ref a2), .val (.ref a21), .val (.ref a39), .val (.int (1 : Int32)), .val (.int (1 : Int32))] []
                refine OwnKit.aload K at_149 rfl rfl ?_
                show OwnKit.Go κ h71 4 15 151 #[.val (.int c), .val (.long f), .second, .val (.long e), .second, .val (.long t), .second, .val (.int k), .val (.ref a2), .val (.ref a21), .val (.ref a39), .val (.int (1 : Int32)), .val (.int (1 : Int32))] [.ref a39]
                refine OwnKit.invV (y := (⟨"com/example/forelock/forelock/core/Holds$Hold", "fencingToken", "()J"⟩ : MethodName)) (z := (⟨"com/example/forelock/forelock/core/Holds$Hold", "fencingToken", "()J"⟩ : MethodName)) (argsL := []) (rest := []) K (c_fencingToken l Z a0 hw n0 h71 a39 f E75 F78) at_151 E75 (hw _ (List.mem_of_getElem? (i := 63) rfl)) (hw _ (List.mem_of_getElem? (i := 64) rfl)) (OwnKit.nfS (hw _ (List.mem_of_getElem? (i := 66) rfl))) (hw _ (List.mem_of_getElem? (i := 66) rfl)) (hw _ (List.mem_of_getElem? (i := 65) rfl)) (hw _ (List.mem_of_getElem? (i := 67) rfl)) (hw _ (List.mem_of_getElem? (i := 32) rfl)) (by decide) (lenOf (by decide +kernel : parseMethodDescriptor "()J" = some ⟨[], some .long⟩) rfl) rfl rfl (W := 0) (Nat.le_of_ble_eq_true rfl) (Nat.le_of_ble_eq_true rfl) (Nat.le_of_ble_eq_true rfl) (Nat.le_of_ble_eq_true rfl) (Nat.le_of_ble_eq_true rfl) ?_
                rintro _ h85 ⟨rfl, rfl⟩ g86
                show OwnKit.Go κ h71 4 15 154 #[.val (.int c), .val (.long f), .second, .val (.long e), .second, .val (.long t), .second, .val (.int k), .val (.ref a2), .val (.ref a21), .val (.ref a39), .val (.int (1 : Int32)), .val (.int (1 : Int32))] [.long f]
                refine OwnKit.lloadN K at_154 rfl ?_
                show OwnKit.Go κ h71 4 15 155 #[.val (.int c), .val (.long f), .second, .val (.long e), .second, .val (.long t), .second, .val (.int k), .val (.ref a2), .val (.ref a21), .val (.ref a39), .val (.int (1 : Int32)), .val (.int (1 : Int32))] [.long f, .long f]
                refine OwnKit.lcmp K at_155 ?_
                show OwnKit.Go κ h71 4 15 156 #[.val (.int c), .val (.long f), .second, .val (.long e), .second, .val (.long t), .second, .val (.int k), .val (.ref a2), .val (.ref a21), .val (.ref a39), .val (.int (1 : Int32)), .val (.int (1 : Int32))] [.int (XT.cmpL f f)]
                refine OwnKit.ifne K at_156 (by decide) (pc' := 186) rfl  (fun b87 => ?_) (fun b87 => ?_)
                · exact absurd ((OwnKit.cmp_eq _ _).mpr rfl) b87
                · show OwnKit.Go κ h71 4 15 159 #[.val (.int c), .val (.long f), .second, .val (.long e), .second, .val (.long t), .second, .val (.int k), .val (.ref a2), .val (.ref a21), .val (.ref a39), .val (.int (1 : Int32)), .val (.int (1 : Int32))] []
                  refine OwnKit.aload K at_159 rfl rfl ?_
                  show OwnKit.Go κ h71 4 15 161 #[.val (.int c), .val (.long f), .second, .val (.long e), .second, .val (.long t), .second, .val (.int k), .val (.ref a2), .val (.ref a21), .val (.ref a39), .val (.int (1 : Int32)), .val (.int (1 : Int32))] [.ref a39]
                  refine OwnKit.invV (y := (⟨"com/example/forelock/forelock/core/Holds$Hold", "leaseNanos", "()J"⟩ : MethodName)) (z := (⟨"com/example/forelock/forelock/core/Holds$Hold", "leaseNanos", "()J"⟩ : MethodName)) (argsL := []) (rest := []) K (c_leaseNanos l Z a0 hw n0 h71 a39 e E75 F79) at_161 E75 (hw _ (List.mem_of_getElem? (i := 68) rfl)) (hw _ (List.mem_of_getElem? (i := 69) rfl)) (OwnKit.nfS (hw _ (List.mem_of_getElem? (i := 71) rfl))) (hw _ (List.mem_of_getElem? (i := 71) rfl)) (hw _ (List.mem_of_getElem? (i := 70) rfl)) (hw _ (List.mem_of_getElem? (i := 72) rfl)) (hw _ (List.mem_of_getElem? (i := 32) rfl)) (by decide) (lenOf (by decide +kernel : parseMethodDescriptor "()J" = some ⟨[], some .long⟩) rfl) rfl rfl (W := 0) (Nat.le_of_ble_eq_true rfl) (Nat.le_of_ble_eq_true rfl) (Nat.le_of_ble_eq_true rfl) (Nat.le_of_ble_eq_true rfl) (Nat.le_of_ble_eq_true rfl) ?_
                  rintro _ h88 ⟨rfl, rfl⟩ g89
                  show OwnKit.Go κ h71 4 15 164 #[.val (.int c), .val (.long f), .second, .val (.long e), .second, .val (.long t), .second, .val (.int k), .val (.ref a2), .val (.ref a21), .val (.ref a39), .val (.int (1 : Int32)), .val (.int (1 : Int32))] [.long e]
                  refine OwnKit.lloadN K at_164 rfl ?_
                  show OwnKit.Go κ h71 4 15 165 #[.val (.int c), .val (.long f), .second, .val (.long e), .second, .val (.long t), .second, .val (.int k), .val (.ref a2), .val (.ref a21), .val (.ref a39), .val (.int (1 : Int32)), .val (.int (1 : Int32))] [.long e, .long e]
                  refine OwnKit.lcmp K at_165 ?_
                  show OwnKit.Go κ h71 4 15 166 #[.val (.int c), .val (.long f), .second, .val (.long e), .second, .val (.long t), .second, .val (.int k), .val (.ref a2), .val (.ref a21), .val (.ref a39), .val (.int (1 : Int32)), .val (.int (1 : Int32))] [.int (XT.cmpL e e)]
                  refine OwnKit.ifne K at_166 (by decide) (pc' := 186) rfl  (fun b90 => ?_) (fun b90 => ?_)
                  · exact absurd ((OwnKit.cmp_eq _ _).mpr rfl) b90
                  · show OwnKit.Go κ h71 4 15 169 #[.val (.int c), .val (.long f), .second, .val (.long e), .second, .val (.long t), .second, .val (.int k), .val (.ref a2), .val (.ref a21), .val (.ref a39), .val (.int (1 : Int32)), .val (.int (1 : Int32))] []
                    refine OwnKit.aload K at_169 rfl rfl ?_
                    show OwnKit.Go κ h71 4 15 171 #[.val (.int c), .val (.long f), .second, .val (.long e), .second, .val (.long t), .second, .val (.int k), .val (.ref a2), .val (.ref a21), .val (.ref a39), .val (.int (1 : Int32)), .val (.int (1 : Int32))] [.ref a39]
                    refine OwnKit.invV (y := (⟨"com/example/forelock/forelock/core/Holds$Hold", "ownerToken", "()Ljava/lang/String;"⟩ : MethodName)) (z := (⟨"com/example/forelock/forelock/core/Holds$Hold", "ownerToken", "()Ljava/lang/String;"⟩ : MethodName)) (argsL := []) (rest := []) K (c_ownerToken l Z a0 hw n0 h71 a39 a21 E75 F77) at_171 E75 (hw _ (List.mem_of_getElem? (i := 73) rfl)) (hw _ (List.mem_of_getElem? (i := 74) rfl)) (OwnKit.nfS (hw _ (List.mem_of_getElem? (i := 76) rfl))) (hw _ (List.mem_of_getElem? (i := 76) rfl)) (hw _ (List.mem_of_getElem? (i := 75) rfl)) (hw _ (List.mem_of_getElem? (i := 77) rfl)) (hw _ (List.mem_of_getElem? (i := 32) rfl)) (by decide) (lenOf (by decide +kernel : parseMethodDescriptor "()Ljava/lang/String;" = some ⟨[], some (.object "java/lang/String")⟩) rfl) rfl rfl (W := 0) (Nat.le_of_ble_eq_true rfl) (Nat.le_of_ble_eq_true rfl) (Nat.le_of_ble_eq_true rfl) (Nat.le_of_ble_eq_true rfl) (Nat.le_of_ble_eq_true rfl) ?_
                    rintro _ h91 ⟨rfl, rfl⟩ g92
                    show OwnKit.Go κ h71 4 15 174 #[.val (.int c), .val (.long f), .second, .val (.long e), .second, .val (.long t), .second, .val (.int k), .val (.ref a2), .val (.ref a21), .val (.ref a39), .val (.int (1 : Int32)), .val (.int (1 : Int32))] [.ref a21]
                    refine OwnKit.aload K at_174 rfl rfl ?_
                    show OwnKit.Go κ h71 4 15 176 #[.val (.int c), .val (.long f), .second, .val (.long e), .second, .val (.long t), .second, .val (.int k), .val (.ref a2), .val (.ref a21), .val (.ref a39), .val (.int (1 : Int32)), .val (.int (1 : Int32))] [.ref a21, .ref a21]
                    refine OwnKit.invV (y := (⟨"java/lang/String", "equals", "(Ljava/lang/Object;)Z"⟩ : MethodName)) (z := (⟨"java/lang/String", "equals", "(Ljava/lang/Object;)Z"⟩ : MethodName)) (argsL := [.ref a21]) (rest := []) K (c_eq l Z a0 hw n0 h71 a21) at_176 E74 (hw _ (List.mem_of_getElem? (i := 78) rfl)) (hw _ (List.mem_of_getElem? (i := 79) rfl)) (OwnKit.nfS (hw _ (List.mem_of_getElem? (i := 81) rfl))) (hw _ (List.mem_of_getElem? (i := 81) rfl)) (hw _ (List.mem_of_getElem? (i := 80) rfl)) (hw _ (List.mem_of_getElem? (i := 82) rfl)) (hw _ (List.mem_of_getElem? (i := 3) rfl)) (by decide) (lenOf (by decide +kernel : parseMethodDescriptor "(Ljava/lang/Object;)Z" = some ⟨[(.object "java/lang/Object")], some .boolean⟩) rfl) rfl rfl (W := 0) (Nat.le_of_ble_eq_true rfl) (Nat.le_of_ble_eq_true rfl) (Nat.le_of_ble_eq_true rfl) (Nat.le_of_ble_eq_true rfl) (Nat.le_of_ble_eq_true rfl) ?_
                    rintro _ h93 ⟨rfl, rfl⟩ g94
                    show OwnKit.Go κ h71 4 15 179 #[.val (.int c), .val (.long f), .second, .val (.long e), .second, .val (.long t), .second, .val (.int k), .val (.ref a2), .val (.ref a21), .val (.ref a39), .val (.int (1 : Int32)), .val (.int (1 : Int32))] [.int (1 : Int32)]
                    refine OwnKit.ifeq K at_179 (by decide) (pc' := 186) rfl  (fun b95 => ?_) (fun b95 => ?_)
                    · exact absurd b95 (by decide)
                    · show OwnKit.Go κ h71 4 15 182 #[.val (.int c), .val (.long f), .second, .val (.long e), .second, .val (.long t), .second, .val (.int k), .val (.ref a2), .val (.ref a21), .val (.ref a39), .val (.int (1 : Int32)), .val (.int (1 : Int32))] []
                      refine OwnKit.iconst K at_182 ?_
                      show OwnKit.Go κ h71 4 15 183 #[.val (.int c), .val (.long f), .second, .val (.long e), .second, .val (.long t), .second, .val (.int k), .val (.ref a2), .val (.ref a21), .val (.ref a39), .val (.int (1 : Int32)), .val (.int (1 : Int32))] [.int (1 : Int32)]
                      refine OwnKit.goto K at_183 (by decide) (pc' := 187) rfl ?_
                      show OwnKit.Go κ h71 4 15 187 #[.val (.int c), .val (.long f), .second, .val (.long e), .second, .val (.long t), .second, .val (.int k), .val (.ref a2), .val (.ref a21), .val (.ref a39), .val (.int (1 : Int32)), .val (.int (1 : Int32))] [.int (1 : Int32)]
                      refine OwnKit.ireturn K at_187 (Or.inr (Or.inl rfl)) rfl ?_ (Nat.le_of_ble_eq_true rfl) (Nat.le_of_ble_eq_true rfl)
                      exact rfl
      · show OwnKit.Go κ h53 4 15 80 #[.val (.int c), .val (.long f), .second, .val (.long e), .second, .val (.long t), .second, .val (.int k), .val (.ref a2), .val (.ref a21), .val (.ref a39), .val (.int (1 : Int32)), .unset] []
        refine OwnKit.aload K at_80 rfl rfl ?_
        show OwnKit.Go κ h53 4 15 82 #[.val (.int c), .val (.long f), .second, .val (.long e), .second, .val (.long t), .second, .val (.int k), .val (.ref a2), .val (.ref a21), .val (.ref a39), .val (.int (1 : Int32)), .unset] [.ref a39]
        refine OwnKit.invV (y := (⟨"com/example/forelock/forelock/core/Holds$Hold", "exit", "()V"⟩ : MethodName)) (z := (⟨"com/example/forelock/forelock/core/Holds$Hold", "exit", "()V"⟩ : MethodName)) (argsL := []) (rest := []) K (c_exit l Z a0 hw n0 h53 a39 (1 : Int32) Eh G41 Fc) at_82 Eh (hw _ (List.mem_of_getElem? (i := 47) rfl)) (hw _ (List.mem_of_getElem? (i := 48) rfl)) (OwnKit.nfS (hw _ (List.mem_of_getElem? (i := 50) rfl))) (hw _ (List.mem_of_getElem? (i := 50) rfl)) (hw _ (List.mem_of_getElem? (i := 49) rfl)) (hw _ (List.mem_of_getElem? (i := 51) rfl)) (hw _ (List.mem_of_getElem? (i := 32) rfl)) (by decide) (lenOf (by decide +kernel : parseMethodDescriptor "()V" = some ⟨[], none⟩) rfl) rfl rfl (W := 0) (Nat.le_of_ble_eq_true rfl) (Nat.le_of_ble_eq_true rfl) (Nat.le_of_ble_eq_true rfl) (Nat.le_of_ble_eq_true rfl) (Nat.le_of_ble_eq_true rfl) ?_
        rintro _ h96 ⟨rfl, W98⟩ g97
        have E99 := E55.wr W98
        have E100 := Eh.wr W98
        have F101 := Fld.same W98 Fc
        have F102 := Fld.other W98 Fo (Or.inr (RoadKit.slot_ne (t := (.object "java/lang/String")) (t' := .int) (Or.inr (hw _ (List.mem_of_getElem? (i := 40) rfl))) (Or.inl (hw _ (List.mem_of_getElem? (i := 38) rfl))) (by decide) (by decide +kernel) (by decide +kernel)))
        have F103 := Fld.other W98 Ff (Or.inr (RoadKit.slot_ne (t := .long) (t' := .int) (Or.inr (hw _ (List.mem_of_getElem? (i := 42) rfl))) (Or.inl (hw _ (List.mem_of_getElem? (i := 38) rfl))) (by decide) (by decide +kernel) (by decide +kernel)))
        have F104 := Fld.other W98 Fl (Or.inr (RoadKit.slot_ne (t := .long) (t' := .int) (Or.inr (hw _ (List.mem_of_getElem? (i := 44) rfl))) (Or.inl (hw _ (List.mem_of_getElem? (i := 38) rfl))) (by decide) (by decide +kernel) (by decide +kernel)))
        show OwnKit.Go κ h96 4 15 85 #[.val (.int c), .val (.long f), .second, .val (.long e), .second, .val (.long t), .second, .val (.int k), .val (.ref a2), .val (.ref a21), .val (.ref a39), .val (.int (1 : Int32)), .unset] []
        refine OwnKit.iload K at_85 rfl ?_
        show OwnKit.Go κ h96 4 15 87 #[.val (.int c), .val (.long f), .second, .val (.long e), .second, .val (.long t), .second, .val (.int k), .val (.ref a2), .val (.ref a21), .val (.ref a39), .val (.int (1 : Int32)), .unset] [.int (1 : Int32)]
        refine OwnKit.iconst K at_87 ?_
        show OwnKit.Go κ h96 4 15 88 #[.val (.int c), .val (.long f), .second, .val (.long e), .second, .val (.long t), .second, .val (.int k), .val (.ref a2), .val (.ref a21), .val (.ref a39), .val (.int (1 : Int32)), .unset] [.int (1 : Int32), .int (1 : Int32)]
        refine OwnKit.isub K at_88 ?_
        show OwnKit.Go κ h96 4 15 89 #[.val (.int c), .val (.long f), .second, .val (.long e), .second, .val (.long t), .second, .val (.int k), .val (.ref a2), .val (.ref a21), .val (.ref a39), .val (.int (1 : Int32)), .unset] [.int ((1 : Int32) - (1 : Int32))]
        show OwnKit.Go κ h96 4 15 89 #[.val (.int c), .val (.long f), .second, .val (.long e), .second, .val (.long t), .second, .val (.int k), .val (.ref a2), .val (.ref a21), .val (.ref a39), .val (.int (1 : Int32)), .unset] [.int (0 : Int32)]
        refine OwnKit.istore K at_89 (l' := #[.val (.int c), .val (.long f), .second, .val (.long e), .second, .val (.long t), .second, .val (.int k), .val (.ref a2), .val (.ref a21), .val (.ref a39), .val (.int (0 : Int32)), .unset]) rfl ?_
        show OwnKit.Go κ h96 4 15 91 #[.val (.int c), .val (.long f), .second, .val (.long e), .second, .val (.long t), .second, .val (.int k), .val (.ref a2), .val (.ref a21), .val (.ref a39), .val (.int (0 : Int32)), .unset] []
        refine OwnKit.aload K at_91 rfl rfl ?_
        show OwnKit.Go κ h96 4 15 93 #[.val (.int c), .val (.long f), .second, .val (.long e), .second, .val (.long t), .second, .val (.int k), .val (.ref a2), .val (.ref a21), .val (.ref a39), .val (.int (0 : Int32)), .unset] [.ref a39]
        refine OwnKit.invV (y := (⟨"com/example/forelock/forelock/core/Holds$Hold", "enter", "()V"⟩ : MethodName)) (z := (⟨"com/example/forelock/forelock/core/Holds$Hold", "enter", "()V"⟩ : MethodName)) (argsL := []) (rest := []) K (c_enter l Z a0 hw n0 h96 a39 (0 : Int32) (by decide) E100 G41 F101) at_93 E100 (hw _ (List.mem_of_getElem? (i := 52) rfl)) (hw _ (List.mem_of_getElem? (i := 53) rfl)) (OwnKit.nfS (hw _ (List.mem_of_getElem? (i := 55) rfl))) (hw _ (List.mem_of_getElem? (i := 55) rfl)) (hw _ (List.mem_of_getElem? (i := 54) rfl)) (hw _ (List.mem_of_getElem? (i := 56) rfl)) (hw _ (List.mem_of_getElem? (i := 32) rfl)) (by decide) (lenOf (by decide +kernel : parseMethodDescriptor "()V" = some ⟨[], none⟩) rfl) rfl rfl (W := 0) (Nat.le_of_ble_eq_true rfl) (Nat.le_of_ble_eq_true rfl) (Nat.le_of_ble_eq_true rfl) (Nat.le_of_ble_eq_true rfl) (Nat.le_of_ble_eq_true rfl) ?_
        rintro _ h105 ⟨rfl, W107⟩ g106
        have E108 := E99.wr W107
        have E109 := E100.wr W107
        have F110 := Fld.same W107 F101
        have F111 := Fld.other W107 F102 (Or.inr (RoadKit.slot_ne (t := (.object "java/lang/String")) (t' := .int) (Or.inr (hw _ (List.mem_of_getElem? (i := 40) rfl))) (Or.inl (hw _ (List.mem_of_getElem? (i := 38) rfl))) (by decide) (by decide +kernel) (by decide +kernel)))
        have F112 := Fld.other W107 F103 (Or.inr (RoadKit.slot_ne (t := .long) (t' := .int) (Or.inr (hw _ (List.mem_of_getElem? (i := 42) rfl))) (Or.inl (hw _ (List.mem_of_getElem? (i := 38) rfl))) (by decide) (by decide +kernel) (by decide +kernel)))
        have F113 := Fld.other W107 F104 (Or.inr (RoadKit.slot_ne (t := .long) (t' := .int) (Or.inr (hw _ (List.mem_of_getElem? (i := 44) rfl))) (Or.inl (hw _ (List.mem_of_getElem? (i := 38) rfl))) (by decide) (by decide +kernel) (by decide +kernel)))
        show OwnKit.Go κ h105 4 15 96 #[.val (.int c), .val (.long f), .second, .val (.long e), .second, .val (.long t), .second, .val (.int k), .val (.ref a2), .val (.ref a21), .val (.ref a39), .val (.int (0 : Int32)), .unset] []
        refine OwnKit.aload K at_96 rfl rfl ?_
        show OwnKit.Go κ h105 4 15 98 #[.val (.int c), .val (.long f), .second, .val (.long e), .second, .val (.long t), .second, .val (.int k), .val (.ref a2), .val (.ref a21), .val (.ref a39), .val (.int (0 : Int32)), .unset] [.ref a39]
        refine OwnKit.invV (y := (⟨"com/example/forelock/forelock/core/Holds$Hold", "count", "()I"⟩ : MethodName)) (z := (⟨"com/example/forelock/forelock/core/Holds$Hold", "count", "()I"⟩ : MethodName)) (argsL := []) (rest := []) K (c_count l Z a0 hw n0 h105 a39 (1 : Int32) E109 F110) at_98 E109 (hw _ (List.mem_of_getElem? (i := 58) rfl)) (hw _ (List.mem_of_getElem? (i := 59) rfl)) (OwnKit.nfS (hw _ (List.mem_of_getElem? (i := 61) rfl))) (hw _ (List.mem_of_getElem? (i := 61) rfl)) (hw _ (List.mem_of_getElem? (i := 60) rfl)) (hw _ (List.mem_of_getElem? (i := 62) rfl)) (hw _ (List.mem_of_getElem? (i := 32) rfl)) (by decide) (lenOf (by decide +kernel : parseMethodDescriptor "()I" = some ⟨[], some .int⟩) rfl) rfl rfl (W := 0) (Nat.le_of_ble_eq_true rfl) (Nat.le_of_ble_eq_true rfl) (Nat.le_of_ble_eq_true rfl) (Nat.le_of_ble_eq_true rfl) (Nat.le_of_ble_eq_true rfl) ?_
        rintro _ h114 ⟨rfl, rfl⟩ g115
        show OwnKit.Go κ h105 4 15 101 #[.val (.int c), .val (.long f), .second, .val (.long e), .second, .val (.long t), .second, .val (.int k), .val (.ref a2), .val (.ref a21), .val (.ref a39), .val (.int (0 : Int32)), .unset] [.int (1 : Int32)]
        refine OwnKit.iload K at_101 rfl ?_
        show OwnKit.Go κ h105 4 15 103 #[.val (.int c), .val (.long f), .second, .val (.long e), .second, .val (.long t), .second, .val (.int k), .val (.ref a2), .val (.ref a21), .val (.ref a39), .val (.int (0 : Int32)), .unset] [.int (0 : Int32), .int (1 : Int32)]
        refine OwnKit.iconst K at_103 ?_
        show OwnKit.Go κ h105 4 15 104 #[.val (.int c), .val (.long f), .second, .val (.long e), .second, .val (.long t), .second, .val (.int k), .val (.ref a2), .val (.ref a21), .val (.ref a39), .val (.int (0 : Int32)), .unset] [.int (1 : Int32), .int (0 : Int32), .int (1 : Int32)]
        refine OwnKit.iadd K at_104 ?_
        show OwnKit.Go κ h105 4 15 105 #[.val (.int c), .val (.long f), .second, .val (.long e), .second, .val (.long t), .second, .val (.int k), .val (.ref a2), .val (.ref a21), .val (.ref a39), .val (.int (0 : Int32)), .unset] [.int ((0 : Int32) + (1 : Int32)), .int (1 : Int32)]
        show OwnKit.Go κ h105 4 15 105 #[.val (.int c), .val (.long f), .second, .val (.long e), .second, .val (.long t), .second, .val (.int k), .val (.ref a2), .val (.ref a21), .val (.ref a39), .val (.int (0 : Int32)), .unset] [.int (1 : Int32), .int (1 : Int32)]
        refine OwnKit.icmpne K at_105 (by decide) (pc' := 112) rfl  (fun b116 => ?_) (fun b116 => ?_)
        · exact absurd b116 (by decide)
        · show OwnKit.Go κ h105 4 15 108 #[.val (.int c), .val (.long f), .second, .val (.long e), .second, .val (.long t), .second, .val (.int k), .val (.ref a2), .val (.ref a21), .val (.ref a39), .val (.int (0 : Int32)), .unset] []
          refine OwnKit.iconst K at_108 ?_
          show OwnKit.Go κ h105 4 15 109 #[.val (.int c), .val (.long f), .second, .val (.long e), .second, .val (.long t), .second, .val (.int k), .val (.ref a2), .val (.ref a21), .val (.ref a39), .val (.int (0 : Int32)), .unset] [.int (1 : Int32)]
          refine OwnKit.goto K at_109 (by decide) (pc' := 113) rfl ?_
          show OwnKit.Go κ h105 4 15 113 #[.val (.int c), .val (.long f), .second, .val (.long e), .second, .val (.long t), .second, .val (.int k), .val (.ref a2), .val (.ref a21), .val (.ref a39), .val (.int (0 : Int32)), .unset] [.int (1 : Int32)]
          refine OwnKit.istore K at_113 (l' := #[.val (.int c), .val (.long f), .second, .val (.long e), .second, .val (.long t), .second, .val (.int k), .val (.ref a2), .val (.ref a21), .val (.ref a39), .val (.int (0 : Int32)), .val (.int (1 : Int32))]) rfl ?_
          show OwnKit.Go κ h105 4 15 115 #[.val (.int c), .val (.long f), .second, .val (.long e), .second, .val (.long t), .second, .val (.int k), .val (.ref a2), .val (.ref a21), .val (.ref a39), .val (.int (0 : Int32)), .val (.int (1 : Int32))] []
          refine OwnKit.aload K at_115 rfl rfl ?_
          show OwnKit.Go κ h105 4 15 117 #[.val (.int c), .val (.long f), .second, .val (.long e), .second, .val (.long t), .second, .val (.int k), .val (.ref a2), .val (.ref a21), .val (.ref a39), .val (.int (0 : Int32)), .val (.int (1 : Int32))] [.ref a39]
          refine OwnKit.invV (y := (⟨"com/example/forelock/forelock/core/Holds$Hold", "enter", "()V"⟩ : MethodName)) (z := (⟨"com/example/forelock/forelock/core/Holds$Hold", "enter", "()V"⟩ : MethodName)) (argsL := []) (rest := []) K (c_enter l Z a0 hw n0 h105 a39 (1 : Int32) (by decide) E109 G41 F110) at_117 E109 (hw _ (List.mem_of_getElem? (i := 52) rfl)) (hw _ (List.mem_of_getElem? (i := 53) rfl)) (OwnKit.nfS (hw _ (List.mem_of_getElem? (i := 55) rfl))) (hw _ (List.mem_of_getElem? (i := 55) rfl)) (hw _ (List.mem_of_getElem? (i := 54) rfl)) (hw _ (List.mem_of_getElem? (i := 56) rfl)) (hw _ (List.mem_of_getElem? (i := 32) rfl)) (by decide) (lenOf (by decide +kernel : parseMethodDescriptor "()V" = some ⟨[], none⟩) rfl) rfl rfl (W := 0) (Nat.le_of_ble_eq_true rfl) (Nat.le_of_ble_eq_true rfl) (Nat.le_of_ble_eq_true rfl) (Nat.le_of_ble_eq_true rfl) (Nat.le_of_ble_eq_true rfl) ?_
          rintro _ h117 ⟨rfl, W119⟩ g118
          have E120 := E108.wr W119
          have E121 := E109.wr W119
          have F122 := Fld.same W119 F110
          have F123 := Fld.other W119 F111 (Or.inr (RoadKit.slot_ne (t := (.object "java/lang/String")) (t' := .int) (Or.inr (hw _ (List.mem_of_getElem? (i := 40) rfl))) (Or.inl (hw _ (List.mem_of_getElem? (i := 38) rfl))) (by decide) (by decide +kernel) (by decide +kernel)))
          have F124 := Fld.other W119 F112 (Or.inr (RoadKit.slot_ne (t := .long) (t' := .int) (Or.inr (hw _ (List.mem_of_getElem? (i := 42) rfl))) (Or.inl (hw _ (List.mem_of_getElem? (i := 38) rfl))) (by decide) (by decide +kernel) (by decide +kernel)))
          have F125 := Fld.other W119 F113 (Or.inr (RoadKit.slot_ne (t := .long) (t' := .int) (Or.inr (hw _ (List.mem_of_getElem? (i := 44) rfl))) (Or.inl (hw _ (List.mem_of_getElem? (i := 38) rfl))) (by decide) (by decide +kernel) (by decide +kernel)))
          show OwnKit.Go κ h117 4 15 120 #[.val (.int c), .val (.long f), .second, .val (.long e), .second, .val (.long t), .second, .val (.int k), .val (.ref a2), .val (.ref a21), .val (.ref a39), .val (.int (0 : Int32)), .val (.int (1 : Int32))] []
          refine OwnKit.iload K at_120 rfl ?_
          show OwnKit.Go κ h117 4 15 122 #[.val (.int c), .val (.long f), .second, .val (.long e), .second, .val (.long t), .second, .val (.int k), .val (.ref a2), .val (.ref a21), .val (.ref a39), .val (.int (0 : Int32)), .val (.int (1 : Int32))] [.int (1 : Int32)]
          refine OwnKit.ifeq K at_122 (by decide) (pc' := 141) rfl  (fun b126 => ?_) (fun b126 => ?_)
          · exact absurd b126 (by decide)
          · show OwnKit.Go κ h117 4 15 125 #[.val (.int c), .val (.long f), .second, .val (.long e), .second, .val (.long t), .second, .val (.int k), .val (.ref a2), .val (.ref a21), .val (.ref a39), .val (.int (0 : Int32)), .val (.int (1 : Int32))] []
            refine OwnKit.aload K at_125 rfl rfl ?_
            show OwnKit.Go κ h117 4 15 127 #[.val (.int c), .val (.long f), .second, .val (.long e), .second, .val (.long t), .second, .val (.int k), .val (.ref a2), .val (.ref a21), .val (.ref a39), .val (.int (0 : Int32)), .val (.int (1 : Int32))] [.ref a39]
            refine OwnKit.invV (y := (⟨"com/example/forelock/forelock/core/Holds$Hold", "count", "()I"⟩ : MethodName)) (z := (⟨"com/example/forelock/forelock/core/Holds$Hold", "count", "()I"⟩ : MethodName)) (argsL := []) (rest := []) K (c_count l Z a0 hw n0 h117 a39 (2 : Int32) E121 F122) at_127 E121 (hw _ (List.mem_of_getElem? (i := 58) rfl)) (hw _ (List.mem_of_getElem? (i := 59) rfl)) (OwnKit.nfS (hw _ (List.mem_of_getElem? (i := 61) rfl))) (hw _ (List.mem_of_getElem? (i := 61) rfl)) (hw _ (List.mem_of_getElem? (i := 60) rfl)) (hw _ (List.mem_of_getElem? (i := 62) rfl)) (hw _ (List.mem_of_getElem? (i := 32) rfl)) (by decide) (lenOf (by decide +kernel : parseMethodDescriptor "()I" = some ⟨[], some .int⟩) rfl) rfl rfl (W := 0) (Nat.le_of_ble_eq_true rfl) (Nat.le_of_ble_eq_true rfl) (Nat.le_of_ble_eq_true rfl) (Nat.le_of_ble_eq_true rfl) (Nat.le_of_ble_eq_true rfl) ?_
            rintro _ h127 ⟨rfl, rfl⟩ g128
            show OwnKit.Go κ h117 4 15 130 #[.val (.int c), .val (.long f), .second, .val (.long e), .second, .val (.long t), .second, .val (.int k), .val (.ref a2), .val (.ref a21), .val (.ref a39), .val (.int (0 : Int32)), .val (.int (1 : Int32))] [.int (2 : Int32)]
            refine OwnKit.iload K at_130 rfl ?_
            show OwnKit.Go κ h117 4 15 132 #[.val (.int c), .val (.long f), .second, .val (.long e), .second, .val (.long t), .second, .val (.int k), .val (.ref a2), .val (.ref a21), .val (.ref a39), .val (.int (0 : Int32)), .val (.int (1 : Int32))] [.int (0 : Int32), .int (2 : Int32)]
            refine OwnKit.iconst K at_132 ?_
            show OwnKit.Go κ h117 4 15 133 #[.val (.int c), .val (.long f), .second, .val (.long e), .second, .val (.long t), .second, .val (.int k), .val (.ref a2), .val (.ref a21), .val (.ref a39), .val (.int (0 : Int32)), .val (.int (1 : Int32))] [.int (2 : Int32), .int (0 : Int32), .int (2 : Int32)]
            refine OwnKit.iadd K at_133 ?_
            show OwnKit.Go κ h117 4 15 134 #[.val (.int c), .val (.long f), .second, .val (.long e), .second, .val (.long t), .second, .val (.int k), .val (.ref a2), .val (.ref a21), .val (.ref a39), .val (.int (0 : Int32)), .val (.int (1 : Int32))] [.int ((0 : Int32) + (2 : Int32)), .int (2 : Int32)]
            show OwnKit.Go κ h117 4 15 134 #[.val (.int c), .val (.long f), .second, .val (.long e), .second, .val (.long t), .second, .val (.int k), .val (.ref a2), .val (.ref a21), .val (.ref a39), .val (.int (0 : Int32)), .val (.int (1 : Int32))] [.int (2 : Int32), .int (2 : Int32)]
            refine OwnKit.icmpne K at_134 (by decide) (pc' := 141) rfl  (fun b129 => ?_) (fun b129 => ?_)
            · exact absurd b129 (by decide)
            · show OwnKit.Go κ h117 4 15 137 #[.val (.int c), .val (.long f), .second, .val (.long e), .second, .val (.long t), .second, .val (.int k), .val (.ref a2), .val (.ref a21), .val (.ref a39), .val (.int (0 : Int32)), .val (.int (1 : Int32))] []
              refine OwnKit.iconst K at_137 ?_
              show OwnKit.Go κ h117 4 15 138 #[.val (.int c), .val (.long f), .second, .val (.long e), .second, .val (.long t), .second, .val (.int k), .val (.ref a2), .val (.ref a21), .val (.ref a39), .val (.int (0 : Int32)), .val (.int (1 : Int32))] [.int (1 : Int32)]
              refine OwnKit.goto K at_138 (by decide) (pc' := 142) rfl ?_
              show OwnKit.Go κ h117 4 15 142 #[.val (.int c), .val (.long f), .second, .val (.long e), .second, .val (.long t), .second, .val (.int k), .val (.ref a2), .val (.ref a21), .val (.ref a39), .val (.int (0 : Int32)), .val (.int (1 : Int32))] [.int (1 : Int32)]
              refine OwnKit.istore K at_142 (l' := #[.val (.int c), .val (.long f), .second, .val (.long e), .second, .val (.long t), .second, .val (.int k), .val (.ref a2), .val (.ref a21), .val (.ref a39), .val (.int (0 : Int32)), .val (.int (1 : Int32))]) rfl ?_
              show OwnKit.Go κ h117 4 15 144 #[.val (.int c), .val (.long f), .second, .val (.long e), .second, .val (.long t), .second, .val (.int k), .val (.ref a2), .val (.ref a21), .val (.ref a39), .val (.int (0 : Int32)), .val (.int (1 : Int32))] []
              refine OwnKit.iload K at_144 rfl ?_
              show OwnKit.Go κ h117 4 15 146 #[.val (.int c), .val (.long f), .second, .val (.long e), .second, .val (.long t), .second, .val (.int k), .val (.ref a2), .val (.ref a21), .val (.ref a39), .val (.int (0 : Int32)), .val (.int (1 : Int32))] [.int (1 : Int32)]
              refine OwnKit.ifeq K at_146 (by decide) (pc' := 186) rfl  (fun b130 => ?_) (fun b130 => ?_)
              · exact absurd b130 (by decide)
              · show OwnKit.Go κ h117 4 15 149 #[.val (.int c), .val (.long f), .second, .val (.long e), .second, .val (.long t), .second, .val (.int k), .val (.ref a2), .val (.ref a21), .val (.ref a39), .val (.int (0 : Int32)), .val (.int (1 : Int32))] []
                refine OwnKit.aload K at_149 rfl rfl ?_
                show OwnKit.Go κ h117 4 15 151 #[.val (.int c), .val (.long f), .second, .val (.long e), .second, .val (.long t), .second, .val (.int k), .val (.ref a2), .val (.ref a21), .val (.ref a39), .val (.int (0 : Int32)), .val (.int (1 : Int32))] [.ref a39]
                refine OwnKit.invV (y := (⟨"com/example/forelock/forelock/core/Holds$Hold", "fencingToken", "()J"⟩ : MethodName)) (z := (⟨"com/example/forelock/forelock/core/Holds$Hold", "fencingToken", "()J"⟩ : MethodName)) (argsL := []) (rest := []) K (c_fencingToken l Z a0 hw n0 h117 a39 f E121 F124) at_151 E121 (hw _ (List.mem_of_getElem? (i := 63) rfl)) (hw _ (List.mem_of_getElem? (i := 64) rfl)) (OwnKit.nfS (hw _ (List.mem_of_getElem? (i := 66) rfl))) (hw _ (List.mem_of_getElem? (i := 66) rfl)) (hw _ (List.mem_of_getElem? (i := 65) rfl)) (hw _ (List.mem_of_getElem? (i := 67) rfl)) (hw _ (List.mem_of_getElem? (i := 32) rfl)) (by decide) (lenOf (by decide +kernel : parseMethodDescriptor "()J" = some ⟨[], some .long⟩) rfl) rfl rfl (W := 0) (Nat.le_of_ble_eq_true rfl) (Nat.le_of_ble_eq_true rfl) (Nat.le_of_ble_eq_true rfl) (Nat.le_of_ble_eq_true rfl) (Nat.le_of_ble_eq_true rfl) ?_
                rintro _ h131 ⟨rfl, rfl⟩ g132
                show OwnKit.Go κ h117 4 15 154 #[.val (.int c), .val (.long f), .second, .val (.long e), .second, .val (.long t), .second, .val (.int k), .val (.ref a2), .val (.ref a21), .val (.ref a39), .val (.int (0 : Int32)), .val (.int (1 : Int32))] [.long f]
                refine OwnKit.lloadN K at_154 rfl ?_
                show OwnKit.Go κ h117 4 15 155 #[.val (.int c), .val (.long f), .second, .val (.long e), .second, .val (.long t), .second, .val (.int k), .val (.ref a2), .val (.ref a21), .val (.ref a39), .val (.int (0 : Int32)), .val (.int (1 : Int32))] [.long f, .long f]
                refine OwnKit.lcmp K at_155 ?_
                show OwnKit.Go κ h117 4 15 156 #[.val (.int c), .val (.long f), .second, .val (.long e), .second, .val (.long t), .second, .val (.int k), .val (.ref a2), .val (.ref a21), .val (.ref a39), .val (.int (0 : Int32)), .val (.int (1 : Int32))] [.int (XT.cmpL f f)]
                refine OwnKit.ifne K at_156 (by decide) (pc' := 186) rfl  (fun b133 => ?_) (fun b133 => ?_)
                · exact absurd ((OwnKit.cmp_eq _ _).mpr rfl) b133
                · show OwnKit.Go κ h117 4 15 159 #[.val (.int c), .val (.long f), .second, .val (.long e), .second, .val (.long t), .second, .val (.int k), .val (.ref a2), .val (.ref a21), .val (.ref a39), .val (.int (0 : Int32)), .val (.int (1 : Int32))] []
                  refine OwnKit.aload K at_159 rfl rfl ?_
                  show OwnKit.Go κ h117 4 15 161 #[.val (.int c), .val (.long f), .second, .val (.long e), .second, .val (.long t), .second, .val (.int k), .val (.ref a2), .val (.ref a21), .val (.ref a39), .val (.int (0 : Int32)), .val (.int (1 : Int32))] [.ref a39]
                  refine OwnKit.invV (y := (⟨"com/example/forelock/forelock/core/Holds$Hold", "leaseNanos", "()J"⟩ : MethodName)) (z := (⟨"com/example/forelock/forelock/core/Holds$Hold", "leaseNanos", "()J"⟩ : MethodName)) (argsL := []) (rest := []) K (c_leaseNanos l Z a0 hw n0 h117 a39 e E121 F125) at_161 E121 (hw _ (List.mem_of_getElem? (i := 68) rfl)) (hw _ (List.mem_of_getElem? (i := 69) rfl)) (OwnKit.nfS (hw _ (List.mem_of_getElem? (i := 71) rfl))) (hw _ (List.mem_of_getElem? (i := 71) rfl)) (hw _ (List.mem_of_getElem? (i := 70) rfl)) (hw _ (List.mem_of_getElem? (i := 72) rfl)) (hw _ (List.mem_of_getElem? (i := 32) rfl)) (by decide) (lenOf (by decide +kernel : parseMethodDescriptor "()J" = some ⟨[], some .long⟩) rfl) rfl rfl (W := 0) (Nat.le_of_ble_eq_true rfl) (Nat.le_of_ble_eq_true rfl) (Nat.le_of_ble_eq_true rfl) (Nat.le_of_ble_eq_true rfl) (Nat.le_of_ble_eq_true rfl) ?_
                  rintro _ h134 ⟨rfl, rfl⟩ g135
                  show OwnKit.Go κ h117 4 15 164 #[.val (.int c), .val (.long f), .second, .val (.long e), .second, .val (.long t), .second, .val (.int k), .val (.ref a2), .val (.ref a21), .val (.ref a39), .val (.int (0 : Int32)), .val (.int (1 : Int32))] [.long e]
                  refine OwnKit.lloadN K at_164 rfl ?_
                  show OwnKit.Go κ h117 4 15 165 #[.val (.int c), .val (.long f), .second, .val (.long e), .second, .val (.long t), .second, .val (.int k), .val (.ref a2), .val (.ref a21), .val (.ref a39), .val (.int (0 : Int32)), .val (.int (1 : Int32))] [.long e, .long e]
                  refine OwnKit.lcmp K at_165 ?_
                  show OwnKit.Go κ h117 4 15 166 #[.val (.int c), .val (.long f), .second, .val (.long e), .second, .val (.long t), .second, .val (.int k), .val (.ref a2), .val (.ref a21), .val (.ref a39), .val (.int (0 : Int32)), .val (.int (1 : Int32))] [.int (XT.cmpL e e)]
                  refine OwnKit.ifne K at_166 (by decide) (pc' := 186) rfl  (fun b136 => ?_) (fun b136 => ?_)
                  · exact absurd ((OwnKit.cmp_eq _ _).mpr rfl) b136
                  · show OwnKit.Go κ h117 4 15 169 #[.val (.int c), .val (.long f), .second, .val (.long e), .second, .val (.long t), .second, .val (.int k), .val (.ref a2), .val (.ref a21), .val (.ref a39), .val (.int (0 : Int32)), .val (.int (1 : Int32))] []
                    refine OwnKit.aload K at_169 rfl rfl ?_
                    show OwnKit.Go κ h117 4 15 171 #[.val (.int c), .val (.long f), .second, .val (.long e), .second, .val (.long t), .second, .val (.int k), .val (.ref a2), .val (.ref a21), .val (.ref a39), .val (.int (0 : Int32)), .val (.int (1 : Int32))] [.ref a39]
                    refine OwnKit.invV (y := (⟨"com/example/forelock/forelock/core/Holds$Hold", "ownerToken", "()Ljava/lang/String;"⟩ : MethodName)) (z := (⟨"com/example/forelock/forelock/core/Holds$Hold", "ownerToken", "()Ljava/lang/String;"⟩ : MethodName)) (argsL := []) (rest := []) K (c_ownerToken l Z a0 hw n0 h117 a39 a21 E121 F123) at_171 E121 (hw _ (List.mem_of_getElem? (i := 73) rfl)) (hw _ (List.mem_of_getElem? (i := 74) rfl)) (OwnKit.nfS (hw _ (List.mem_of_getElem? (i := 76) rfl))) (hw _ (List.mem_of_getElem? (i := 76) rfl)) (hw _ (List.mem_of_getElem? (i := 75) rfl)) (hw _ (List.mem_of_getElem? (i := 77) rfl)) (hw _ (List.mem_of_getElem? (i := 32) rfl)) (by decide) (lenOf (by decide +kernel : parseMethodDescriptor "()Ljava/lang/String;" = some ⟨[], some (.object "java/lang/String")⟩) rfl) rfl rfl (W := 0) (Nat.le_of_ble_eq_true rfl) (Nat.le_of_ble_eq_true rfl) (Nat.le_of_ble_eq_true rfl) (Nat.le_of_ble_eq_true rfl) (Nat.le_of_ble_eq_true rfl) ?_
                    rintro _ h137 ⟨rfl, rfl⟩ g138
                    show OwnKit.Go κ h117 4 15 174 #[.val (.int c), .val (.long f), .second, .val (.long e), .second, .val (.long t), .second, .val (.int k), .val (.ref a2), .val (.ref a21), .val (.ref a39), .val (.int (0 : Int32)), .val (.int (1 : Int32))] [.ref a21]
                    refine OwnKit.aload K at_174 rfl rfl ?_
                    show OwnKit.Go κ h117 4 15 176 #[.val (.int c), .val (.long f), .second, .val (.long e), .second, .val (.long t), .second, .val (.int k), .val (.ref a2), .val (.ref a21), .val (.ref a39), .val (.int (0 : Int32)), .val (.int (1 : Int32))] [.ref a21, .ref a21]
                    refine OwnKit.invV (y := (⟨"java/lang/String", "equals", "(Ljava/lang/Object;)Z"⟩ : MethodName)) (z := (⟨"java/lang/String", "equals", "(Ljava/lang/Object;)Z"⟩ : MethodName)) (argsL := [.ref a21]) (rest := []) K (c_eq l Z a0 hw n0 h117 a21) at_176 E120 (hw _ (List.mem_of_getElem? (i := 78) rfl)) (hw _ (List.mem_of_getElem? (i := 79) rfl)) (OwnKit.nfS (hw _ (List.mem_of_getElem? (i := 81) rfl))) (hw _ (List.mem_of_getElem? (i := 81) rfl)) (hw _ (List.mem_of_getElem? (i := 80) rfl)) (hw _ (List.mem_of_getElem? (i := 82) rfl)) (hw _ (List.mem_of_getElem? (i := 3) rfl)) (by decide) (lenOf (by decide +kernel : parseMethodDescriptor "(Ljava/lang/Object;)Z" = some ⟨[(.object "java/lang/Object")], some .boolean⟩) rfl) rfl rfl (W := 0) (Nat.le_of_ble_eq_true rfl) (Nat.le_of_ble_eq_true rfl) (Nat.le_of_ble_eq_true rfl) (Nat.le_of_ble_eq_true rfl) (Nat.le_of_ble_eq_true rfl) ?_
                    rintro _ h139 ⟨rfl, rfl⟩ g140
                    show OwnKit.Go κ h117 4 15 179 #[.val (.int c), .val (.long f), .second, .val (.long e), .second, .val (.long t), .second, .val (.int k), .val (.ref a2), .val (.ref a21), .val (.ref a39), .val (.int (0 : Int32)), .val (.int (1 : Int32))] [.int (1 : Int32)]
                    refine OwnKit.ifeq K at_179 (by decide) (pc' := 186) rfl  (fun b141 => ?_) (fun b141 => ?_)
                    · exact absurd b141 (by decide)
                    · show OwnKit.Go κ h117 4 15 182 #[.val (.int c), .val (.long f), .second, .val (.long e), .second, .val (.long t), .second, .val (.int k), .val (.ref a2), .val (.ref a21), .val (.ref a39), .val (.int (0 : Int32)), .val (.int (1 : Int32))] []
                      refine OwnKit.iconst K at_182 ?_
                      show OwnKit.Go κ h117 4 15 183 #[.val (.int c), .val (.long f), .second, .val (.long e), .second, .val (.long t), .second, .val (.int k), .val (.ref a2), .val (.ref a21), .val (.ref a39), .val (.int (0 : Int32)), .val (.int (1 : Int32))] [.int (1 : Int32)]
                      refine OwnKit.goto K at_183 (by decide) (pc' := 187) rfl ?_
                      show OwnKit.Go κ h117 4 15 187 #[.val (.int c), .val (.long f), .second, .val (.long e), .second, .val (.long t), .second, .val (.int k), .val (.ref a2), .val (.ref a21), .val (.ref a39), .val (.int (0 : Int32)), .val (.int (1 : Int32))] [.int (1 : Int32)]
                      refine OwnKit.ireturn K at_187 (Or.inr (Or.inl rfl)) rfl ?_ (Nat.le_of_ble_eq_true rfl) (Nat.le_of_ble_eq_true rfl)
                      exact rfl
    · show OwnKit.Go κ h53 4 15 62 #[.val (.int c), .val (.long f), .second, .val (.long e), .second, .val (.long t), .second, .val (.int k), .val (.ref a2), .val (.ref a21), .val (.ref a39), .val (.int (1 : Int32)), .unset] []
      refine OwnKit.aload K at_62 rfl rfl ?_
      show OwnKit.Go κ h53 4 15 64 #[.val (.int c), .val (.long f), .second, .val (.long e), .second, .val (.long t), .second, .val (.int k), .val (.ref a2), .val (.ref a21), .val (.ref a39), .val (.int (1 : Int32)), .unset] [.ref a39]
      refine OwnKit.invV (y := (⟨"com/example/forelock/forelock/core/Holds$Hold", "exit", "()V"⟩ : MethodName)) (z := (⟨"com/example/forelock/forelock/core/Holds$Hold", "exit", "()V"⟩ : MethodName)) (argsL := []) (rest := []) K (c_exit l Z a0 hw n0 h53 a39 (1 : Int32) Eh G41 Fc) at_64 Eh (hw _ (List.mem_of_getElem? (i := 47) rfl)) (hw _ (List.mem_of_getElem? (i := 48) rfl)) (OwnKit.nfS (hw _ (List.mem_of_getElem? (i := 50) rfl))) (hw _ (List.mem_of_getElem? (i := 50) rfl)) (hw _ (List.mem_of_getElem? (i := 49) rfl)) (hw _ (List.mem_of_getElem? (i := 51) rfl)) (hw _ (List.mem_of_getElem? (i := 32) rfl)) (by decide) (lenOf (by decide +kernel : parseMethodDescriptor "()V" = some ⟨[], none⟩) rfl) rfl rfl (W := 0) (Nat.le_of_ble_eq_true rfl) (Nat.le_of_ble_eq_true rfl) (Nat.le_of_ble_eq_true rfl) (Nat.le_of_ble_eq_true rfl) (Nat.le_of_ble_eq_true rfl) ?_
      rintro _ h142 ⟨rfl, W144⟩ g143
      have E145 := E55.wr W144
      have E146 := Eh.wr W144
      have F147 := Fld.same W144 Fc
      have F148 := Fld.other W144 Fo (Or.inr (RoadKit.slot_ne (t := (.object "java/lang/String")) (t' := .int) (Or.inr (hw _ (List.mem_of_getElem? (i := 40) rfl))) (Or.inl (hw _ (List.mem_of_getElem? (i := 38) rfl))) (by decide) (by decide +kernel) (by decide +kernel)))
      have F149 := Fld.other W144 Ff (Or.inr (RoadKit.slot_ne (t := .long) (t' := .int) (Or.inr (hw _ (List.mem_of_getElem? (i := 42) rfl))) (Or.inl (hw _ (List.mem_of_getElem? (i := 38) rfl))) (by decide) (by decide +kernel) (by decide +kernel)))
      have F150 := Fld.other W144 Fl (Or.inr (RoadKit.slot_ne (t := .long) (t' := .int) (Or.inr (hw _ (List.mem_of_getElem? (i := 44) rfl))) (Or.inl (hw _ (List.mem_of_getElem? (i := 38) rfl))) (by decide) (by decide +kernel) (by decide +kernel)))
      show OwnKit.Go κ h142 4 15 67 #[.val (.int c), .val (.long f), .second, .val (.long e), .second, .val (.long t), .second, .val (.int k), .val (.ref a2), .val (.ref a21), .val (.ref a39), .val (.int (1 : Int32)), .unset] []
      refine OwnKit.iload K at_67 rfl ?_
      show OwnKit.Go κ h142 4 15 69 #[.val (.int c), .val (.long f), .second, .val (.long e), .second, .val (.long t), .second, .val (.int k), .val (.ref a2), .val (.ref a21), .val (.ref a39), .val (.int (1 : Int32)), .unset] [.int (1 : Int32)]
      refine OwnKit.iconst K at_69 ?_
      show OwnKit.Go κ h142 4 15 70 #[.val (.int c), .val (.long f), .second, .val (.long e), .second, .val (.long t), .second, .val (.int k), .val (.ref a2), .val (.ref a21), .val (.ref a39), .val (.int (1 : Int32)), .unset] [.int (1 : Int32), .int (1 : Int32)]
      refine OwnKit.isub K at_70 ?_
      show OwnKit.Go κ h142 4 15 71 #[.val (.int c), .val (.long f), .second, .val (.long e), .second, .val (.long t), .second, .val (.int k), .val (.ref a2), .val (.ref a21), .val (.ref a39), .val (.int (1 : Int32)), .unset] [.int ((1 : Int32) - (1 : Int32))]
      show OwnKit.Go κ h142 4 15 71 #[.val (.int c), .val (.long f), .second, .val (.long e), .second, .val (.long t), .second, .val (.int k), .val (.ref a2), .val (.ref a21), .val (.ref a39), .val (.int (1 : Int32)), .unset] [.int (0 : Int32)]
      refine OwnKit.istore K at_71 (l' := #[.val (.int c), .val (.long f), .second, .val (.long e), .second, .val (.long t), .second, .val (.int k), .val (.ref a2), .val (.ref a21), .val (.ref a39), .val (.int (0 : Int32)), .unset]) rfl ?_
      show OwnKit.Go κ h142 4 15 73 #[.val (.int c), .val (.long f), .second, .val (.long e), .second, .val (.long t), .second, .val (.int k), .val (.ref a2), .val (.ref a21), .val (.ref a39), .val (.int (0 : Int32)), .unset] []
      refine OwnKit.iload K at_73 rfl ?_
      show OwnKit.Go κ h142 4 15 75 #[.val (.int c), .val (.long f), .second, .val (.long e), .second, .val (.long t), .second, .val (.int k), .val (.ref a2), .val (.ref a21), .val (.ref a39), .val (.int (0 : Int32)), .unset] [.int k]
      refine OwnKit.iconst K at_75 ?_
      show OwnKit.Go κ h142 4 15 76 #[.val (.int c), .val (.long f), .second, .val (.long e), .second, .val (.long t), .second, .val (.int k), .val (.ref a2), .val (.ref a21), .val (.ref a39), .val (.int (0 : Int32)), .unset] [.int (2 : Int32), .int k]
      refine OwnKit.iand K at_76 ?_
      show OwnKit.Go κ h142 4 15 77 #[.val (.int c), .val (.long f), .second, .val (.long e), .second, .val (.long t), .second, .val (.int k), .val (.ref a2), .val (.ref a21), .val (.ref a39), .val (.int (0 : Int32)), .unset] [.int (k &&& (2 : Int32))]
      refine OwnKit.ifeq K at_77 (by decide) (pc' := 91) rfl  (fun b151 => ?_) (fun b151 => ?_)
      · show OwnKit.Go κ h142 4 15 91 #[.val (.int c), .val (.long f), .second, .val (.long e), .second, .val (.long t), .second, .val (.int k), .val (.ref a2), .val (.ref a21), .val (.ref a39), .val (.int (0 : Int32)), .unset] []
        refine OwnKit.aload K at_91 rfl rfl ?_
        show OwnKit.Go κ h142 4 15 93 #[.val (.int c), .val (.long f), .second, .val (.long e), .second, .val (.long t), .second, .val (.int k), .val (.ref a2), .val (.ref a21), .val (.ref a39), .val (.int (0 : Int32)), .unset] [.ref a39]
        refine OwnKit.invV (y := (⟨"com/example/forelock/forelock/core/Holds$Hold", "enter", "()V"⟩ : MethodName)) (z := (⟨"com/example/forelock/forelock/core/Holds$Hold", "enter", "()V"⟩ : MethodName)) (argsL := []) (rest := []) K (c_enter l Z a0 hw n0 h142 a39 (0 : Int32) (by decide) E146 G41 F147) at_93 E146 (hw _ (List.mem_of_getElem? (i := 52) rfl)) (hw _ (List.mem_of_getElem? (i := 53) rfl)) (OwnKit.nfS (hw _ (List.mem_of_getElem? (i := 55) rfl))) (hw _ (List.mem_of_getElem? (i := 55) rfl)) (hw _ (List.mem_of_getElem? (i := 54) rfl)) (hw _ (List.mem_of_getElem? (i := 56) rfl)) (hw _ (List.mem_of_getElem? (i := 32) rfl)) (by decide) (lenOf (by decide +kernel : parseMethodDescriptor "()V" = some ⟨[], none⟩) rfl) rfl rfl (W := 0) (Nat.le_of_ble_eq_true rfl) (Nat.le_of_ble_eq_true rfl) (Nat.le_of_ble_eq_true rfl) (Nat.le_of_ble_eq_true rfl) (Nat.le_of_ble_eq_true rfl) ?_
        rintro _ h152 ⟨rfl, W154⟩ g153
        have E155 := E145.wr W154
        have E156 := E146.wr W154
        have F157 := Fld.same W154 F147
        have F158 := Fld.other W154 F148 (Or.inr (RoadKit.slot_ne (t := (.object "java/lang/String")) (t' := .int) (Or.inr (hw _ (List.mem_of_getElem? (i := 40) rfl))) (Or.inl (hw _ (List.mem_of_getElem? (i := 38) rfl))) (by decide) (by decide +kernel) (by decide +kernel)))
        have F159 := Fld.other W154 F149 (Or.inr (RoadKit.slot_ne (t := .long) (t' := .int) (Or.inr (hw _ (List.mem_of_getElem? (i := 42) rfl))) (Or.inl (hw _ (List.mem_of_getElem? (i := 38) rfl))) (by decide) (by decide +kernel) (by decide +kernel)))
        have F160 := Fld.other W154 F150 (Or.inr (RoadKit.slot_ne (t := .long) (t' := .int) (Or.inr (hw _ (List.mem_of_getElem? (i := 44) rfl))) (Or.inl (hw _ (List.mem_of_getElem? (i := 38) rfl))) (by decide) (by decide +kernel) (by decide +kernel)))
        show OwnKit.Go κ h152 4 15 96 #[.val (.int c), .val (.long f), .second, .val (.long e), .second, .val (.long t), .second, .val (.int k), .val (.ref a2), .val (.ref a21), .val (.ref a39), .val (.int (0 : Int32)), .unset] []
        refine OwnKit.aload K at_96 rfl rfl ?_
        show OwnKit.Go κ h152 4 15 98 #[.val (.int c), .val (.long f), .second, .val (.long e), .second, .val (.long t), .second, .val (.int k), .val (.ref a2), .val (.ref a21), .val (.ref a39), .val (.int (0 : Int32)), .unset] [.ref a39]
        refine OwnKit.invV (y := (⟨"com/example/forelock/forelock/core/Holds$Hold", "count", "()I"⟩ : MethodName)) (z := (⟨"com/example/forelock/forelock/core/Holds$Hold", "count", "()I"⟩ : MethodName)) (argsL := []) (rest := []) K (c_count l Z a0 hw n0 h152 a39 (1 : Int32) E156 F157) at_98 E156 (hw _ (List.mem_of_getElem? (i := 58) rfl)) (hw _ (List.mem_of_getElem? (i := 59) rfl)) (OwnKit.nfS (hw _ (List.mem_of_getElem? (i := 61) rfl))) (hw _ (List.mem_of_getElem? (i := 61) rfl)) (hw _ (List.mem_of_getElem? (i := 60) rfl)) (hw _ (List.mem_of_getElem? (i := 62) rfl)) (hw _ (List.mem_of_getElem? (i := 32) rfl)) (by decide) (lenOf (by decide +kernel : parseMethodDescriptor "()I" = some ⟨[], some .int⟩) rfl) rfl rfl (W := 0) (Nat.le_of_ble_eq_true rfl) (Nat.le_of_ble_eq_true rfl) (Nat.le_of_ble_eq_true rfl) (Nat.le_of_ble_eq_true rfl) (Nat.le_of_ble_eq_true rfl) ?_
        rintro _ h161 ⟨rfl, rfl⟩ g162
        show OwnKit.Go κ h152 4 15 101 #[.val (.int c), .val (.long f), .second, .val (.long e), .second, .val (.long t), .second, .val (.int k), .val (.ref a2), .val (.ref a21), .val (.ref a39), .val (.int (0 : Int32)), .unset] [.int (1 : Int32)]
        refine OwnKit.iload K at_101 rfl ?_
        show OwnKit.Go κ h152 4 15 103 #[.val (.int c), .val (.long f), .second, .val (.long e), .second, .val (.long t), .second, .val (.int k), .val (.ref a2), .val (.ref a21), .val (.ref a39), .val (.int (0 : Int32)), .unset] [.int (0 : Int32), .int (1 : Int32)]
        refine OwnKit.iconst K at_103 ?_
        show OwnKit.Go κ h152 4 15 104 #[.val (.int c), .val (.long f), .second, .val (.long e), .second, .val (.long t), .second, .val (.int k), .val (.ref a2), .val (.ref a21), .val (.ref a39), .val (.int (0 : Int32)), .unset] [.int (1 : Int32), .int (0 : Int32), .int (1 : Int32)]
        refine OwnKit.iadd K at_104 ?_
        show OwnKit.Go κ h152 4 15 105 #[.val (.int c), .val (.long f), .second, .val (.long e), .second, .val (.long t), .second, .val (.int k), .val (.ref a2), .val (.ref a21), .val (.ref a39), .val (.int (0 : Int32)), .unset] [.int ((0 : Int32) + (1 : Int32)), .int (1 : Int32)]
        show OwnKit.Go κ h152 4 15 105 #[.val (.int c), .val (.long f), .second, .val (.long e), .second, .val (.long t), .second, .val (.int k), .val (.ref a2), .val (.ref a21), .val (.ref a39), .val (.int (0 : Int32)), .unset] [.int (1 : Int32), .int (1 : Int32)]
        refine OwnKit.icmpne K at_105 (by decide) (pc' := 112) rfl  (fun b163 => ?_) (fun b163 => ?_)
        · exact absurd b163 (by decide)
        · show OwnKit.Go κ h152 4 15 108 #[.val (.int c), .val (.long f), .second, .val (.long e), .second, .val (.long t), .second, .val (.int k), .val (.ref a2), .val (.ref a21), .val (.ref a39), .val (.int (0 : Int32)), .unset] []
          refine OwnKit.iconst K at_108 ?_
          show OwnKit.Go κ h152 4 15 109 #[.val (.int c), .val (.long f), .second, .val (.long e), .second, .val (.long t), .second, .val (.int k), .val (.ref a2), .val (.ref a21), .val (.ref a39), .val (.int (0 : Int32)), .unset] [.int (1 : Int32)]
          refine OwnKit.goto K at_109 (by decide) (pc' := 113) rfl ?_
          show OwnKit.Go κ h152 4 15 113 #[.val (.int c), .val (.long f), .second, .val (.long e), .second, .val (.long t), .second, .val (.int k), .val (.ref a2), .val (.ref a21), .val (.ref a39), .val (.int (0 : Int32)), .unset] [.int (1 : Int32)]
          refine OwnKit.istore K at_113 (l' := #[.val (.int c), .val (.long f), .second, .val (.long e), .second, .val (.long t), .second, .val (.int k), .val (.ref a2), .val (.ref a21), .val (.ref a39), .val (.int (0 : Int32)), .val (.int (1 : Int32))]) rfl ?_
          show OwnKit.Go κ h152 4 15 115 #[.val (.int c), .val (.long f), .second, .val (.long e), .second, .val (.long t), .second, .val (.int k), .val (.ref a2), .val (.ref a21), .val (.ref a39), .val (.int (0 : Int32)), .val (.int (1 : Int32))] []
          refine OwnKit.aload K at_115 rfl rfl ?_
          show OwnKit.Go κ h152 4 15 117 #[.val (.int c), .val (.long f), .second, .val (.long e), .second, .val (.long t), .second, .val (.int k), .val (.ref a2), .val (.ref a21), .val (.ref a39), .val (.int (0 : Int32)), .val (.int (1 : Int32))] [.ref a39]
          refine OwnKit.invV (y := (⟨"com/example/forelock/forelock/core/Holds$Hold", "enter", "()V"⟩ : MethodName)) (z := (⟨"com/example/forelock/forelock/core/Holds$Hold", "enter", "()V"⟩ : MethodName)) (argsL := []) (rest := []) K (c_enter l Z a0 hw n0 h152 a39 (1 : Int32) (by decide) E156 G41 F157) at_117 E156 (hw _ (List.mem_of_getElem? (i := 52) rfl)) (hw _ (List.mem_of_getElem? (i := 53) rfl)) (OwnKit.nfS (hw _ (List.mem_of_getElem? (i := 55) rfl))) (hw _ (List.mem_of_getElem? (i := 55) rfl)) (hw _ (List.mem_of_getElem? (i := 54) rfl)) (hw _ (List.mem_of_getElem? (i := 56) rfl)) (hw _ (List.mem_of_getElem? (i := 32) rfl)) (by decide) (lenOf (by decide +kernel : parseMethodDescriptor "()V" = some ⟨[], none⟩) rfl) rfl rfl (W := 0) (Nat.le_of_ble_eq_true rfl) (Nat.le_of_ble_eq_true rfl) (Nat.le_of_ble_eq_true rfl) (Nat.le_of_ble_eq_true rfl) (Nat.le_of_ble_eq_true rfl) ?_
          rintro _ h164 ⟨rfl, W166⟩ g165
          have E167 := E155.wr W166
          have E168 := E156.wr W166
          have F169 := Fld.same W166 F157
          have F170 := Fld.other W166 F158 (Or.inr (RoadKit.slot_ne (t := (.object "java/lang/String")) (t' := .int) (Or.inr (hw _ (List.mem_of_getElem? (i := 40) rfl))) (Or.inl (hw _ (List.mem_of_getElem? (i := 38) rfl))) (by decide) (by decide +kernel) (by decide +kernel)))
          have F171 := Fld.other W166 F159 (Or.inr (RoadKit.slot_ne (t := .long) (t' := .int) (Or.inr (hw _ (List.mem_of_getElem? (i := 42) rfl))) (Or.inl (hw _ (List.mem_of_getElem? (i := 38) rfl))) (by decide) (by decide +kernel) (by decide +kernel)))
          have F172 := Fld.other W166 F160 (Or.inr (RoadKit.slot_ne (t := .long) (t' := .int) (Or.inr (hw _ (List.mem_of_getElem? (i := 44) rfl))) (Or.inl (hw _ (List.mem_of_getElem? (i := 38) rfl))) (by decide) (by decide +kernel) (by decide +kernel)))
          show OwnKit.Go κ h164 4 15 120 #[.val (.int c), .val (.long f), .second, .val (.long e), .second, .val (.long t), .second, .val (.int k), .val (.ref a2), .val (.ref a21), .val (.ref a39), .val (.int (0 : Int32)), .val (.int (1 : Int32))] []
          refine OwnKit.iload K at_120 rfl ?_
          show OwnKit.Go κ h164 4 15 122 #[.val (.int c), .val (.long f), .second, .val (.long e), .second, .val (.long t), .second, .val (.int k), .val (.ref a2), .val (.ref a21), .val (.ref a39), .val (.int (0 : Int32)), .val (.int (1 : Int32))] [.int (1 : Int32)]
          refine OwnKit.ifeq K at_122 (by decide) (pc' := 141) rfl  (fun b173 => ?_) (fun b173 => ?_)
          · exact absurd b173 (by decide)
          · show OwnKit.Go κ h164 4 15 125 #[.val (.int c), .val (.long f), .second, .val (.long e), .second, .val (.long t), .second, .val (.int k), .val (.ref a2), .val (.ref a21), .val (.ref a39), .val (.int (0 : Int32)), .val (.int (1 : Int32))] []
            refine OwnKit.aload K at_125 rfl rfl ?_
            show OwnKit.Go κ h164 4 15 127 #[.val (.int c), .val (.long f), .second, .val (.long e), .second, .val (.long t), .second, .val (.int k), .val (.ref a2), .val (.ref a21), .val (.ref a39), .val (.int (0 : Int32)), .val (.int (1 : Int32))] [.ref a39]
            refine OwnKit.invV (y := (⟨"com/example/forelock/forelock/core/Holds$Hold", "count", "()I"⟩ : MethodName)) (z := (⟨"com/example/forelock/forelock/core/Holds$Hold", "count", "()I"⟩ : MethodName)) (argsL := []) (rest := []) K (c_count l Z a0 hw n0 h164 a39 (2 : Int32) E168 F169) at_127 E168 (hw _ (List.mem_of_getElem? (i := 58) rfl)) (hw _ (List.mem_of_getElem? (i := 59) rfl)) (OwnKit.nfS (hw _ (List.mem_of_getElem? (i := 61) rfl))) (hw _ (List.mem_of_getElem? (i := 61) rfl)) (hw _ (List.mem_of_getElem? (i := 60) rfl)) (hw _ (List.mem_of_getElem? (i := 62) rfl)) (hw _ (List.mem_of_getElem? (i := 32) rfl)) (by decide) (lenOf (by decide +kernel : parseMethodDescriptor "()I" = some ⟨[], some .int⟩) rfl) rfl rfl (W := 0) (Nat.le_of_ble_eq_true rfl) (Nat.le_of_ble_eq_true rfl) (Nat.le_of_ble_eq_true rfl) (Nat.le_of_ble_eq_true rfl) (Nat.le_of_ble_eq_true rfl) ?_
            rintro _ h174 ⟨rfl, rfl⟩ g175
            show OwnKit.Go κ h164 4 15 130 #[.val (.int c), .val (.long f), .second, .val (.long e), .second, .val (.long t), .second, .val (.int k), .val (.ref a2), .val (.ref a21), .val (.ref a39), .val (.int (0 : Int32)), .val (.int (1 : Int32))] [.int (2 : Int32)]
            refine OwnKit.iload K at_130 rfl ?_
            show OwnKit.Go κ h164 4 15 132 #[.val (.int c), .val (.long f), .second, .val (.long e), .second, .val (.long t), .second, .val (.int k), .val (.ref a2), .val (.ref a21), .val (.ref a39), .val (.int (0 : Int32)), .val (.int (1 : Int32))] [.int (0 : Int32), .int (2 : Int32)]
            refine OwnKit.iconst K at_132 ?_
            show OwnKit.Go κ h164 4 15 133 #[.val (.int c), .val (.long f), .second, .val (.long e), .second, .val (.long t), .second, .val (.int k), .val (.ref a2), .val (.ref a21), .val (.ref a39), .val (.int (0 : Int32)), .val (.int (1 : Int32))] [.int (2 : Int32), .int (0 : Int32), .int (2 : Int32)]
            refine OwnKit.iadd K at_133 ?_
            show OwnKit.Go κ h164 4 15 134 #[.val (.int c), .val (.long f), .second, .val (.long e), .second, .val (.long t), .second, .val (.int k), .val (.ref a2), .val (.ref a21), .val (.ref a39), .val (.int (0 : Int32)), .val (.int (1 : Int32))] [.int ((0 : Int32) + (2 : Int32)), .int (2 : Int32)]
            show OwnKit.Go κ h164 4 15 134 #[.val (.int c), .val (.long f), .second, .val (.long e), .second, .val (.long t), .second, .val (.int k), .val (.ref a2), .val (.ref a21), .val (.ref a39), .val (.int (0 : Int32)), .val (.int (1 : Int32))] [.int (2 : Int32), .int (2 : Int32)]
            refine OwnKit.icmpne K at_134 (by decide) (pc' := 141) rfl  (fun b176 => ?_) (fun b176 => ?_)
            · exact absurd b176 (by decide)
            · show OwnKit.Go κ h164 4 15 137 #[.val (.int c), .val (.long f), .second, .val (.long e), .second, .val (.long t), .second, .val (.int k), .val (.ref a2), .val (.ref a21), .val (.ref a39), .val (.int (0 : Int32)), .val (.int (1 : Int32))] []
              refine OwnKit.iconst K at_137 ?_
              show OwnKit.Go κ h164 4 15 138 #[.val (.int c), .val (.long f), .second, .val (.long e), .second, .val (.long t), .second, .val (.int k), .val (.ref a2), .val (.ref a21), .val (.ref a39), .val (.int (0 : Int32)), .val (.int (1 : Int32))] [.int (1 : Int32)]
              refine OwnKit.goto K at_138 (by decide) (pc' := 142) rfl ?_
              show OwnKit.Go κ h164 4 15 142 #[.val (.int c), .val (.long f), .second, .val (.long e), .second, .val (.long t), .second, .val (.int k), .val (.ref a2), .val (.ref a21), .val (.ref a39), .val (.int (0 : Int32)), .val (.int (1 : Int32))] [.int (1 : Int32)]
              refine OwnKit.istore K at_142 (l' := #[.val (.int c), .val (.long f), .second, .val (.long e), .second, .val (.long t), .second, .val (.int k), .val (.ref a2), .val (.ref a21), .val (.ref a39), .val (.int (0 : Int32)), .val (.int (1 : Int32))]) rfl ?_
              show OwnKit.Go κ h164 4 15 144 #[.val (.int c), .val (.long f), .second, .val (.long e), .second, .val (.long t), .second, .val (.int k), .val (.ref a2), .val (.ref a21), .val (.ref a39), .val (.int (0 : Int32)), .val (.int (1 : Int32))] []
              refine OwnKit.iload K at_144 rfl ?_
              show OwnKit.Go κ h164 4 15 146 #[.val (.int c), .val (.long f), .second, .val (.long e), .second, .val (.long t), .second, .val (.int k), .val (.ref a2), .val (.ref a21), .val (.ref a39), .val (.int (0 : Int32)), .val (.int (1 : Int32))] [.int (1 : Int32)]
              refine OwnKit.ifeq K at_146 (by decide) (pc' := 186) rfl  (fun b177 => ?_) (fun b177 => ?_)
              · exact absurd b177 (by decide)
              · show OwnKit.Go κ h164 4 15 149 #[.val (.int c), .val (.long f), .second, .val (.long e), .second, .val (.long t), .second, .val (.int k), .val (.ref a2), .val (.ref a21), .val (.ref a39), .val (.int (0 : Int32)), .val (.int (1 : Int32))] []
                refine OwnKit.aload K at_149 rfl rfl ?_
                show OwnKit.Go κ h164 4 15 151 #[.val (.int c), .val (.long f), .second, .val (.long e), .second, .val (.long t), .second, .val (.int k), .val (.ref a2), .val (.ref a21), .val (.ref a39), .val (.int (0 : Int32)), .val (.int (1 : Int32))] [.ref a39]
                refine OwnKit.invV (y := (⟨"com/example/forelock/forelock/core/Holds$Hold", "fencingToken", "()J"⟩ : MethodName)) (z := (⟨"com/example/forelock/forelock/core/Holds$Hold", "fencingToken", "()J"⟩ : MethodName)) (argsL := []) (rest := []) K (c_fencingToken l Z a0 hw n0 h164 a39 f E168 F171) at_151 E168 (hw _ (List.mem_of_getElem? (i := 63) rfl)) (hw _ (List.mem_of_getElem? (i := 64) rfl)) (OwnKit.nfS (hw _ (List.mem_of_getElem? (i := 66) rfl))) (hw _ (List.mem_of_getElem? (i := 66) rfl)) (hw _ (List.mem_of_getElem? (i := 65) rfl)) (hw _ (List.mem_of_getElem? (i := 67) rfl)) (hw _ (List.mem_of_getElem? (i := 32) rfl)) (by decide) (lenOf (by decide +kernel : parseMethodDescriptor "()J" = some ⟨[], some .long⟩) rfl) rfl rfl (W := 0) (Nat.le_of_ble_eq_true rfl) (Nat.le_of_ble_eq_true rfl) (Nat.le_of_ble_eq_true rfl) (Nat.le_of_ble_eq_true rfl) (Nat.le_of_ble_eq_true rfl) ?_
                rintro _ h178 ⟨rfl, rfl⟩ g179
                show OwnKit.Go κ h164 4 15 154 #[.val (.int c), .val (.long f), .second, .val (.long e), .second, .val (.long t), .second, .val (.int k), .val (.ref a2), .val (.ref a21), .val (.ref a39), .val (.int (0 : Int32)), .val (.int (1 : Int32))] [.long f]
                refine OwnKit.lloadN K at_154 rfl ?_
                show OwnKit.Go κ h164 4 15 155 #[.val (.int c), .val (.long f), .second, .val (.long e), .second, .val (.long t), .second, .val (.int k), .val (.ref a2), .val (.ref a21), .val (.ref a39), .val (.int (0 : Int32)), .val (.int (1 : Int32))] [.long f, .long f]
                refine OwnKit.lcmp K at_155 ?_
                show OwnKit.Go κ h164 4 15 156 #[.val (.int c), .val (.long f), .second, .val (.long e), .second, .val (.long t), .second, .val (.int k), .val (.ref a2), .val (.ref a21), .val (.ref a39), .val (.int (0 : Int32)), .val (.int (1 : Int32))] [.int (XT.cmpL f f)]
                refine OwnKit.ifne K at_156 (by decide) (pc' := 186) rfl  (fun b180 => ?_) (fun b180 => ?_)
                · exact absurd ((OwnKit.cmp_eq _ _).mpr rfl) b180
                · show OwnKit.Go κ h164 4 15 159 #[.val (.int c), .val (.long f), .second, .val (.long e), .second, .val (.long t), .second, .val (.int k), .val (.ref a2), .val (.ref a21), .val (.ref a39), .val (.int (0 : Int32)), .val (.int (1 : Int32))] []
                  refine OwnKit.aload K at_159 rfl rfl ?_
                  show OwnKit.Go κ h164 4 15 161 #[.val (.int c), .val (.long f), .second, .val (.long e), .second, .val (.long t), .second, .val (.int k), .val (.ref a2), .val (.ref a21), .val (.ref a39), .val (.int (0 : Int32)), .val (.int (1 : Int32))] [.ref a39]
                  refine OwnKit.invV (y := (⟨"com/example/forelock/forelock/core/Holds$Hold", "leaseNanos", "()J"⟩ : MethodName)) (z := (⟨"com/example/forelock/forelock/core/Holds$Hold", "leaseNanos", "()J"⟩ : MethodName)) (argsL := []) (rest := []) K (c_leaseNanos l Z a0 hw n0 h164 a39 e E168 F172) at_161 E168 (hw _ (List.mem_of_getElem? (i := 68) rfl)) (hw _ (List.mem_of_getElem? (i := 69) rfl)) (OwnKit.nfS (hw _ (List.mem_of_getElem? (i := 71) rfl))) (hw _ (List.mem_of_getElem? (i := 71) rfl)) (hw _ (List.mem_of_getElem? (i := 70) rfl)) (hw _ (List.mem_of_getElem? (i := 72) rfl)) (hw _ (List.mem_of_getElem? (i := 32) rfl)) (by decide) (lenOf (by decide +kernel : parseMethodDescriptor "()J" = some ⟨[], some .long⟩) rfl) rfl rfl (W := 0) (Nat.le_of_ble_eq_true rfl) (Nat.le_of_ble_eq_true rfl) (Nat.le_of_ble_eq_true rfl) (Nat.le_of_ble_eq_true rfl) (Nat.le_of_ble_eq_true rfl) ?_
                  rintro _ h181 ⟨rfl, rfl⟩ g182
                  show OwnKit.Go κ h164 4 15 164 #[.val (.int c), .val (.long f), .second, .val (.long e), .second, .val (.long t), .second, .val (.int k), .val (.ref a2), .val (.ref a21), .val (.ref a39), .val (.int (0 : Int32)), .val (.int (1 : Int32))] [.long e]
                  refine OwnKit.lloadN K at_164 rfl ?_
                  show OwnKit.Go κ h164 4 15 165 #[.val (.int c), .val (.long f), .second, .val (.long e), .second, .val (.long t), .second, .val (.int k), .val (.ref a2), .val (.ref a21), .val (.ref a39), .val (.int (0 : Int32)), .val (.int (1 : Int32))] [.long e, .long e]
                  refine OwnKit.lcmp K at_165 ?_
                  show OwnKit.Go κ h164 4 15 166 #[.val (.int c), .val (.long f), .second, .val (.long e), .second, .val (.long t), .second, .val (.int k), .val (.ref a2), .val (.ref a21), .val (.ref a39), .val (.int (0 : Int32)), .val (.int (1 : Int32))] [.int (XT.cmpL e e)]
                  refine OwnKit.ifne K at_166 (by decide) (pc' := 186) rfl  (fun b183 => ?_) (fun b183 => ?_)
                  · exact absurd ((OwnKit.cmp_eq _ _).mpr rfl) b183
                  · show OwnKit.Go κ h164 4 15 169 #[.val (.int c), .val (.long f), .second, .val (.long e), .second, .val (.long t), .second, .val (.int k), .val (.ref a2), .val (.ref a21), .val (.ref a39), .val (.int (0 : Int32)), .val (.int (1 : Int32))] []
                    refine OwnKit.aload K at_169 rfl rfl ?_
                    show OwnKit.Go κ h164 4 15 171 #[.val (.int c), .val (.long f), .second, .val (.long e), .second, .val (.long t), .second, .val (.int k), .val (.ref a2), .val (.ref a21), .val (.ref a39), .val (.int (0 : Int32)), .val (.int (1 : Int32))] [.ref a39]
                    refine OwnKit.invV (y := (⟨"com/example/forelock/forelock/core/Holds$Hold", "ownerToken", "()Ljava/lang/String;"⟩ : MethodName)) (z := (⟨"com/example/forelock/forelock/core/Holds$Hold", "ownerToken", "()Ljava/lang/String;"⟩ : MethodName)) (argsL := []) (rest := []) K (c_ownerToken l Z a0 hw n0 h164 a39 a21 E168 F170) at_171 E168 (hw _ (List.mem_of_getElem? (i := 73) rfl)) (hw _ (List.mem_of_getElem? (i := 74) rfl)) (OwnKit.nfS (hw _ (List.mem_of_getElem? (i := 76) rfl))) (hw _ (List.mem_of_getElem? (i := 76) rfl)) (hw _ (List.mem_of_getElem? (i := 75) rfl)) (hw _ (List.mem_of_getElem? (i := 77) rfl)) (hw _ (List.mem_of_getElem? (i := 32) rfl)) (by decide) (lenOf (by decide +kernel : parseMethodDescriptor "()Ljava/lang/String;" = some ⟨[], some (.object "java/lang/String")⟩) rfl) rfl rfl (W := 0) (Nat.le_of_ble_eq_true rfl) (Nat.le_of_ble_eq_true rfl) (Nat.le_of_ble_eq_true rfl) (Nat.le_of_ble_eq_true rfl) (Nat.le_of_ble_eq_true rfl) ?_
                    rintro _ h184 ⟨rfl, rfl⟩ g185
                    show OwnKit.Go κ h164 4 15 174 #[.val (.int c), .val (.long f), .second, .val (.long e), .second, .val (.long t), .second, .val (.int k), .val (.ref a2), .val (.ref a21), .val (.ref a39), .val (.int (0 : Int32)), .val (.int (1 : Int32))] [.ref a21]
                    refine OwnKit.aload K at_174 rfl rfl ?_
                    show OwnKit.Go κ h164 4 15 176 #[.val (.int c), .val (.long f), .second, .val (.long e), .second, .val (.long t), .second, .val (.int k), .val (.ref a2), .val (.ref a21), .val (.ref a39), .val (.int (0 : Int32)), .val (.int (1 : Int32))] [.ref a21, .ref a21]
                    refine OwnKit.invV (y := (⟨"java/lang/String", "equals", "(Ljava/lang/Object;)Z"⟩ : MethodName)) (z := (⟨"java/lang/String", "equals", "(Ljava/lang/Object;)Z"⟩ : MethodName)) (argsL := [.ref a21]) (rest := []) K (c_eq l Z a0 hw n0 h164 a21) at_176 E167 (hw _ (List.mem_of_getElem? (i := 78) rfl)) (hw _ (List.mem_of_getElem? (i := 79) rfl)) (OwnKit.nfS (hw _ (List.mem_of_getElem? (i := 81) rfl))) (hw _ (List.mem_of_getElem? (i := 81) rfl)) (hw _ (List.mem_of_getElem? (i := 80) rfl)) (hw _ (List.mem_of_getElem? (i := 82) rfl)) (hw _ (List.mem_of_getElem? (i := 3) rfl)) (by decide) (lenOf (by decide +kernel : parseMethodDescriptor "(Ljava/lang/Object;)Z" = some ⟨[(.object "java/lang/Object")], some .boolean⟩) rfl) rfl rfl (W := 0) (Nat.le_of_ble_eq_true rfl) (Nat.le_of_ble_eq_true rfl) (Nat.le_of_ble_eq_true rfl) (Nat.le_of_ble_eq_true rfl) (Nat.le_of_ble_eq_true rfl) ?_
                    rintro _ h186 ⟨rfl, rfl⟩ g187
                    show OwnKit.Go κ h164 4 15 179 #[.val (.int c), .val (.long f), .second, .val (.long e), .second, .val (.long t), .second, .val (.int k), .val (.ref a2), .val (.ref a21), .val (.ref a39), .val (.int (0 : Int32)), .val (.int (1 : Int32))] [.int (1 : Int32)]
                    refine OwnKit.ifeq K at_179 (by decide) (pc' := 186) rfl  (fun b188 => ?_) (fun b188 => ?_)
                    · exact absurd b188 (by decide)
                    · show OwnKit.Go κ h164 4 15 182 #[.val (.int c), .val (.long f), .second, .val (.long e), .second, .val (.long t), .second, .val (.int k), .val (.ref a2), .val (.ref a21), .val (.ref a39), .val (.int (0 : Int32)), .val (.int (1 : Int32))] []
                      refine OwnKit.iconst K at_182 ?_
                      show OwnKit.Go κ h164 4 15 183 #[.val (.int c), .val (.long f), .second, .val (.long e), .second, .val (.long t), .second, .val (.int k), .val (.ref a2), .val (.ref a21), .val (.ref a39), .val (.int (0 : Int32)), .val (.int (1 : Int32))] [.int (1 : Int32)]
                      refine OwnKit.goto K at_183 (by decide) (pc' := 187) rfl ?_
                      show OwnKit.Go κ h164 4 15 187 #[.val (.int c), .val (.long f), .second, .val (.long e), .second, .val (.long t), .second, .val (.int k), .val (.ref a2), .val (.ref a21), .val (.ref a39), .val (.int (0 : Int32)), .val (.int (1 : Int32))] [.int (1 : Int32)]
                      refine OwnKit.ireturn K at_187 (Or.inr (Or.inl rfl)) rfl ?_ (Nat.le_of_ble_eq_true rfl) (Nat.le_of_ble_eq_true rfl)
                      exact rfl
      · show OwnKit.Go κ h142 4 15 80 #[.val (.int c), .val (.long f), .second, .val (.long e), .second, .val (.long t), .second, .val (.int k), .val (.ref a2), .val (.ref a21), .val (.ref a39), .val (.int (0 : Int32)), .unset] []
        refine OwnKit.aload K at_80 rfl rfl ?_
        show OwnKit.Go κ h142 4 15 82 #[.val (.int c), .val (.long f), .second, .val (.long e), .second, .val (.long t), .second, .val (.int k), .val (.ref a2), .val (.ref a21), .val (.ref a39), .val (.int (0 : Int32)), .unset] [.ref a39]
        refine OwnKit.invV (y := (⟨"com/example/forelock/forelock/core/Holds$Hold", "exit", "()V"⟩ : MethodName)) (z := (⟨"com/example/forelock/forelock/core/Holds$Hold", "exit", "()V"⟩ : MethodName)) (argsL := []) (rest := []) K (c_exit l Z a0 hw n0 h142 a39 (0 : Int32) E146 G41 F147) at_82 E146 (hw _ (List.mem_of_getElem? (i := 47) rfl)) (hw _ (List.mem_of_getElem? (i := 48) rfl)) (OwnKit.nfS (hw _ (List.mem_of_getElem? (i := 50) rfl))) (hw _ (List.mem_of_getElem? (i := 50) rfl)) (hw _ (List.mem_of_getElem? (i := 49) rfl)) (hw _ (List.mem_of_getElem? (i := 51) rfl)) (hw _ (List.mem_of_getElem? (i := 32) rfl)) (by decide) (lenOf (by decide +kernel : parseMethodDescriptor "()V" = some ⟨[], none⟩) rfl) rfl rfl (W := 0) (Nat.le_of_ble_eq_true rfl) (Nat.le_of_ble_eq_true rfl) (Nat.le_of_ble_eq_true rfl) (Nat.le_of_ble_eq_true rfl) (Nat.le_of_ble_eq_true rfl) ?_
        rintro _ h189 ⟨rfl, W191⟩ g190
        have E192 := E145.wr W191
        have E193 := E146.wr W191
        have F194 := Fld.same W191 F147
        have F195 := Fld.other W191 F148 (Or.inr (RoadKit.slot_ne (t := (.object "java/lang/String")) (t' := .int) (Or.inr (hw _ (List.mem_of_getElem? (i := 40) rfl))) (Or.inl (hw _ (List.mem_of_getElem? (i := 38) rfl))) (by decide) (by decide +kernel) (by decide +kernel)))
        have F196 := Fld.other W191 F149 (Or.inr (RoadKit.slot_ne (t := .long) (t' := .int) (Or.inr (hw _ (List.mem_of_getElem? (i := 42) rfl))) (Or.inl (hw _ (List.mem_of_getElem? (i := 38) rfl))) (by decide) (by decide +kernel) (by decide +kernel)))
        have F197 := Fld.other W191 F150 (Or.inr (RoadKit.slot_ne (t := .long) (t' := .int) (Or.inr (hw _ (List.mem_of_getElem? (i := 44) rfl))) (Or.inl (hw _ (List.mem_of_getElem? (i := 38) rfl))) (by decide) (by decide +kernel) (by decide +kernel)))
        show OwnKit.Go κ h189 4 15 85 #[.val (.int c), .val (.long f), .second, .val (.long e), .second, .val (.long t), .second, .val (.int k), .val (.ref a2), .val (.ref a21), .val (.ref a39), .val (.int (0 : Int32)), .unset] []
        refine OwnKit.iload K at_85 rfl ?_
        show OwnKit.Go κ h189 4 15 87 #[.val (.int c), .val (.long f), .second, .val (.long e), .second, .val (.long t), .second, .val (.int k), .val (.ref a2), .val (.ref a21), .val (.ref a39), .val (.int (0 : Int32)), .unset] [.int (0 : Int32)]
        refine OwnKit.iconst K at_87 ?_
        show OwnKit.Go κ h189 4 15 88 #[.val (.int c), .val (.long f), .second, .val (.long e), .second, .val (.long t), .second, .val (.int k), .val (.ref a2), .val (.ref a21), .val (.ref a39), .val (.int (0 : Int32)), .unset] [.int (1 : Int32), .int (0 : Int32)]
        refine OwnKit.isub K at_88 ?_
        show OwnKit.Go κ h189 4 15 89 #[.val (.int c), .val (.long f), .second, .val (.long e), .second, .val (.long t), .second, .val (.int k), .val (.ref a2), .val (.ref a21), .val (.ref a39), .val (.int (0 : Int32)), .unset] [.int ((0 : Int32) - (1 : Int32))]
        show OwnKit.Go κ h189 4 15 89 #[.val (.int c), .val (.long f), .second, .val (.long e), .second, .val (.long t), .second, .val (.int k), .val (.ref a2), .val (.ref a21), .val (.ref a39), .val (.int (0 : Int32)), .unset] [.int (-1 : Int32)]
        refine OwnKit.istore K at_89 (l' := #[.val (.int c), .val (.long f), .second, .val (.long e), .second, .val (.long t), .second, .val (.int k), .val (.ref a2), .val (.ref a21), .val (.ref a39), .val (.int (-1 : Int32)), .unset]) rfl ?_
        show OwnKit.Go κ h189 4 15 91 #[.val (.int c), .val (.long f), .second, .val (.long e), .second, .val (.long t), .second, .val (.int k), .val (.ref a2), .val (.ref a21), .val (.ref a39), .val (.int (-1 : Int32)), .unset] []
        refine OwnKit.aload K at_91 rfl rfl ?_
        show OwnKit.Go κ h189 4 15 93 #[.val (.int c), .val (.long f), .second, .val (.long e), .second, .val (.long t), .second, .val (.int k), .val (.ref a2), .val (.ref a21), .val (.ref a39), .val (.int (-1 : Int32)), .unset] [.ref a39]
        refine OwnKit.invV (y := (⟨"com/example/forelock/forelock/core/Holds$Hold", "enter", "()V"⟩ : MethodName)) (z := (⟨"com/example/forelock/forelock/core/Holds$Hold", "enter", "()V"⟩ : MethodName)) (argsL := []) (rest := []) K (c_enter l Z a0 hw n0 h189 a39 (-1 : Int32) (by decide) E193 G41 F194) at_93 E193 (hw _ (List.mem_of_getElem? (i := 52) rfl)) (hw _ (List.mem_of_getElem? (i := 53) rfl)) (OwnKit.nfS (hw _ (List.mem_of_getElem? (i := 55) rfl))) (hw _ (List.mem_of_getElem? (i := 55) rfl)) (hw _ (List.mem_of_getElem? (i := 54) rfl)) (hw _ (List.mem_of_getElem? (i := 56) rfl)) (hw _ (List.mem_of_getElem? (i := 32) rfl)) (by decide) (lenOf (by decide +kernel : parseMethodDescriptor "()V" = some ⟨[], none⟩) rfl) rfl rfl (W := 0) (Nat.le_of_ble_eq_true rfl) (Nat.le_of_ble_eq_true rfl) (Nat.le_of_ble_eq_true rfl) (Nat.le_of_ble_eq_true rfl) (Nat.le_of_ble_eq_true rfl) ?_
        rintro _ h198 ⟨rfl, W200⟩ g199
        have E201 := E192.wr W200
        have E202 := E193.wr W200
        have F203 := Fld.same W200 F194
        have F204 := Fld.other W200 F195 (Or.inr (RoadKit.slot_ne (t := (.object "java/lang/String")) (t' := .int) (Or.inr (hw _ (List.mem_of_getElem? (i := 40) rfl))) (Or.inl (hw _ (List.mem_of_getElem? (i := 38) rfl))) (by decide) (by decide +kernel) (by decide +kernel)))
        have F205 := Fld.other W200 F196 (Or.inr (RoadKit.slot_ne (t := .long) (t' := .int) (Or.inr (hw _ (List.mem_of_getElem? (i := 42) rfl))) (Or.inl (hw _ (List.mem_of_getElem? (i := 38) rfl))) (by decide) (by decide +kernel) (by decide +kernel)))
        have F206 := Fld.other W200 F197 (Or.inr (RoadKit.slot_ne (t := .long) (t' := .int) (Or.inr (hw _ (List.mem_of_getElem? (i := 44) rfl))) (Or.inl (hw _ (List.mem_of_getElem? (i := 38) rfl))) (by decide) (by decide +kernel) (by decide +kernel)))
        show OwnKit.Go κ h198 4 15 96 #[.val (.int c), .val (.long f), .second, .val (.long e), .second, .val (.long t), .second, .val (.int k), .val (.ref a2), .val (.ref a21), .val (.ref a39), .val (.int (-1 : Int32)), .unset] []
        refine OwnKit.aload K at_96 rfl rfl ?_
        show OwnKit.Go κ h198 4 15 98 #[.val (.int c), .val (.long f), .second, .val (.long e), .second, .val (.long t), .second, .val (.int k), .val (.ref a2), .val (.ref a21), .val (.ref a39), .val (.int (-1 : Int32)), .unset] [.ref a39]
        refine OwnKit.invV (y := (⟨"com/example/forelock/forelock/core/Holds$Hold", "count", "()I"⟩ : MethodName)) (z := (⟨"com/example/forelock/forelock/core/Holds$Hold", "count", "()I"⟩ : MethodName)) (argsL := []) (rest := []) K (c_count l Z a0 hw n0 h198 a39 (0 : Int32) E202 F203) at_98 E202 (hw _ (List.mem_of_getElem? (i := 58) rfl)) (hw _ (List.mem_of_getElem? (i := 59) rfl)) (OwnKit.nfS (hw _ (List.mem_of_getElem? (i := 61) rfl))) (hw _ (List.mem_of_getElem? (i := 61) rfl)) (hw _ (List.mem_of_getElem? (i := 60) rfl)) (hw _ (List.mem_of_getElem? (i := 62) rfl)) (hw _ (List.mem_of_getElem? (i := 32) rfl)) (by decide) (lenOf (by decide +kernel : parseMethodDescriptor "()I" = some ⟨[], some .int⟩) rfl) rfl rfl (W := 0) (Nat.le_of_ble_eq_true rfl) (Nat.le_of_ble_eq_true rfl) (Nat.le_of_ble_eq_true rfl) (Nat.le_of_ble_eq_true rfl) (Nat.le_of_ble_eq_true rfl) ?_
        rintro _ h207 ⟨rfl, rfl⟩ g208
        show OwnKit.Go κ h198 4 15 101 #[.val (.int c), .val (.long f), .second, .val (.long e), .second, .val (.long t), .second, .val (.int k), .val (.ref a2), .val (.ref a21), .val (.ref a39), .val (.int (-1 : Int32)), .unset] [.int (0 : Int32)]
        refine OwnKit.iload K at_101 rfl ?_
        show OwnKit.Go κ h198 4 15 103 #[.val (.int c), .val (.long f), .second, .val (.long e), .second, .val (.long t), .second, .val (.int k), .val (.ref a2), .val (.ref a21), .val (.ref a39), .val (.int (-1 : Int32)), .unset] [.int (-1 : Int32), .int (0 : Int32)]
        refine OwnKit.iconst K at_103 ?_
        show OwnKit.Go κ h198 4 15 104 #[.val (.int c), .val (.long f), .second, .val (.long e), .second, .val (.long t), .second, .val (.int k), .val (.ref a2), .val (.ref a21), .val (.ref a39), .val (.int (-1 : Int32)), .unset] [.int (1 : Int32), .int (-1 : Int32), .int (0 : Int32)]
        refine OwnKit.iadd K at_104 ?_
        show OwnKit.Go κ h198 4 15 105 #[.val (.int c), .val (.long f), .second, .val (.long e), .second, .val (.long t), .second, .val (.int k), .val (.ref a2), .val (.ref a21), .val (.ref a39), .val (.int (-1 : Int32)), .unset] [.int ((-1 : Int32) + (1 : Int32)), .int (0 : Int32)]
        show OwnKit.Go κ h198 4 15 105 #[.val (.int c), .val (.long f), .second, .val (.long e), .second, .val (.long t), .second, .val (.int k), .val (.ref a2), .val (.ref a21), .val (.ref a39), .val (.int (-1 : Int32)), .unset] [.int (0 : Int32), .int (0 : Int32)]
        refine OwnKit.icmpne K at_105 (by decide) (pc' := 112) rfl  (fun b209 => ?_) (fun b209 => ?_)
        · exact absurd b209 (by decide)
        · show OwnKit.Go κ h198 4 15 108 #[.val (.int c), .val (.long f), .second, .val (.long e), .second, .val (.long t), .second, .val (.int k), .val (.ref a2), .val (.ref a21), .val (.ref a39), .val (.int (-1 : Int32)), .unset] []
          refine OwnKit.iconst K at_108 ?_
          show OwnKit.Go κ h198 4 15 109 #[.val (.int c), .val (.long f), .second, .val (.long e), .second, .val (.long t), .second, .val (.int k), .val (.ref a2), .val (.ref a21), .val (.ref a39), .val (.int (-1 : Int32)), .unset] [.int (1 : Int32)]
          refine OwnKit.goto K at_109 (by decide) (pc' := 113) rfl ?_
          show OwnKit.Go κ h198 4 15 113 #[.val (.int c), .val (.long f), .second, .val (.long e), .second, .val (.long t), .second, .val (.int k), .val (.ref a2), .val (.ref a21), .val (.ref a39), .val (.int (-1 : Int32)), .unset] [.int (1 : Int32)]
          refine OwnKit.istore K at_113 (l' := #[.val (.int c), .val (.long f), .second, .val (.long e), .second, .val (.long t), .second, .val (.int k), .val (.ref a2), .val (.ref a21), .val (.ref a39), .val (.int (-1 : Int32)), .val (.int (1 : Int32))]) rfl ?_
          show OwnKit.Go κ h198 4 15 115 #[.val (.int c), .val (.long f), .second, .val (.long e), .second, .val (.long t), .second, .val (.int k), .val (.ref a2), .val (.ref a21), .val (.ref a39), .val (.int (-1 : Int32)), .val (.int (1 : Int32))] []
          refine OwnKit.aload K at_115 rfl rfl ?_
          show OwnKit.Go κ h198 4 15 117 #[.val (.int c), .val (.long f), .second, .val (.long e), .second, .val (.long t), .second, .val (.int k), .val (.ref a2), .val (.ref a21), .val (.ref a39), .val (.int (-1 : Int32)), .val (.int (1 : Int32))] [.ref a39]
          refine OwnKit.invV (y := (⟨"com/example/forelock/forelock/core/Holds$Hold", "enter", "()V"⟩ : MethodName)) (z := (⟨"com/example/forelock/forelock/core/Holds$Hold", "enter", "()V"⟩ : MethodName)) (argsL := []) (rest := []) K (c_enter l Z a0 hw n0 h198 a39 (0 : Int32) (by decide) E202 G41 F203) at_117 E202 (hw _ (List.mem_of_getElem? (i := 52) rfl)) (hw _ (List.mem_of_getElem? (i := 53) rfl)) (OwnKit.nfS (hw _ (List.mem_of_getElem? (i := 55) rfl))) (hw _ (List.mem_of_getElem? (i := 55) rfl)) (hw _ (List.mem_of_getElem? (i := 54) rfl)) (hw _ (List.mem_of_getElem? (i := 56) rfl)) (hw _ (List.mem_of_getElem? (i := 32) rfl)) (by decide) (lenOf (by decide +kernel : parseMethodDescriptor "()V" = some ⟨[], none⟩) rfl) rfl rfl (W := 0) (Nat.le_of_ble_eq_true rfl) (Nat.le_of_ble_eq_true rfl) (Nat.le_of_ble_eq_true rfl) (Nat.le_of_ble_eq_true rfl) (Nat.le_of_ble_eq_true rfl) ?_
          rintro _ h210 ⟨rfl, W212⟩ g211
          have E213 := E201.wr W212
          have E214 := E202.wr W212
          have F215 := Fld.same W212 F203
          have F216 := Fld.other W212 F204 (Or.inr (RoadKit.slot_ne (t := (.object "java/lang/String")) (t' := .int) (Or.inr (hw _ (List.mem_of_getElem? (i := 40) rfl))) (Or.inl (hw _ (List.mem_of_getElem? (i := 38) rfl))) (by decide) (by decide +kernel) (by decide +kernel)))
          have F217 := Fld.other W212 F205 (Or.inr (RoadKit.slot_ne (t := .long) (t' := .int) (Or.inr (hw _ (List.mem_of_getElem? (i := 42) rfl))) (Or.inl (hw _ (List.mem_of_getElem? (i := 38) rfl))) (by decide) (by decide +kernel) (by decide +kernel)))
          have F218 := Fld.other W212 F206 (Or.inr (RoadKit.slot_ne (t := .long) (t' := .int) (Or.inr (hw _ (List.mem_of_getElem? (i := 44) rfl))) (Or.inl (hw _ (List.mem_of_getElem? (i := 38) rfl))) (by decide) (by decide +kernel) (by decide +kernel)))
          show OwnKit.Go κ h210 4 15 120 #[.val (.int c), .val (.long f), .second, .val (.long e), .second, .val (.long t), .second, .val (.int k), .val (.ref a2), .val (.ref a21), .val (.ref a39), .val (.int (-1 : Int32)), .val (.int (1 : Int32))] []
          refine OwnKit.iload K at_120 rfl ?_
          show OwnKit.Go κ h210 4 15 122 #[.val (.int c), .val (.long f), .second, .val (.long e), .second, .val (.long t), .second, .val (.int k), .val (.ref a2), .val (.ref a21), .val (.ref a39), .val (.int (-1 : Int32)), .val (.int (1 : Int32))] [.int (1 : Int32)]
          refine OwnKit.ifeq K at_122 (by decide) (pc' := 141) rfl  (fun b219 => ?_) (fun b219 => ?_)
          · exact absurd b219 (by decide)
          · show OwnKit.Go κ h210 4 15 125 #[.val (.int c), .val (.long f), .second, .val (.long e), .second, .val (.long t), .second, .val (.int k), .val (.ref a2), .val (.ref a21), .val (.ref a39), .val (.int (-1 : Int32)), .val (.int (1 : Int32))] []
            refine OwnKit.aload K at_125 rfl rfl ?_
            show OwnKit.Go κ h210 4 15 127 #[.val (.int c), .val (.long f), .second, .val (.long e), .second, .val (.long t), .second, .val (.int k), .val (.ref a2), .val (.ref a21), .val (.ref a39), .val (.int (-1 : Int32)), .val (.int (1 : Int32))] [.ref a39]
            refine OwnKit.invV (y := (⟨"com/example/forelock/forelock/core/Holds$Hold", "count", "()I"⟩ : MethodName)) (z := (⟨"com/example/forelock/forelock/core/Holds$Hold", "count", "()I"⟩ : MethodName)) (argsL := []) (rest := []) K (c_count l Z a0 hw n0 h210 a39 (1 : Int32) E214 F215) at_127 E214 (hw _ (List.mem_of_getElem? (i := 58) rfl)) (hw _ (List.mem_of_getElem? (i := 59) rfl)) (OwnKit.nfS (hw _ (List.mem_of_getElem? (i := 61) rfl))) (hw _ (List.mem_of_getElem? (i := 61) rfl)) (hw _ (List.mem_of_getElem? (i := 60) rfl)) (hw _ (List.mem_of_getElem? (i := 62) rfl)) (hw _ (List.mem_of_getElem? (i := 32) rfl)) (by decide) (lenOf (by decide +kernel : parseMethodDescriptor "()I" = some ⟨[], some .int⟩) rfl) rfl rfl (W := 0) (Nat.le_of_ble_eq_true rfl) (Nat.le_of_ble_eq_true rfl) (Nat.le_of_ble_eq_true rfl) (Nat.le_of_ble_eq_true rfl) (Nat.le_of_ble_eq_true rfl) ?_
            rintro _ h220 ⟨rfl, rfl⟩ g221
            show OwnKit.Go κ h210 4 15 130 #[.val (.int c), .val (.long f), .second, .val (.long e), .second, .val (.long t), .second, .val (.int k), .val (.ref a2), .val (.ref a21), .val (.ref a39), .val (.int (-1 : Int32)), .val (.int (1 : Int32))] [.int (1 : Int32)]
            refine OwnKit.iload K at_130 rfl ?_
            show OwnKit.Go κ h210 4 15 132 #[.val (.int c), .val (.long f), .second, .val (.long e), .second, .val (.long t), .second, .val (.int k), .val (.ref a2), .val (.ref a21), .val (.ref a39), .val (.int (-1 : Int32)), .val (.int (1 : Int32))] [.int (-1 : Int32), .int (1 : Int32)]
            refine OwnKit.iconst K at_132 ?_
            show OwnKit.Go κ h210 4 15 133 #[.val (.int c), .val (.long f), .second, .val (.long e), .second, .val (.long t), .second, .val (.int k), .val (.ref a2), .val (.ref a21), .val (.ref a39), .val (.int (-1 : Int32)), .val (.int (1 : Int32))] [.int (2 : Int32), .int (-1 : Int32), .int (1 : Int32)]
            refine OwnKit.iadd K at_133 ?_
            show OwnKit.Go κ h210 4 15 134 #[.val (.int c), .val (.long f), .second, .val (.long e), .second, .val (.long t), .second, .val (.int k), .val (.ref a2), .val (.ref a21), .val (.ref a39), .val (.int (-1 : Int32)), .val (.int (1 : Int32))] [.int ((-1 : Int32) + (2 : Int32)), .int (1 : Int32)]
            show OwnKit.Go κ h210 4 15 134 #[.val (.int c), .val (.long f), .second, .val (.long e), .second, .val (.long t), .second, .val (.int k), .val (.ref a2), .val (.ref a21), .val (.ref a39), .val (.int (-1 : Int32)), .val (.int (1 : Int32))] [.int (1 : Int32), .int (1 : Int32)]
            refine OwnKit.icmpne K at_134 (by decide) (pc' := 141) rfl  (fun b222 => ?_) (fun b222 => ?_)
            · exact absurd b222 (by decide)
            · show OwnKit.Go κ h210 4 15 137 #[.val (.int c), .val (.long f), .second, .val (.long e), .second, .val (.long t), .second, .val (.int k), .val (.ref a2), .val (.ref a21), .val (.ref a39), .val (.int (-1 : Int32)), .val (.int (1 : Int32))] []
              refine OwnKit.iconst K at_137 ?_
              show OwnKit.Go κ h210 4 15 138 #[.val (.int c), .val (.long f), .second, .val (.long e), .second, .val (.long t), .second, .val (.int k), .val (.ref a2), .val (.ref a21), .val (.ref a39), .val (.int (-1 : Int32)), .val (.int (1 : Int32))] [.int (1 : Int32)]
              refine OwnKit.goto K at_138 (by decide) (pc' := 142) rfl ?_
              show OwnKit.Go κ h210 4 15 142 #[.val (.int c), .val (.long f), .second, .val (.long e), .second, .val (.long t), .second, .val (.int k), .val (.ref a2), .val (.ref a21), .val (.ref a39), .val (.int (-1 : Int32)), .val (.int (1 : Int32))] [.int (1 : Int32)]
              refine OwnKit.istore K at_142 (l' := #[.val (.int c), .val (.long f), .second, .val (.long e), .second, .val (.long t), .second, .val (.int k), .val (.ref a2), .val (.ref a21), .val (.ref a39), .val (.int (-1 : Int32)), .val (.int (1 : Int32))]) rfl ?_
              show OwnKit.Go κ h210 4 15 144 #[.val (.int c), .val (.long f), .second, .val (.long e), .second, .val (.long t), .second, .val (.int k), .val (.ref a2), .val (.ref a21), .val (.ref a39), .val (.int (-1 : Int32)), .val (.int (1 : Int32))] []
              refine OwnKit.iload K at_144 rfl ?_
              show OwnKit.Go κ h210 4 15 146 #[.val (.int c), .val (.long f), .second, .val (.long e), .second, .val (.long t), .second, .val (.int k), .val (.ref a2), .val (.ref a21), .val (.ref a39), .val (.int (-1 : Int32)), .val (.int (1 : Int32))] [.int (1 : Int32)]
              refine OwnKit.ifeq K at_146 (by decide) (pc' := 186) rfl  (fun b223 => ?_) (fun b223 => ?_)
              · exact absurd b223 (by decide)
              · show OwnKit.Go κ h210 4 15 149 #[.val (.int c), .val (.long f), .second, .val (.long e), .second, .val (.long t), .second, .val (.int k), .val (.ref a2), .val (.ref a21), .val (.ref a39), .val (.int (-1 : Int32)), .val (.int (1 : Int32))] []
                refine OwnKit.aload K at_149 rfl rfl ?_
                show OwnKit.Go κ h210 4 15 151 #[.val (.int c), .val (.long f), .second, .val (.long e), .second, .val (.long t), .second, .val (.int k), .val (.ref a2), .val (.ref a21), .val (.ref a39), .val (.int (-1 : Int32)), .val (.int (1 : Int32))] [.ref a39]
                refine OwnKit.invV (y := (⟨"com/example/forelock/forelock/core/Holds$Hold", "fencingToken", "()J"⟩ : MethodName)) (z := (⟨"com/example/forelock/forelock/core/Holds$Hold", "fencingToken", "()J"⟩ : MethodName)) (argsL := []) (rest := []) K (c_fencingToken l Z a0 hw n0 h210 a39 f E214 F217) at_151 E214 (hw _ (List.mem_of_getElem? (i := 63) rfl)) (hw _ (List.mem_of_getElem? (i := 64) rfl)) (OwnKit.nfS (hw _ (List.mem_of_getElem? (i := 66) rfl))) (hw _ (List.mem_of_getElem? (i := 66) rfl)) (hw _ (List.mem_of_getElem? (i := 65) rfl)) (hw _ (List.mem_of_getElem? (i := 67) rfl)) (hw _ (List.mem_of_getElem? (i := 32) rfl)) (by decide) (lenOf (by decide +kernel : parseMethodDescriptor "()J" = some ⟨[], some .long⟩) rfl) rfl rfl (W := 0) (Nat.le_of_ble_eq_true rfl) (Nat.le_of_ble_eq_true rfl) (Nat.le_of_ble_eq_true rfl) (Nat.le_of_ble_eq_true rfl) (Nat.le_of_ble_eq_true rfl) ?_
                rintro _ h224 ⟨rfl, rfl⟩ g225
                show OwnKit.Go κ h210 4 15 154 #[.val (.int c), .val (.long f), .second, .val (.long e), .second, .val (.long t), .second, .val (.int k), .val (.ref a2), .val (.ref a21), .val (.ref a39), .val (.int (-1 : Int32)), .val (.int (1 : Int32))] [.long f]
                refine OwnKit.lloadN K at_154 rfl ?_
                show OwnKit.Go κ h210 4 15 155 #[.val (.int c), .val (.long f), .second, .val (.long e), .second, .val (.long t), .second, .val (.int k), .val (.ref a2), .val (.ref a21), .val (.ref a39), .val (.int (-1 : Int32)), .val (.int (1 : Int32))] [.long f, .long f]
                refine OwnKit.lcmp K at_155 ?_
                show OwnKit.Go κ h210 4 15 156 #[.val (.int c), .val (.long f), .second, .val (.long e), .second, .val (.long t), .second, .val (.int k), .val (.ref a2), .val (.ref a21), .val (.ref a39), .val (.int (-1 : Int32)), .val (.int (1 : Int32))] [.int (XT.cmpL f f)]
                refine OwnKit.ifne K at_156 (by decide) (pc' := 186) rfl  (fun b226 => ?_) (fun b226 => ?_)
                · exact absurd ((OwnKit.cmp_eq _ _).mpr rfl) b226
                · show OwnKit.Go κ h210 4 15 159 #[.val (.int c), .val (.long f), .second, .val (.long e), .second, .val (.long t), .second, .val (.int k), .val (.ref a2), .val (.ref a21), .val (.ref a39), .val (.int (-1 : Int32)), .val (.int (1 : Int32))] []
                  refine OwnKit.aload K at_159 rfl rfl ?_
                  show OwnKit.Go κ h210 4 15 161 #[.val (.int c), .val (.long f), .second, .val (.long e), .second, .val (.long t), .second, .val (.int k), .val (.ref a2), .val (.ref a21), .val (.ref a39), .val (.int (-1 : Int32)), .val (.int (1 : Int32))] [.ref a39]
                  refine OwnKit.invV (y := (⟨"com/example/forelock/forelock/core/Holds$Hold", "leaseNanos", "()J"⟩ : MethodName)) (z := (⟨"com/example/forelock/forelock/core/Holds$Hold", "leaseNanos", "()J"⟩ : MethodName)) (argsL := []) (rest := []) K (c_leaseNanos l Z a0 hw n0 h210 a39 e E214 F218) at_161 E214 (hw _ (List.mem_of_getElem? (i := 68) rfl)) (hw _ (List.mem_of_getElem? (i := 69) rfl)) (OwnKit.nfS (hw _ (List.mem_of_getElem? (i := 71) rfl))) (hw _ (List.mem_of_getElem? (i := 71) rfl)) (hw _ (List.mem_of_getElem? (i := 70) rfl)) (hw _ (List.mem_of_getElem? (i := 72) rfl)) (hw _ (List.mem_of_getElem? (i := 32) rfl)) (by decide) (lenOf (by decide +kernel : parseMethodDescriptor "()J" = some ⟨[], some .long⟩) rfl) rfl rfl (W := 0) (Nat.le_of_ble_eq_true rfl) (Nat.le_of_ble_eq_true rfl) (Nat.le_of_ble_eq_true rfl) (Nat.le_of_ble_eq_true rfl) (Nat.le_of_ble_eq_true rfl) ?_
                  rintro _ h227 ⟨rfl, rfl⟩ g228
                  show OwnKit.Go κ h210 4 15 164 #[.val (.int c), .val (.long f), .second, .val (.long e), .second, .val (.long t), .second, .val (.int k), .val (.ref a2), .val (.ref a21), .val (.ref a39), .val (.int (-1 : Int32)), .val (.int (1 : Int32))] [.long e]
                  refine OwnKit.lloadN K at_164 rfl ?_
                  show OwnKit.Go κ h210 4 15 165 #[.val (.int c), .val (.long f), .second, .val (.long e), .second, .val (.long t), .second, .val (.int k), .val (.ref a2), .val (.ref a21), .val (.ref a39), .val (.int (-1 : Int32)), .val (.int (1 : Int32))] [.long e, .long e]
                  refine OwnKit.lcmp K at_165 ?_
                  show OwnKit.Go κ h210 4 15 166 #[.val (.int c), .val (.long f), .second, .val (.long e), .second, .val (.long t), .second, .val (.int k), .val (.ref a2), .val (.ref a21), .val (.ref a39), .val (.int (-1 : Int32)), .val (.int (1 : Int32))] [.int (XT.cmpL e e)]
                  refine OwnKit.ifne K at_166 (by decide) (pc' := 186) rfl  (fun b229 => ?_) (fun b229 => ?_)
                  · exact absurd ((OwnKit.cmp_eq _ _).mpr rfl) b229
                  · show OwnKit.Go κ h210 4 15 169 #[.val (.int c), .val (.long f), .second, .val (.long e), .second, .val (.long t), .second, .val (.int k), .val (.ref a2), .val (.ref a21), .val (.ref a39), .val (.int (-1 : Int32)), .val (.int (1 : Int32))] []
                    refine OwnKit.aload K at_169 rfl rfl ?_
                    show OwnKit.Go κ h210 4 15 171 #[.val (.int c), .val (.long f), .second, .val (.long e), .second, .val (.long t), .second, .val (.int k), .val (.ref a2), .val (.ref a21), .val (.ref a39), .val (.int (-1 : Int32)), .val (.int (1 : Int32))] [.ref a39]
                    refine OwnKit.invV (y := (⟨"com/example/forelock/forelock/core/Holds$Hold", "ownerToken", "()Ljava/lang/String;"⟩ : MethodName)) (z := (⟨"com/example/forelock/forelock/core/Holds$Hold", "ownerToken", "()Ljava/lang/String;"⟩ : MethodName)) (argsL := []) (rest := []) K (c_ownerToken l Z a0 hw n0 h210 a39 a21 E214 F216) at_171 E214 (hw _ (List.mem_of_getElem? (i := 73) rfl)) (hw _ (List.mem_of_getElem? (i := 74) rfl)) (OwnKit.nfS (hw _ (List.mem_of_getElem? (i := 76) rfl))) (hw _ (List.mem_of_getElem? (i := 76) rfl)) (hw _ (List.mem_of_getElem? (i := 75) rfl)) (hw _ (List.mem_of_getElem? (i := 77) rfl)) (hw _ (List.mem_of_getElem? (i := 32) rfl)) (by decide) (lenOf (by decide +kernel : parseMethodDescriptor "()Ljava/lang/String;" = some ⟨[], some (.object "java/lang/String")⟩) rfl) rfl rfl (W := 0) (Nat.le_of_ble_eq_true rfl) (Nat.le_of_ble_eq_true rfl) (Nat.le_of_ble_eq_true rfl) (Nat.le_of_ble_eq_true rfl) (Nat.le_of_ble_eq_true rfl) ?_
                    rintro _ h230 ⟨rfl, rfl⟩ g231
                    show OwnKit.Go κ h210 4 15 174 #[.val (.int c), .val (.long f), .second, .val (.long e), .second, .val (.long t), .second, .val (.int k), .val (.ref a2), .val (.ref a21), .val (.ref a39), .val (.int (-1 : Int32)), .val (.int (1 : Int32))] [.ref a21]
                    refine OwnKit.aload K at_174 rfl rfl ?_
                    show OwnKit.Go κ h210 4 15 176 #[.val (.int c), .val (.long f), .second, .val (.long e), .second, .val (.long t), .second, .val (.int k), .val (.ref a2), .val (.ref a21), .val (.ref a39), .val (.int (-1 : Int32)), .val (.int (1 : Int32))] [.ref a21, .ref a21]
                    refine OwnKit.invV (y := (⟨"java/lang/String", "equals", "(Ljava/lang/Object;)Z"⟩ : MethodName)) (z := (⟨"java/lang/String", "equals", "(Ljava/lang/Object;)Z"⟩ : MethodName)) (argsL := [.ref a21]) (rest := []) K (c_eq l Z a0 hw n0 h210 a21) at_176 E213 (hw _ (List.mem_of_getElem? (i := 78) rfl)) (hw _ (List.mem_of_getElem? (i := 79) rfl)) (OwnKit.nfS (hw _ (List.mem_of_getElem? (i := 81) rfl))) (hw _ (List.mem_of_getElem? (i := 81) rfl)) (hw _ (List.mem_of_getElem? (i := 80) rfl)) (hw _ (List.mem_of_getElem? (i := 82) rfl)) (hw _ (List.mem_of_getElem? (i := 3) rfl)) (by decide) (lenOf (by decide +kernel : parseMethodDescriptor "(Ljava/lang/Object;)Z" = some ⟨[(.object "java/lang/Object")], some .boolean⟩) rfl) rfl rfl (W := 0) (Nat.le_of_ble_eq_true rfl) (Nat.le_of_ble_eq_true rfl) (Nat.le_of_ble_eq_true rfl) (Nat.le_of_ble_eq_true rfl) (Nat.le_of_ble_eq_true rfl) ?_
                    rintro _ h232 ⟨rfl, rfl⟩ g233
                    show OwnKit.Go κ h210 4 15 179 #[.val (.int c), .val (.long f), .second, .val (.long e), .second, .val (.long t), .second, .val (.int k), .val (.ref a2), .val (.ref a21), .val (.ref a39), .val (.int (-1 : Int32)), .val (.int (1 : Int32))] [.int (1 : Int32)]
                    refine OwnKit.ifeq K at_179 (by decide) (pc' := 186) rfl  (fun b234 => ?_) (fun b234 => ?_)
                    · exact absurd b234 (by decide)
                    · show OwnKit.Go κ h210 4 15 182 #[.val (.int c), .val (.long f), .second, .val (.long e), .second, .val (.long t), .second, .val (.int k), .val (.ref a2), .val (.ref a21), .val (.ref a39), .val (.int (-1 : Int32)), .val (.int (1 : Int32))] []
                      refine OwnKit.iconst K at_182 ?_
                      show OwnKit.Go κ h210 4 15 183 #[.val (.int c), .val (.long f), .second, .val (.long e), .second, .val (.long t), .second, .val (.int k), .val (.ref a2), .val (.ref a21), .val (.ref a39), .val (.int (-1 : Int32)), .val (.int (1 : Int32))] [.int (1 : Int32)]
                      refine OwnKit.goto K at_183 (by decide) (pc' := 187) rfl ?_
                      show OwnKit.Go κ h210 4 15 187 #[.val (.int c), .val (.long f), .second, .val (.long e), .second, .val (.long t), .second, .val (.int k), .val (.ref a2), .val (.ref a21), .val (.ref a39), .val (.int (-1 : Int32)), .val (.int (1 : Int32))] [.int (1 : Int32)]
                      refine OwnKit.ireturn K at_187 (Or.inr (Or.inl rfl)) rfl ?_ (Nat.le_of_ble_eq_true rfl) (Nat.le_of_ble_eq_true rfl)
                      exact rfl
  · intro m; first | rfl | (simp [entryFrame, mkF, argsToLocals, Value.category, maxLocals]; done)

set_option maxRecDepth 65536 in
set_option maxHeartbeats 40000000 in
theorem comes_1 {Post : Tables → Env → Array Value → State → Outcome → State → Prop} (hpost : ∀ tb e args s v u, (limb_1_1.after args s (.returned v) u = true ∧ limb_1_2.after args s (.returned v) u = true ∧ True) → FrameEnd s (.returned v) u (Jvm.fieldLocs frame_1_writes args s ++ Jvm.arrayLocs frame_1_arrays args s ++ Jvm.staticLocs frame_1_statics s) 16 128 → Post tb e args s (.returned v) u) :
    ArmFor flags0 classFile x code maxLocals ret World_1 tables_1 room_1 Calls_1 rest_1 Pre_1 Post := by
  intro l hfl _ _ p e ha hc hk s m args below hf hA hF happ hP
  obtain ⟨hcalls, hrest, hpre⟩ := hP
  obtain ⟨-, -, -, hnamed, -, -, -, hat⟩ := (Spec.applies_iff hf).mp happ
  obtain ⟨hg, hn⟩ := and_e (Cond.before_iff.mp (show (Jvm.Cond.and given_1 narrow_1).before args s = true from hpre))
  obtain ⟨hg0, hg1⟩ := and_e hg
  obtain ⟨hk1, hg2⟩ := and_e hg1
  obtain ⟨hk2, hg3⟩ := and_e hg2
  obtain ⟨hk3, hg4⟩ := and_e hg3
  obtain ⟨hk4, hg5⟩ := and_e hg4
  obtain ⟨w0, w1, w2, w3, w4, rfl⟩ : ∃ w0 w1 w2 w3 w4 : Value, args = #[w0, w1, w2, w3, w4] := by
    have hs : args.size = 5 := by simpa [Cond.value, given_1] using hg0
    obtain ⟨L⟩ := args
    match L, hs with
    | [w0, w1, w2, w3, w4], _ => exact ⟨w0, w1, w2, w3, w4, rfl⟩
  have hw := fun d (hd : d ∈ tables_1) => atoms_spec (ws := Jvm.Cond.code x code maxLocals ret :: tables_1) hat d (List.mem_cons_of_mem _ hd)
  obtain ⟨hsets, hown0⟩ := atoms_of _ (rest_1_c_eq ▸ (show rest_1_c.before _ s = true from hrest))
  have hfit : Fit s := fun {y c} hc i hi => by
    obtain ⟨ha, rfl⟩ := Array.getElem?_eq_some_iff.mp hc
    have q := List.all_eq_true.mp ((Array.all_eq_true_iff_forall_mem.mp hF) _ (Array.getElem_mem ha)) i (List.mem_range.mpr hi)
    simpa [Array.getElem?_eq_getElem hi] using q
  obtain ⟨p0, ep0⟩ := is_v hk1
  obtain rfl : w0 = (.int p0) := Option.some.inj ep0
  obtain ⟨p1, ep1⟩ := isL_v hk2
  obtain rfl : w1 = (.long p1) := Option.some.inj ep1
  obtain ⟨p2, ep2⟩ := isL_v hk3
  obtain rfl : w2 = (.long p2) := Option.some.inj ep2
  obtain ⟨p3, ep3⟩ := isL_v hk4
  obtain rfl : w3 = (.long p3) := Option.some.inj ep3
  obtain ⟨p4, ep4⟩ := is_v hg5
  obtain rfl : w4 = (.int p4) := Option.some.inj ep4
  obtain ⟨i_COMPACT_STRINGS, ev_COMPACT_STRINGS⟩ := is_v (Cond.before_iff.mp (hsets _ (List.mem_of_getElem? (i := 1) rfl)))
  have S_COMPACT_STRINGS := Sta.start ev_COMPACT_STRINGS (Or.inl (hsets _ (List.mem_of_getElem? (i := 0) rfl)))
  have nz_COMPACT_STRINGS : ¬ i_COMPACT_STRINGS = (0 : Int32) := gotF (Cond.eq_ints ev_COMPACT_STRINGS (Term.int_eval (0))) (not_v (Cond.before_iff.mp (hsets _ (List.mem_of_getElem? (i := 2) rfl))))
  obtain ⟨v_SIOOBE_FORMATTER, ev_SIOOBE_FORMATTER, hr_v_SIOOBE_FORMATTER⟩ := isR_v (Cond.before_iff.mp (hsets _ (List.mem_of_getElem? (i := 8) rfl)))
  have S_SIOOBE_FORMATTER := Sta.start ev_SIOOBE_FORMATTER (Or.inl (hsets _ (List.mem_of_getElem? (i := 7) rfl)))
  obtain ⟨n, o, h1, h2, h3, v, L, rfl, ⟨q1, N, -, -⟩, hq⟩ := (c_law l s _ hw _ s.heap p0 p1 p2 p3 p4 i_COMPACT_STRINGS v_SIOOBE_FORMATTER S_COMPACT_STRINGS nz_COMPACT_STRINGS S_SIOOBE_FORMATTER hr_v_SIOOBE_FORMATTER) (Old.start s) tables_1 p e ha hc hk s m _ below hf ((Spec.applies_iff_loose hf).mp happ).1 ⟨rfl, State.Warmed39.refl s, rfl⟩ trivial
  obtain rfl : v = some (.int 1) := q1
  refine ⟨n, _, h1, h2, h3, hpost _ _ _ _ _ _ ⟨Cond.after_iff.mpr rfl, Cond.after_iff.mpr (eq_i res_at (Term.int_eval (1)) rfl), trivial⟩ ⟨(hq.1 rfl).1, (hq.1 rfl).2.1, ((hq.1 rfl).2.2.sift fun y hy => Or.inr (N y hy)).mono (by decide) (by decide)⟩⟩
theorem main_1_1 : Claimed_1_1 := comes_1 fun _ _ _ _ _ _ h hF => ⟨h.1, hF⟩
theorem main_1_2 : Claimed_1_2 := comes_1 fun _ _ _ _ _ _ h hF => ⟨h.2.1, hF⟩
end Jvm.Pilot.@@N@@
namespace Jvm.Pilot.@@N@@
open Jvm Jvm.ClassFile Sem Op Lib Jvm.Free Jvm.Stand Jvm.Pilot.@@N@@.Jvm.D
/-! MADE BY PROGRAM (witnessworld.py) out of the Statement's table words and the real class files: 20 classes; the members and pool entries that the words name. The judged class is class 1, her method 1. -/
namespace start1
open Jvm.ClassFile
def u (s : String) : CpInfo := .utf8 (stringToUtf16 s)
/-- a pool by its gaps: so many unusable entries, then the entry; so many at the end -/
def gap : Nat → List CpInfo → List CpInfo
  | 0, r => r
  | n + 1, r => .unusable :: gap n r
def poolList (es : List (Nat × CpInfo)) (last : Nat) : List CpInfo := es.foldr (fun e r => gap e.1 (e.2 :: r)) (gap last [])
def pool (es : List (Nat × CpInfo)) (last : Nat) : Array CpInfo := ⟨poolList es last⟩
def fileOf (pool : Array CpInfo) (this : Nat) (attrs : Array Attribute := #[]) (ms : Array MethodInfo := #[]) (fl : Nat := 33) (sup : Nat := 0) (ifs : Array Nat := #[]) (fds : Array FieldInfo := #[]) : ClassFile where
  minorVersion := 0
  majorVersion := 65
  constantPool := pool
  accessFlags := fl
  thisClass := this
  superClass := sup
  interfaces := ifs
  fields := fds
  methods := ms
  attributes := attrs
def plain (name : String) (sup : Option ClassId) : Class where
  name := name
  kind := .ordinary
  loader := none
  accessFlags := 33
  super := sup
  interfaces := #[]
  cf := none
  fields := #[]
  methods := #[]
  instanceTypes := #[]
  staticTypes := #[]
  resolved := #[]
  callSites := []
  init := .initialized
  statics := none
  mirror := none

def pool0 : Array CpInfo := pool [(5, u "<init>"), (0, u "()V"), (1, .class_ 10), (1, u "java/lang/Object")] 113

def k0c0 : Code := { maxStack := 0, maxLocals := 1, code := object_method_1_code, exceptionTable := #[], attributes := #[] }
def k0m0 : Method := { name := "<init>", desc := "()V", sig := { parameters := [], returnType := none }, accessFlags := 1, code := some k0c0 }
/-- java/lang/Object -/
def k0 : Class := { plain "java/lang/Object" none with
  accessFlags := 33
  interfaces := #[]
  cf := some (fileOf pool0 8 #[] #[{ accessFlags := 1, nameIndex := 5, descriptorIndex := 6, attributes := #[] }] 33 0 #[] #[])
  fields := #[]
  methods := #[k0m0]
  instanceTypes := #[]
  staticTypes := #[]
  resolved := Array.replicate 124 none
  statics := none }

def pool1 : Array CpInfo := pool [(2, .class_ 4), (1, u "java/lang/Object"), (0, u "<init>"), (0, u "()V"), (0, .class_ 8), (0, u "java/lang/String"), (0, .methodref 7 10), (0, .nameAndType 5 11), (0, u "([C)V"), (0, .class_ 13), (0, u "com/example/forelock/forelock/core/Holds$Hold"), (0, .methodref 12 15), (0, .nameAndType 5 16), (0, u "(Ljava/lang/String;JJJ)V"), (0, .methodref 12 18), (0, .nameAndType 19 6), (0, u "exit"), (0, .methodref 12 21), (0, .nameAndType 22 6), (0, u "enter"), (0, .methodref 12 24), (0, .nameAndType 25 26), (0, u "count"), (0, u "()I"), (0, .methodref 12 28), (0, .nameAndType 29 30), (0, u "fencingToken"), (0, u "()J"), (0, .methodref 12 32), (0, .nameAndType 33 30), (0, u "leaseNanos"), (0, .methodref 12 35), (0, .nameAndType 36 37), (0, u "ownerToken"), (0, u "()Ljava/lang/String;"), (0, .methodref 7 39), (0, .nameAndType 40 41), (0, u "equals"), (0, u "(Ljava/lang/Object;)Z"), (0, .class_ 43), (0, u "com/example/forelock/forelock/core/HoldEnterPinLaw"), (2, u "law"), (0, u "(IJJJI)Z")] 9

def k1m0 : Method := { name := "<init>", desc := "()V", sig := { parameters := [], returnType := none }, accessFlags := 1, code := none }
def k1c1 : Code := { maxStack := 9, maxLocals := 13, code := code, exceptionTable := #[], attributes := #[] }
def k1m1 : Method := { name := "law", desc := "(IJJJI)Z", sig := { parameters := [.int, .long, .long, .long, .int], returnType := some .boolean }, accessFlags := 9, code := some k1c1 }
/-- com/example/forelock/forelock/core/HoldEnterPinLaw -/
def k1 : Class := { plain "com/example/forelock/forelock/core/HoldEnterPinLaw" (some 0) with
  accessFlags := 49
  interfaces := #[]
  cf := some (fileOf pool1 42 #[] #[{ accessFlags := 1, nameIndex := 5, descriptorIndex := 6, attributes := #[] }, { accessFlags := 9, nameIndex := 46, descriptorIndex := 47, attributes := #[] }] 49 2 #[] #[])
  fields := #[]
  methods := #[k1m0, k1m1]
  instanceTypes := #[]
  staticTypes := #[]
  resolved := Array.replicate 57 none
  statics := none }

def pool2 : Array CpInfo := pool [(1, .class_ 2), (0, u "java/io/Serializable"), (0, .class_ 4), (0, u "java/lang/Object")] 2

/-- java/io/Serializable -/
def k2 : Class := { plain "java/io/Serializable" (some 0) with
  accessFlags := 1537
  interfaces := #[]
  cf := some (fileOf pool2 1 #[] #[] 1537 3 #[] #[])
  fields := #[]
  methods := #[]
  instanceTypes := #[]
  staticTypes := #[]
  resolved := Array.replicate 7 none
  statics := none }

def pool3 : Array CpInfo := pool [(1, .class_ 2), (0, u "java/lang/Comparable"), (0, .class_ 4), (0, u "java/lang/Object")] 7

/-- java/lang/Comparable -/
def k3 : Class := { plain "java/lang/Comparable" (some 0) with
  accessFlags := 1537
  interfaces := #[]
  cf := some (fileOf pool3 1 #[] #[] 1537 3 #[] #[])
  fields := #[]
  methods := #[]
  instanceTypes := #[]
  staticTypes := #[]
  resolved := Array.replicate 12 none
  statics := none }

def pool4 : Array CpInfo := pool [(2, .class_ 4), (1, u "java/lang/CharSequence"), (42, .class_ 48), (0, u "java/lang/CharSequence$1CodePointIterator"), (10, .class_ 60), (0, u "java/lang/CharSequence$1CharIterator"), (5, .class_ 67), (0, u "java/lang/Object")] 63

/-- java/lang/CharSequence -/
def k4 : Class := { plain "java/lang/CharSequence" (some 0) with
  accessFlags := 1537
  interfaces := #[]
  cf := some (fileOf pool4 2 #[.nestMembers #[47, 59]] #[] 1537 66 #[] #[])
  fields := #[]
  methods := #[]
  instanceTypes := #[]
  staticTypes := #[]
  resolved := Array.replicate 131 none
  statics := none }

def pool5 : Array CpInfo := pool [(1, .class_ 2), (0, u "java/lang/constant/Constable"), (0, .class_ 4), (0, u "java/lang/Object")] 6

/-- java/lang/constant/Constable -/
def k5 : Class := { plain "java/lang/constant/Constable" (some 0) with
  accessFlags := 1537
  interfaces := #[]
  cf := some (fileOf pool5 1 #[] #[] 1537 3 #[] #[])
  fields := #[]
  methods := #[]
  instanceTypes := #[]
  staticTypes := #[]
  resolved := Array.replicate 11 none
  statics := none }

def pool6 : Array CpInfo := pool [(1, .class_ 2), (0, u "java/lang/constant/ConstantDesc"), (0, .class_ 4), (0, u "java/lang/Object")] 32

/-- java/lang/constant/ConstantDesc -/
def k6 : Class := { plain "java/lang/constant/ConstantDesc" (some 0) with
  accessFlags := 1537
  interfaces := #[]
  cf := some (fileOf pool6 1 #[] #[] 1537 3 #[] #[])
  fields := #[]
  methods := #[]
  instanceTypes := #[]
  staticTypes := #[]
  resolved := Array.replicate 37 none
  statics := none }

def pool7 : Array CpInfo := pool [(1, .methodref 2 3), (0, .class_ 4), (0, .nameAndType 5 6), (0, u "java/lang/Object"), (0, u "<init>"), (0, u "()V"), (2, .fieldref 10 11), (0, .class_ 12), (0, .nameAndType 13 14), (0, u "java/lang/String"), (0, u "value"), (0, u "[B"), (0, .fieldref 10 16), (0, .nameAndType 17 18), (0, u "coder"), (0, u "B"), (2, u "hash"), (0, u "I"), (2, u "hashIsZero"), (0, u "Z"), (0, .methodref 10 28), (0, .nameAndType 5 29), (0, u "([CIILjava/lang/Void;)V"), (8, .fieldref 10 39), (0, .nameAndType 40 26), (0, u "COMPACT_STRINGS"), (1, .class_ 44), (1, u "java/lang/StringUTF16"), (0, u "compress"), (1, .methodref 42 48), (0, .nameAndType 49 50), (0, u "coderFromArrayLen"), (0, u "([BI)B"), (126, .methodref 42 178), (0, .nameAndType 45 179), (0, u "([CII)[B"), (363, u "equals"), (29, u "(Ljava/lang/Object;)Z"), (1, .class_ 576), (0, u "java/lang/CharSequence"), (22, u "CASE_INSENSITIVE_ORDER"), (0, u "Ljava/util/Comparator;"), (409, u "([C)V"), (90, u "serialPersistentFields"), (0, u "[Ljava/io/ObjectStreamField;"), (0, .class_ 1104), (0, u "java/lang/String$CaseInsensitiveComparator"), (1, .class_ 1107), (0, u "java/io/Serializable"), (0, .class_ 1109), (0, u "java/lang/Comparable"), (0, .class_ 1111), (0, u "java/lang/constant/Constable"), (0, .class_ 1113), (0, u "java/lang/constant/ConstantDesc"), (2, u "serialVersionUID"), (0, u "J"), (3, u "REPL"), (0, u "C"), (2, u "LATIN1"), (1, u "UTF16")] 323

def k7m0 : Method := { name := "<init>", desc := "()V", sig := { parameters := [], returnType := none }, accessFlags := 1, code := none }
def k7c1 : Code := { maxStack := 5, maxLocals := 2, code := jdk_42_method_3_code, exceptionTable := #[], attributes := #[] }
def k7m1 : Method := { name := "<init>", desc := "([C)V", sig := { parameters := [(.array .char)], returnType := none }, accessFlags := 1, code := some k7c1 }
def k7c2 : Code := { maxStack := 2, maxLocals := 3, code := jdk_42_method_66_code, exceptionTable := #[], attributes := #[] }
def k7m2 : Method := { name := "equals", desc := "(Ljava/lang/Object;)Z", sig := { parameters := [(.object "java/lang/Object")], returnType := some .boolean }, accessFlags := 1, code := some k7c2 }
def k7c3 : Code := { maxStack := 4, maxLocals := 6, code := jdk_42_method_149_code, exceptionTable := #[], attributes := #[] }
def k7m3 : Method := { name := "<init>", desc := "([CIILjava/lang/Void;)V", sig := { parameters := [(.array .char), .int, .int, (.object "java/lang/Void")], returnType := none }, accessFlags := 2, code := some k7c3 }
/-- java/lang/String -/
def k7 : Class := { plain "java/lang/String" (some 0) with
  accessFlags := 49
  interfaces := #[2, 3, 4, 5, 6]
  cf := some (fileOf pool7 10 #[.nestMembers #[1103]] #[{ accessFlags := 1, nameIndex := 5, descriptorIndex := 6, attributes := #[] }, { accessFlags := 1, nameIndex := 5, descriptorIndex := 1010, attributes := #[] }, { accessFlags := 1, nameIndex := 543, descriptorIndex := 573, attributes := #[] }, { accessFlags := 2, nameIndex := 5, descriptorIndex := 29, attributes := #[] }] 49 2 #[1106, 1108, 575, 1110, 1112] #[{ accessFlags := 18, nameIndex := 13, descriptorIndex := 14, attributes := #[] }, { accessFlags := 18, nameIndex := 17, descriptorIndex := 18, attributes := #[] }, { accessFlags := 2, nameIndex := 21, descriptorIndex := 22, attributes := #[] }, { accessFlags := 2, nameIndex := 25, descriptorIndex := 26, attributes := #[] }, { accessFlags := 26, nameIndex := 1116, descriptorIndex := 1117, attributes := #[] }, { accessFlags := 24, nameIndex := 40, descriptorIndex := 26, attributes := #[] }, { accessFlags := 26, nameIndex := 1101, descriptorIndex := 1102, attributes := #[] }, { accessFlags := 26, nameIndex := 1121, descriptorIndex := 1122, attributes := #[] }, { accessFlags := 25, nameIndex := 599, descriptorIndex := 600, attributes := #[] }, { accessFlags := 24, nameIndex := 1125, descriptorIndex := 18, attributes := #[] }, { accessFlags := 24, nameIndex := 1127, descriptorIndex := 18, attributes := #[] }])
  fields := #[{ name := "value", type := (.array .byte), accessFlags := 18, slot := 0, constantValue := 0 }, { name := "coder", type := .byte, accessFlags := 18, slot := 1, constantValue := 0 }, { name := "hash", type := .int, accessFlags := 2, slot := 2, constantValue := 0 }, { name := "hashIsZero", type := .boolean, accessFlags := 2, slot := 3, constantValue := 0 }, { name := "serialVersionUID", type := .long, accessFlags := 26, slot := 0, constantValue := 0 }, { name := "COMPACT_STRINGS", type := .boolean, accessFlags := 24, slot := 1, constantValue := 0 }, { name := "serialPersistentFields", type := (.array (.object "java/io/ObjectStreamField")), accessFlags := 26, slot := 2, constantValue := 0 }, { name := "REPL", type := .char, accessFlags := 26, slot := 3, constantValue := 0 }, { name := "CASE_INSENSITIVE_ORDER", type := (.object "java/util/Comparator"), accessFlags := 25, slot := 4, constantValue := 0 }, { name := "LATIN1", type := .byte, accessFlags := 24, slot := 5, constantValue := 0 }, { name := "UTF16", type := .byte, accessFlags := 24, slot := 6, constantValue := 0 }]
  methods := #[k7m0, k7m1, k7m2, k7m3]
  instanceTypes := #[(.array .byte), .byte, .int, .boolean]
  staticTypes := #[.long, .boolean, (.array (.object "java/io/ObjectStreamField")), .char, (.object "java/util/Comparator"), .byte, .byte]
  resolved := Array.replicate 1451 none
  statics := some 0 }

def pool8 : Array CpInfo := pool [(6, .class_ 8), (1, u "java/lang/Object"), (0, u "<init>"), (0, u "()V"), (1, .class_ 14), (1, u "java/lang/StringUTF16"), (31, u "$assertionsDisabled"), (0, u "Z"), (13, u "HI_BYTE_SHIFT"), (0, u "I"), (2, u "LO_BYTE_SHIFT"), (49, .methodref 12 116), (0, .nameAndType 117 118), (0, u "compress"), (0, u "([CI[BII)I"), (3, u "([CII)[B"), (138, u "coderFromArrayLen"), (0, u "([BI)B"), (106, .class_ 371), (1, u "java/lang/StringUTF16$LinesSpliterator"), (58, u "MAX_LENGTH"), (196, .class_ 628), (0, u "java/lang/StringUTF16$CodePointsSpliterator"), (0, .class_ 630), (0, u "java/lang/StringUTF16$CharsSpliterator")] 4

def k8m0 : Method := { name := "<init>", desc := "()V", sig := { parameters := [], returnType := none }, accessFlags := 0, code := none }
def k8c1 : Code := { maxStack := 2, maxLocals := 2, code := jdk_52_method_15_code, exceptionTable := #[], attributes := #[] }
def k8m1 : Method := { name := "coderFromArrayLen", desc := "([BI)B", sig := { parameters := [(.array .byte), .int], returnType := some .byte }, accessFlags := 8, code := some k8c1 }
def k8c2 : Code := { maxStack := 5, maxLocals := 6, code := jdk_52_method_16_code, exceptionTable := #[], attributes := #[] }
def k8m2 : Method := { name := "compress", desc := "([CII)[B", sig := { parameters := [(.array .char), .int, .int], returnType := some (.array .byte) }, accessFlags := 9, code := some k8c2 }
def k8c3 : Code := { maxStack := 3, maxLocals := 7, code := jdk_52_method_21_code, exceptionTable := #[], attributes := #[] }
def k8m3 : Method := { name := "compress", desc := "([CI[BII)I", sig := { parameters := [(.array .char), .int, (.array .byte), .int, .int], returnType := some .int }, accessFlags := 9, code := some k8c3 }
/-- java/lang/StringUTF16 -/
def k8 : Class := { plain "java/lang/StringUTF16" (some 0) with
  accessFlags := 48
  interfaces := #[]
  cf := some (fileOf pool8 12 #[.nestMembers #[627, 629, 369]] #[{ accessFlags := 0, nameIndex := 9, descriptorIndex := 10, attributes := #[] }, { accessFlags := 8, nameIndex := 261, descriptorIndex := 262, attributes := #[] }, { accessFlags := 9, nameIndex := 117, descriptorIndex := 122, attributes := #[] }, { accessFlags := 9, nameIndex := 117, descriptorIndex := 118, attributes := #[] }] 48 6 #[] #[{ accessFlags := 26, nameIndex := 61, descriptorIndex := 62, attributes := #[] }, { accessFlags := 26, nameIndex := 65, descriptorIndex := 62, attributes := #[] }, { accessFlags := 24, nameIndex := 430, descriptorIndex := 62, attributes := #[] }, { accessFlags := 4120, nameIndex := 46, descriptorIndex := 47, attributes := #[] }])
  fields := #[{ name := "HI_BYTE_SHIFT", type := .int, accessFlags := 26, slot := 0, constantValue := 0 }, { name := "LO_BYTE_SHIFT", type := .int, accessFlags := 26, slot := 1, constantValue := 0 }, { name := "MAX_LENGTH", type := .int, accessFlags := 24, slot := 2, constantValue := 0 }, { name := "$assertionsDisabled", type := .boolean, accessFlags := 4120, slot := 3, constantValue := 0 }]
  methods := #[k8m0, k8m1, k8m2, k8m3]
  instanceTypes := #[]
  staticTypes := #[.int, .int, .int, .boolean]
  resolved := Array.replicate 635 none
  statics := none }

def pool9 : Array CpInfo := pool [(1, .methodref 2 3), (0, .class_ 4), (0, .nameAndType 5 6), (0, u "java/lang/Object"), (0, u "<init>"), (0, u "()V"), (0, .fieldref 8 9), (0, .class_ 10), (0, .nameAndType 11 12), (0, u "com/example/forelock/forelock/core/Holds$Hold"), (0, u "count"), (0, u "I"), (0, .fieldref 8 14), (0, .nameAndType 15 16), (0, u "ownerToken"), (0, u "Ljava/lang/String;"), (0, .fieldref 8 18), (0, .nameAndType 19 20), (0, u "fencingToken"), (0, u "J"), (0, .fieldref 8 22), (0, .nameAndType 23 20), (0, u "leaseNanos"), (0, .fieldref 8 25), (0, .nameAndType 26 20), (0, u "leaseEnd"), (3, u "()J"), (7, u "lost"), (0, u "Z"), (5, u "lostCallbacks"), (0, u "Ljava/util/List;"), (15, .integer 2147483647), (9, u "(Ljava/lang/String;JJJ)V"), (2, u "()Ljava/lang/String;"), (0, u "()I"), (7, u "enter"), (0, u "exit"), (3, .class_ 90), (0, u "com/example/forelock/forelock/core/Holds")] 2

def k9c0 : Code := { maxStack := 5, maxLocals := 8, code := prog_14_method_1_code, exceptionTable := #[], attributes := #[] }
def k9m0 : Method := { name := "<init>", desc := "(Ljava/lang/String;JJJ)V", sig := { parameters := [(.object "java/lang/String"), .long, .long, .long], returnType := none }, accessFlags := 0, code := some k9c0 }
def k9c1 : Code := { maxStack := 1, maxLocals := 1, code := prog_14_method_2_code, exceptionTable := #[], attributes := #[] }
def k9m1 : Method := { name := "ownerToken", desc := "()Ljava/lang/String;", sig := { parameters := [], returnType := some (.object "java/lang/String") }, accessFlags := 0, code := some k9c1 }
def k9c2 : Code := { maxStack := 2, maxLocals := 1, code := prog_14_method_3_code, exceptionTable := #[], attributes := #[] }
def k9m2 : Method := { name := "fencingToken", desc := "()J", sig := { parameters := [], returnType := some .long }, accessFlags := 0, code := some k9c2 }
def k9c3 : Code := { maxStack := 2, maxLocals := 1, code := prog_14_method_4_code, exceptionTable := #[], attributes := #[] }
def k9m3 : Method := { name := "leaseNanos", desc := "()J", sig := { parameters := [], returnType := some .long }, accessFlags := 0, code := some k9c3 }
def k9c4 : Code := { maxStack := 1, maxLocals := 1, code := prog_14_method_5_code, exceptionTable := #[], attributes := #[] }
def k9m4 : Method := { name := "count", desc := "()I", sig := { parameters := [], returnType := some .int }, accessFlags := 0, code := some k9c4 }
def k9c5 : Code := { maxStack := 3, maxLocals := 1, code := prog_14_method_11_code, exceptionTable := #[], attributes := #[] }
def k9m5 : Method := { name := "enter", desc := "()V", sig := { parameters := [], returnType := none }, accessFlags := 0, code := some k9c5 }
def k9c6 : Code := { maxStack := 3, maxLocals := 1, code := prog_14_method_12_code, exceptionTable := #[], attributes := #[] }
def k9m6 : Method := { name := "exit", desc := "()V", sig := { parameters := [], returnType := none }, accessFlags := 0, code := some k9c6 }
/-- com/example/forelock/forelock/core/Holds$Hold -/
def k9 : Class := { plain "com/example/forelock/forelock/core/Holds$Hold" (some 0) with
  accessFlags := 48
  interfaces := #[]
  cf := some (fileOf pool9 8 #[.nestHost 89] #[{ accessFlags := 0, nameIndex := 5, descriptorIndex := 72, attributes := #[] }, { accessFlags := 0, nameIndex := 15, descriptorIndex := 75, attributes := #[] }, { accessFlags := 0, nameIndex := 19, descriptorIndex := 30, attributes := #[] }, { accessFlags := 0, nameIndex := 23, descriptorIndex := 30, attributes := #[] }, { accessFlags := 0, nameIndex := 11, descriptorIndex := 76, attributes := #[] }, { accessFlags := 0, nameIndex := 84, descriptorIndex := 6, attributes := #[] }, { accessFlags := 0, nameIndex := 85, descriptorIndex := 6, attributes := #[] }] 48 2 #[] #[{ accessFlags := 18, nameIndex := 15, descriptorIndex := 16, attributes := #[] }, { accessFlags := 18, nameIndex := 19, descriptorIndex := 20, attributes := #[] }, { accessFlags := 18, nameIndex := 23, descriptorIndex := 20, attributes := #[] }, { accessFlags := 2, nameIndex := 11, descriptorIndex := 12, attributes := #[] }, { accessFlags := 2, nameIndex := 26, descriptorIndex := 20, attributes := #[] }, { accessFlags := 2, nameIndex := 38, descriptorIndex := 39, attributes := #[] }, { accessFlags := 2, nameIndex := 45, descriptorIndex := 46, attributes := #[] }])
  fields := #[{ name := "ownerToken", type := (.object "java/lang/String"), accessFlags := 18, slot := 0, constantValue := 0 }, { name := "fencingToken", type := .long, accessFlags := 18, slot := 1, constantValue := 0 }, { name := "leaseNanos", type := .long, accessFlags := 18, slot := 2, constantValue := 0 }, { name := "count", type := .int, accessFlags := 2, slot := 3, constantValue := 0 }, { name := "leaseEnd", type := .long, accessFlags := 2, slot := 4, constantValue := 0 }, { name := "lost", type := .boolean, accessFlags := 2, slot := 5, constantValue := 0 }, { name := "lostCallbacks", type := (.object "java/util/List"), accessFlags := 2, slot := 6, constantValue := 0 }]
  methods := #[k9m0, k9m1, k9m2, k9m3, k9m4, k9m5, k9m6]
  instanceTypes := #[(.object "java/lang/String"), .long, .long, .int, .long, .boolean, (.object "java/util/List")]
  staticTypes := #[]
  resolved := Array.replicate 93 none
  statics := none }

def pool10 : Array CpInfo := pool [(4, .class_ 6), (1, u "java/lang/Object"), (0, u "<init>"), (0, u "()V"), (5, .class_ 16), (1, u "java/lang/StringLatin1"), (104, u "$assertionsDisabled"), (0, u "Z"), (98, .class_ 223), (1, u "java/lang/StringLatin1$LinesSpliterator"), (166, .class_ 391), (0, u "java/lang/StringLatin1$CharsSpliterator")] 3

def k10m0 : Method := { name := "<init>", desc := "()V", sig := { parameters := [], returnType := none }, accessFlags := 0, code := none }
/-- java/lang/StringLatin1 -/
def k10 : Class := { plain "java/lang/StringLatin1" (some 0) with
  accessFlags := 48
  interfaces := #[]
  cf := some (fileOf pool10 14 #[.nestMembers #[390, 221]] #[{ accessFlags := 0, nameIndex := 7, descriptorIndex := 8, attributes := #[] }] 48 4 #[] #[{ accessFlags := 4120, nameIndex := 121, descriptorIndex := 122, attributes := #[] }])
  fields := #[{ name := "$assertionsDisabled", type := .boolean, accessFlags := 4120, slot := 0, constantValue := 0 }]
  methods := #[k10m0]
  instanceTypes := #[]
  staticTypes := #[.boolean]
  resolved := Array.replicate 395 none
  statics := none }

def pool11 : Array CpInfo := pool [(2, .class_ 4), (1, u "java/lang/Object"), (0, u "<init>"), (0, u "()V"), (17, .class_ 26), (1, u "jdk/internal/util/Preconditions"), (28, .class_ 56), (0, u "jdk/internal/util/Preconditions$4"), (57, .class_ 115), (0, u "jdk/internal/util/Preconditions$1"), (7, u "SIOOBE_FORMATTER"), (0, u "Ljava/util/function/BiFunction;"), (0, .class_ 126), (0, u "jdk/internal/util/Preconditions$2"), (3, u "AIOOBE_FORMATTER"), (0, .class_ 132), (0, u "jdk/internal/util/Preconditions$3"), (3, u "IOOBE_FORMATTER")] 57

def k11m0 : Method := { name := "<init>", desc := "()V", sig := { parameters := [], returnType := none }, accessFlags := 1, code := none }
/-- jdk/internal/util/Preconditions -/
def k11 : Class := { plain "jdk/internal/util/Preconditions" (some 0) with
  accessFlags := 33
  interfaces := #[]
  cf := some (fileOf pool11 24 #[.nestMembers #[55, 131, 125, 114]] #[{ accessFlags := 1, nameIndex := 5, descriptorIndex := 6, attributes := #[] }] 33 2 #[] #[{ accessFlags := 25, nameIndex := 123, descriptorIndex := 124, attributes := #[] }, { accessFlags := 25, nameIndex := 130, descriptorIndex := 124, attributes := #[] }, { accessFlags := 25, nameIndex := 136, descriptorIndex := 124, attributes := #[] }])
  fields := #[{ name := "SIOOBE_FORMATTER", type := (.object "java/util/function/BiFunction"), accessFlags := 25, slot := 0, constantValue := 0 }, { name := "AIOOBE_FORMATTER", type := (.object "java/util/function/BiFunction"), accessFlags := 25, slot := 1, constantValue := 0 }, { name := "IOOBE_FORMATTER", type := (.object "java/util/function/BiFunction"), accessFlags := 25, slot := 2, constantValue := 0 }]
  methods := #[k11m0]
  instanceTypes := #[]
  staticTypes := #[(.object "java/util/function/BiFunction"), (.object "java/util/function/BiFunction"), (.object "java/util/function/BiFunction")]
  resolved := Array.replicate 194 none
  statics := some 1 }

def pool12 : Array CpInfo := pool [(9, u "<init>"), (6, .class_ 18), (1, u "java/lang/Object"), (0, u "()V"), (1, .class_ 23), (1, u "jdk/internal/util/ArraysSupport"), (0, u "LOG2_ARRAY_LONG_INDEX_SCALE"), (0, u "I"), (2, u "U"), (0, u "Ljdk/internal/misc/Unsafe;"), (8, u "BIG_ENDIAN"), (0, u "Z"), (8, u "LOG2_BYTE_BIT_SIZE"), (4, u "LOG2_ARRAY_INT_INDEX_SCALE"), (54, u "JLA"), (0, u "Ljdk/internal/access/JavaLangAccess;"), (11, u "LOG2_ARRAY_BOOLEAN_INDEX_SCALE"), (9, u "LOG2_ARRAY_BYTE_INDEX_SCALE"), (5, u "LOG2_ARRAY_CHAR_INDEX_SCALE"), (5, u "LOG2_ARRAY_SHORT_INDEX_SCALE"), (18, u "LOG2_ARRAY_FLOAT_INDEX_SCALE"), (24, u "LOG2_ARRAY_DOUBLE_INDEX_SCALE"), (89, u "T_BOOLEAN"), (2, u "T_CHAR"), (1, u "T_FLOAT"), (1, u "T_DOUBLE"), (1, u "T_BYTE"), (1, u "T_SHORT"), (1, u "T_INT"), (1, u "T_LONG"), (1, u "SOFT_MAX_ARRAY_LENGTH")] 83

def k12m0 : Method := { name := "<init>", desc := "()V", sig := { parameters := [], returnType := none }, accessFlags := 2, code := none }
/-- jdk/internal/util/ArraysSupport -/
def k12 : Class := { plain "jdk/internal/util/ArraysSupport" (some 0) with
  accessFlags := 33
  interfaces := #[]
  cf := some (fileOf pool12 21 #[] #[{ accessFlags := 2, nameIndex := 9, descriptorIndex := 19, attributes := #[] }] 33 16 #[] #[{ accessFlags := 24, nameIndex := 28, descriptorIndex := 29, attributes := #[] }, { accessFlags := 26, nameIndex := 38, descriptorIndex := 39, attributes := #[] }, { accessFlags := 25, nameIndex := 121, descriptorIndex := 25, attributes := #[] }, { accessFlags := 25, nameIndex := 131, descriptorIndex := 25, attributes := #[] }, { accessFlags := 25, nameIndex := 137, descriptorIndex := 25, attributes := #[] }, { accessFlags := 25, nameIndex := 143, descriptorIndex := 25, attributes := #[] }, { accessFlags := 25, nameIndex := 53, descriptorIndex := 25, attributes := #[] }, { accessFlags := 25, nameIndex := 24, descriptorIndex := 25, attributes := #[] }, { accessFlags := 25, nameIndex := 162, descriptorIndex := 25, attributes := #[] }, { accessFlags := 25, nameIndex := 187, descriptorIndex := 25, attributes := #[] }, { accessFlags := 26, nameIndex := 48, descriptorIndex := 25, attributes := #[] }, { accessFlags := 25, nameIndex := 277, descriptorIndex := 25, attributes := #[] }, { accessFlags := 25, nameIndex := 280, descriptorIndex := 25, attributes := #[] }, { accessFlags := 25, nameIndex := 282, descriptorIndex := 25, attributes := #[] }, { accessFlags := 25, nameIndex := 284, descriptorIndex := 25, attributes := #[] }, { accessFlags := 25, nameIndex := 286, descriptorIndex := 25, attributes := #[] }, { accessFlags := 25, nameIndex := 288, descriptorIndex := 25, attributes := #[] }, { accessFlags := 25, nameIndex := 290, descriptorIndex := 25, attributes := #[] }, { accessFlags := 25, nameIndex := 292, descriptorIndex := 25, attributes := #[] }, { accessFlags := 26, nameIndex := 108, descriptorIndex := 109, attributes := #[] }, { accessFlags := 25, nameIndex := 294, descriptorIndex := 25, attributes := #[] }])
  fields := #[{ name := "U", type := (.object "jdk/internal/misc/Unsafe"), accessFlags := 24, slot := 0, constantValue := 0 }, { name := "BIG_ENDIAN", type := .boolean, accessFlags := 26, slot := 1, constantValue := 0 }, { name := "LOG2_ARRAY_BOOLEAN_INDEX_SCALE", type := .int, accessFlags := 25, slot := 2, constantValue := 0 }, { name := "LOG2_ARRAY_BYTE_INDEX_SCALE", type := .int, accessFlags := 25, slot := 3, constantValue := 0 }, { name := "LOG2_ARRAY_CHAR_INDEX_SCALE", type := .int, accessFlags := 25, slot := 4, constantValue := 0 }, { name := "LOG2_ARRAY_SHORT_INDEX_SCALE", type := .int, accessFlags := 25, slot := 5, constantValue := 0 }, { name := "LOG2_ARRAY_INT_INDEX_SCALE", type := .int, accessFlags := 25, slot := 6, constantValue := 0 }, { name := "LOG2_ARRAY_LONG_INDEX_SCALE", type := .int, accessFlags := 25, slot := 7, constantValue := 0 }, { name := "LOG2_ARRAY_FLOAT_INDEX_SCALE", type := .int, accessFlags := 25, slot := 8, constantValue := 0 }, { name := "LOG2_ARRAY_DOUBLE_INDEX_SCALE", type := .int, accessFlags := 25, slot := 9, constantValue := 0 }, { name := "LOG2_BYTE_BIT_SIZE", type := .int, accessFlags := 26, slot := 10, constantValue := 0 }, { name := "T_BOOLEAN", type := .int, accessFlags := 25, slot := 11, constantValue := 0 }, { name := "T_CHAR", type := .int, accessFlags := 25, slot := 12, constantValue := 0 }, { name := "T_FLOAT", type := .int, accessFlags := 25, slot := 13, constantValue := 0 }, { name := "T_DOUBLE", type := .int, accessFlags := 25, slot := 14, constantValue := 0 }, { name := "T_BYTE", type := .int, accessFlags := 25, slot := 15, constantValue := 0 }, { name := "T_SHORT", type := .int, accessFlags := 25, slot := 16, constantValue := 0 }, { name := "T_INT", type := .int, accessFlags := 25, slot := 17, constantValue := 0 }, { name := "T_LONG", type := .int, accessFlags := 25, slot := 18, constantValue := 0 }, { name := "JLA", type := (.object "jdk/internal/access/JavaLangAccess"), accessFlags := 26, slot := 19, constantValue := 0 }, { name := "SOFT_MAX_ARRAY_LENGTH", type := .int, accessFlags := 25, slot := 20, constantValue := 0 }]
  methods := #[k12m0]
  instanceTypes := #[]
  staticTypes := #[(.object "jdk/internal/misc/Unsafe"), .boolean, .int, .int, .int, .int, .int, .int, .int, .int, .int, .int, .int, .int, .int, .int, .int, .int, .int, (.object "jdk/internal/access/JavaLangAccess"), .int]
  resolved := Array.replicate 378 none
  statics := none }

def pool13 : Array CpInfo := pool [(1, u "java/lang/Cloneable"), (0, .class_ 1), (0, u "java/lang/Object"), (0, .class_ 3)] 3

/-- java/lang/Cloneable -/
def k13 : Class := { plain "java/lang/Cloneable" (some 0) with
  accessFlags := 1537
  interfaces := #[]
  cf := some (fileOf pool13 2 #[] #[] 1537 4 #[] #[])
  fields := #[]
  methods := #[]
  instanceTypes := #[]
  staticTypes := #[]
  resolved := Array.replicate 8 none
  statics := none }

/-- the primitive byte -/
def k14 : Class := { plain "byte" none with kind := .primitive 'B', accessFlags := 0x411 }
/-- [B -/
def k15 : Class := { plain "[B" (some 0) with kind := .array 14 .byte, interfaces := #[13, 2], accessFlags := 1041 }

/-- the primitive char -/
def k16 : Class := { plain "char" none with kind := .primitive 'C', accessFlags := 0x411 }
/-- [C -/
def k17 : Class := { plain "[C" (some 0) with kind := .array 16 .char, interfaces := #[13, 2], accessFlags := 1041 }

/-- the primitive int -/
def k18 : Class := { plain "int" none with kind := .primitive 'I', accessFlags := 0x411 }
/-- [I -/
def k19 : Class := { plain "[I" (some 0) with kind := .array 18 .int, interfaces := #[13, 2], accessFlags := 1041 }

def heap : Heap := #[{ cls := 7, slots := #[.long 0, .int 1, .null, .int 0, .null, .int 0, .int 0], vm := .statics 7 },
  { cls := 11, slots := #[.null, .null, .null], vm := .statics 11 }]
def classes : Array Class := #[k0, k1, k2, k3, k4, k5, k6, k7, k8, k9, k10, k11, k12, k13, k14, k15, k16, k17, k18, k19]
def interned : List (Array UInt16 × Addr) := []
def slotsUsed : Nat := 10
def theMethod : MethodId := ⟨1, 1⟩
def args0 : Array Value := #[.int 5, .long 5, .long 5, .long 5, .int 5]
def aboutOver (below : List Frame) : State where
  vm := { classes := classes, interned := interned.toArray }
  heap := heap
  slotsUsed := slotsUsed
  threads := #[{ frames := .invoking theMethod args0 :: below }]
def below0 : List Frame := [.native { method := ⟨0, 0⟩, args := #[] }]
def about1 : State := aboutOver below0
def p0 : Program := .bare "" "" ""
def e0 : Env := launch0.env 0 0 0
theorem w_frames : about1.frames = Frame.invoking theMethod args0 :: below0 := rfl
set_option maxRecDepth 65536 in
theorem w_args : argsFit about1.vm theMethod args0 = true := by decide +kernel
set_option maxRecDepth 65536 in
theorem w_heap : heapFits about1 = true := by decide +kernel
set_option maxRecDepth 65536 in
theorem w_runnable : about1.curStatus? = some .runnable := by decide +kernel
set_option maxRecDepth 65536 in
theorem w_alone : about1.alone = true := by decide +kernel
set_option maxRecDepth 65536 in
theorem w_named : about1.methodNamed? x = some theMethod := by decide +kernel
set_option maxRecDepth 65536 in
theorem w_hears : about1.hears theMethod below0 = true := by decide +kernel
set_option maxRecDepth 65536 in
theorem w_ripe : about1.ripe theMethod args0 below0 = true := by decide +kernel
theorem w_running : about1.status = .running := rfl
set_option maxRecDepth 65536 in
theorem w_room : about1.hasRoom e0.platform room_1 = true :=
  launch0.hasRoom_least _ room_1 (by decide +kernel) (by decide +kernel) (by decide +kernel) (by decide +kernel) (by decide +kernel) (by decide +kernel)
theorem allAtoms_all (ts : List Jvm.Cond) (a : Array Jvm.Value) (st : Jvm.State) : (allAtoms ts).before a st = ts.all (fun c => c.before a st) := by
  induction ts with
  | nil => rfl
  | cons c t ih =>
    show (Jvm.Cond.and c (allAtoms t)).before a st = _
    rw [Jvm.Cond.before_and, ih, List.all_cons]
def words1 : List Jvm.Cond := Jvm.Cond.code x code maxLocals ret :: tables_1
/-- a 'code' word, met by the world's own term for the bytes: nothing is compared byte by byte -/
theorem code_word {y : MethodName} {bytes : ByteArray} {mx : Nat} {rt : Option FieldType} {a : Array Value} {s : State} {m : MethodId} {meth : Method} {c : Code} (h1 : s.methodNamed? y = some m) (h2 : s.vm.method? m = some meth) (h3 : meth.code = some c) (h4 : c.code = bytes)
    (h5 : (c.maxLocals == mx && c.exceptionTable.isEmpty && decide (c.maxStack ≤ mostOperands) && decide (meth.sig.returnType = rt) && !meth.locks && decide (parseMethodDescriptor y.desc = some meth.sig)) = true) : (Jvm.Cond.code y bytes mx rt).before a s = true := by
  simp only [Bool.and_eq_true, beq_iff_eq, Bool.not_eq_true', decide_eq_true_eq] at h5
  obtain ⟨⟨⟨⟨⟨g1, g2⟩, g3⟩, g4⟩, g5⟩, g6⟩ := h5
  simp [Cond.before, Cond.holds, Cond.value, h1, h2, h3, h4, g1, g2, g3, g4, g5, g6]
def isCode : Jvm.Cond → Bool
  | .code _ _ _ _ => true
  | _ => false
theorem all_split {L : List Jvm.Cond} {P : Jvm.Cond → Bool} (h1 : L.all (fun c => isCode c || P c) = true) (h2 : ∀ c ∈ L.filter isCode, P c = true) : L.all P = true := by
  refine List.all_eq_true.mpr fun c hc => ?_
  have h := List.all_eq_true.mp h1 c hc
  rcases Bool.eq_false_or_eq_true (isCode c) with hi | hi
  · exact h2 c (List.mem_filter.mpr ⟨hc, hi⟩)
  · simpa [hi] using h
set_option maxRecDepth 65536 in
theorem w_c0 : (Jvm.Cond.code x code maxLocals ret).before args0 about1 = true := code_word (m := ⟨1, 1⟩) (meth := k1m1) (c := k1c1) (by decide +kernel) rfl rfl rfl (by decide +kernel)
set_option maxRecDepth 65536 in
theorem w_c1 : (Jvm.Cond.code ({ cls := "java/lang/String", name := "<init>", desc := "([C)V" } : Jvm.MethodName) jdk_42_method_3_code (2 : Nat) (Option.none : Option Jvm.ClassFile.FieldType)).before args0 about1 = true := code_word (m := ⟨7, 1⟩) (meth := k7m1) (c := k7c1) (by decide +kernel) rfl rfl rfl (by decide +kernel)
set_option maxRecDepth 65536 in
theorem w_c2 : (Jvm.Cond.code ({ cls := "java/lang/String", name := "<init>", desc := "([CIILjava/lang/Void;)V" } : Jvm.MethodName) jdk_42_method_149_code (6 : Nat) (Option.none : Option Jvm.ClassFile.FieldType)).before args0 about1 = true := code_word (m := ⟨7, 3⟩) (meth := k7m3) (c := k7c3) (by decide +kernel) rfl rfl rfl (by decide +kernel)
set_option maxRecDepth 65536 in
theorem w_c3 : (Jvm.Cond.code ({ cls := "java/lang/Object", name := "<init>", desc := "()V" } : Jvm.MethodName) object_method_1_code (1 : Nat) (Option.none : Option Jvm.ClassFile.FieldType)).before args0 about1 = true := code_word (m := ⟨0, 0⟩) (meth := k0m0) (c := k0c0) (by decide +kernel) rfl rfl rfl (by decide +kernel)
set_option maxRecDepth 65536 in
theorem w_c4 : (Jvm.Cond.code ({ cls := "java/lang/StringUTF16", name := "compress", desc := "([CII)[B" } : Jvm.MethodName) jdk_52_method_16_code (6 : Nat) (Option.some (Jvm.ClassFile.FieldType.array Jvm.ClassFile.FieldType.byte))).before args0 about1 = true := code_word (m := ⟨8, 2⟩) (meth := k8m2) (c := k8c2) (by decide +kernel) rfl rfl rfl (by decide +kernel)
set_option maxRecDepth 65536 in
theorem w_c5 : (Jvm.Cond.code ({ cls := "java/lang/StringUTF16", name := "compress", desc := "([CI[BII)I" } : Jvm.MethodName) jdk_52_method_21_code (7 : Nat) (Option.some Jvm.ClassFile.FieldType.int)).before args0 about1 = true := code_word (m := ⟨8, 3⟩) (meth := k8m3) (c := k8c3) (by decide +kernel) rfl rfl rfl (by decide +kernel)
set_option maxRecDepth 65536 in
theorem w_c6 : (Jvm.Cond.code ({ cls := "java/lang/StringUTF16", name := "coderFromArrayLen", desc := "([BI)B" } : Jvm.MethodName) jdk_52_method_15_code (2 : Nat) (Option.some Jvm.ClassFile.FieldType.byte)).before args0 about1 = true := code_word (m := ⟨8, 1⟩) (meth := k8m1) (c := k8c1) (by decide +kernel) rfl rfl rfl (by decide +kernel)
set_option maxRecDepth 65536 in
theorem w_c7 : (Jvm.Cond.code ({ cls := "com/example/forelock/forelock/core/Holds$Hold", name := "<init>", desc := "(Ljava/lang/String;JJJ)V" } : Jvm.MethodName) prog_14_method_1_code (8 : Nat) (Option.none : Option Jvm.ClassFile.FieldType)).before args0 about1 = true := code_word (m := ⟨9, 0⟩) (meth := k9m0) (c := k9c0) (by decide +kernel) rfl rfl rfl (by decide +kernel)
set_option maxRecDepth 65536 in
theorem w_c8 : (Jvm.Cond.code ({ cls := "com/example/forelock/forelock/core/Holds$Hold", name := "exit", desc := "()V" } : Jvm.MethodName) prog_14_method_12_code (1 : Nat) (Option.none : Option Jvm.ClassFile.FieldType)).before args0 about1 = true := code_word (m := ⟨9, 6⟩) (meth := k9m6) (c := k9c6) (by decide +kernel) rfl rfl rfl (by decide +kernel)
set_option maxRecDepth 65536 in
theorem w_c9 : (Jvm.Cond.code ({ cls := "com/example/forelock/forelock/core/Holds$Hold", name := "enter", desc := "()V" } : Jvm.MethodName) prog_14_method_11_code (1 : Nat) (Option.none : Option Jvm.ClassFile.FieldType)).before args0 about1 = true := code_word (m := ⟨9, 5⟩) (meth := k9m5) (c := k9c5) (by decide +kernel) rfl rfl rfl (by decide +kernel)
set_option maxRecDepth 65536 in
theorem w_c10 : (Jvm.Cond.code ({ cls := "com/example/forelock/forelock/core/Holds$Hold", name := "count", desc := "()I" } : Jvm.MethodName) prog_14_method_5_code (1 : Nat) (Option.some Jvm.ClassFile.FieldType.int)).before args0 about1 = true := code_word (m := ⟨9, 4⟩) (meth := k9m4) (c := k9c4) (by decide +kernel) rfl rfl rfl (by decide +kernel)
set_option maxRecDepth 65536 in
theorem w_c11 : (Jvm.Cond.code ({ cls := "com/example/forelock/forelock/core/Holds$Hold", name := "fencingToken", desc := "()J" } : Jvm.MethodName) prog_14_method_3_code (1 : Nat) (Option.some Jvm.ClassFile.FieldType.long)).before args0 about1 = true := code_word (m := ⟨9, 2⟩) (meth := k9m2) (c := k9c2) (by decide +kernel) rfl rfl rfl (by decide +kernel)
set_option maxRecDepth 65536 in
theorem w_c12 : (Jvm.Cond.code ({ cls := "com/example/forelock/forelock/core/Holds$Hold", name := "leaseNanos", desc := "()J" } : Jvm.MethodName) prog_14_method_4_code (1 : Nat) (Option.some Jvm.ClassFile.FieldType.long)).before args0 about1 = true := code_word (m := ⟨9, 3⟩) (meth := k9m3) (c := k9c3) (by decide +kernel) rfl rfl rfl (by decide +kernel)
set_option maxRecDepth 65536 in
theorem w_c13 : (Jvm.Cond.code ({ cls := "com/example/forelock/forelock/core/Holds$Hold", name := "ownerToken", desc := "()Ljava/lang/String;" } : Jvm.MethodName) prog_14_method_2_code (1 : Nat) (Option.some (Jvm.ClassFile.FieldType.object "java/lang/String"))).before args0 about1 = true := code_word (m := ⟨9, 1⟩) (meth := k9m1) (c := k9c1) (by decide +kernel) rfl rfl rfl (by decide +kernel)
set_option maxRecDepth 65536 in
theorem w_c14 : (Jvm.Cond.code ({ cls := "java/lang/String", name := "equals", desc := "(Ljava/lang/Object;)Z" } : Jvm.MethodName) jdk_42_method_66_code (3 : Nat) (Option.some Jvm.ClassFile.FieldType.boolean)).before args0 about1 = true := code_word (m := ⟨7, 2⟩) (meth := k7m2) (c := k7c2) (by decide +kernel) rfl rfl rfl (by decide +kernel)
def codes1 : List Jvm.Cond := [Jvm.Cond.code x code maxLocals ret, Jvm.Cond.code ({ cls := "java/lang/String", name := "<init>", desc := "([C)V" } : Jvm.MethodName) jdk_42_method_3_code (2 : Nat) (Option.none : Option Jvm.ClassFile.FieldType), Jvm.Cond.code ({ cls := "java/lang/String", name := "<init>", desc := "([CIILjava/lang/Void;)V" } : Jvm.MethodName) jdk_42_method_149_code (6 : Nat) (Option.none : Option Jvm.ClassFile.FieldType), Jvm.Cond.code ({ cls := "java/lang/Object", name := "<init>", desc := "()V" } : Jvm.MethodName) object_method_1_code (1 : Nat) (Option.none : Option Jvm.ClassFile.FieldType), Jvm.Cond.code ({ cls := "java/lang/StringUTF16", name := "compress", desc := "([CII)[B" } : Jvm.MethodName) jdk_52_method_16_code (6 : Nat) (Option.some (Jvm.ClassFile.FieldType.array Jvm.ClassFile.FieldType.byte)), Jvm.Cond.code ({ cls := "java/lang/StringUTF16", name := "compress", desc := "([CI[BII)I" } : Jvm.MethodName) jdk_52_method_21_code (7 : Nat) (Option.some Jvm.ClassFile.FieldType.int), Jvm.Cond.code ({ cls := "java/lang/StringUTF16", name := "coderFromArrayLen", desc := "([BI)B" } : Jvm.MethodName) jdk_52_method_15_code (2 : Nat) (Option.some Jvm.ClassFile.FieldType.byte), Jvm.Cond.code ({ cls := "com/example/forelock/forelock/core/Holds$Hold", name := "<init>", desc := "(Ljava/lang/String;JJJ)V" } : Jvm.MethodName) prog_14_method_1_code (8 : Nat) (Option.none : Option Jvm.ClassFile.FieldType), Jvm.Cond.code ({ cls := "com/example/forelock/forelock/core/Holds$Hold", name := "exit", desc := "()V" } : Jvm.MethodName) prog_14_method_12_code (1 : Nat) (Option.none : Option Jvm.ClassFile.FieldType), Jvm.Cond.code ({ cls := "com/example/forelock/forelock/core/Holds$Hold", name := "enter", desc := "()V" } : Jvm.MethodName) prog_14_method_11_code (1 : Nat) (Option.none : Option Jvm.ClassFile.FieldType), Jvm.Cond.code ({ cls := "com/example/forelock/forelock/core/Holds$Hold", name := "count", desc := "()I" } : Jvm.MethodName) prog_14_method_5_code (1 : Nat) (Option.some Jvm.ClassFile.FieldType.int), Jvm.Cond.code ({ cls := "com/example/forelock/forelock/core/Holds$Hold", name := "fencingToken", desc := "()J" } : Jvm.MethodName) prog_14_method_3_code (1 : Nat) (Option.some Jvm.ClassFile.FieldType.long), Jvm.Cond.code ({ cls := "com/example/forelock/forelock/core/Holds$Hold", name := "leaseNanos", desc := "()J" } : Jvm.MethodName) prog_14_method_4_code (1 : Nat) (Option.some Jvm.ClassFile.FieldType.long), Jvm.Cond.code ({ cls := "com/example/forelock/forelock/core/Holds$Hold", name := "ownerToken", desc := "()Ljava/lang/String;" } : Jvm.MethodName) prog_14_method_2_code (1 : Nat) (Option.some (Jvm.ClassFile.FieldType.object "java/lang/String")), Jvm.Cond.code ({ cls := "java/lang/String", name := "equals", desc := "(Ljava/lang/Object;)Z" } : Jvm.MethodName) jdk_42_method_66_code (3 : Nat) (Option.some Jvm.ClassFile.FieldType.boolean)]
set_option maxRecDepth 65536 in
theorem codes_eq : words1.filter isCode = codes1 := rfl
theorem w_codes : ∀ c ∈ words1.filter isCode, c.before args0 about1 = true := by
  rw [codes_eq]
  intro c hc
  simp only [codes1, List.mem_cons, List.not_mem_nil, or_false] at hc
  rcases hc with rfl | rfl | rfl | rfl | rfl | rfl | rfl | rfl | rfl | rfl | rfl | rfl | rfl | rfl | rfl
  · exact w_c0
  · exact w_c1
  · exact w_c2
  · exact w_c3
  · exact w_c4
  · exact w_c5
  · exact w_c6
  · exact w_c7
  · exact w_c8
  · exact w_c9
  · exact w_c10
  · exact w_c11
  · exact w_c12
  · exact w_c13
  · exact w_c14
set_option maxRecDepth 65536 in
theorem w_t1 : (words1.take 24).all (fun c => isCode c || c.before args0 about1) = true := by decide +kernel
set_option maxRecDepth 65536 in
theorem w_t2 : ((words1.drop 24).take 24).all (fun c => isCode c || c.before args0 about1) = true := by decide +kernel
set_option maxRecDepth 65536 in
theorem w_t3 : (((words1.drop 24).drop 24).take 24).all (fun c => isCode c || c.before args0 about1) = true := by decide +kernel
set_option maxRecDepth 65536 in
theorem w_t4 : (((words1.drop 24).drop 24).drop 24).all (fun c => isCode c || c.before args0 about1) = true := by decide +kernel
theorem w_tables : (allAtoms (Jvm.Cond.code x code maxLocals ret :: tables_1)).before args0 about1 = true := by
  rw [allAtoms_all]
  show words1.all (fun c => c.before args0 about1) = true
  refine all_split ?_ w_codes
  rw [← List.take_append_drop 24 words1, List.all_append, w_t1, ← List.take_append_drop 24 (words1.drop 24), List.all_append, w_t2, ← List.take_append_drop 24 ((words1.drop 24).drop 24), List.all_append, w_t3, w_t4]
  rfl
set_option maxRecDepth 65536 in
theorem w_rest : rest_1_c.before args0 about1 = true := by decide +kernel
set_option maxRecDepth 65536 in
theorem w_case : (Jvm.Cond.and given_1 narrow_1).before args0 about1 = true := by decide +kernel
theorem w_applies : (headSpec (Jvm.Cond.code x code maxLocals ret :: tables_1) room_1).applies x e0.platform about1 = true :=
  (Spec.applies_iff w_frames).mpr ⟨w_running, w_runnable, w_alone, w_named, w_hears, w_ripe, w_room, w_tables⟩
theorem atStart : AtStart classFile x code maxLocals ret World_1 tables_1 room_1 Calls_1 rest_1 Pre_1 launch0 p0 e0 about1 theMethod args0 below0 :=
  ⟨lists_1, trivial, launch0.admits_env _ _ _, launch0.least_env, fairChoices_fair.cas, fairChoices_fair.clock, w_frames, w_args, w_heap, w_applies, trivial, w_rest, w_case⟩
end start1
theorem witness_1 : WitnessClaimed_1 := ⟨start1.p0, start1.e0, start1.about1, start1.theMethod, start1.args0, start1.below0, start1.atStart⟩
end Jvm.Pilot.@@N@@
