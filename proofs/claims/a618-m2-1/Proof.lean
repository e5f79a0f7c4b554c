import JvmDerived
import JvmDerived.Pilot.@@N@@Statement
import JvmDerived.Pilot.@@N@@Code
set_option linter.unusedVariables false
set_option linter.unusedSimpArgs false
namespace Jvm.OwnKit
open Sem ClassFile Op Lib Jvm.Stand Jvm.Free Jvm.LawKit Jvm.RoadKit
/-! A WALK THAT IS DIRECTED BY ITS GOAL. Cx: what one invocation holds fixed. Go κ h cells slots pc Ls st: from the place pc, with these variables and this operand stack, over the heap h, the invocation returns as κ promises. -/
abbrev Cx : Type := (Program × Launch × Env × Room × State × MethodId × Array Value × List Frame × Method × Code) × (Bool × State × Nat × (Option Value → Heap → Prop))
abbrev Cx.p (κ : Cx) : Program := κ.1.1
abbrev Cx.l (κ : Cx) : Launch := κ.1.2.1
abbrev Cx.e (κ : Cx) : Env := κ.1.2.2.1
abbrev Cx.R (κ : Cx) : Room := κ.1.2.2.2.1
abbrev Cx.s (κ : Cx) : State := κ.1.2.2.2.2.1
abbrev Cx.m (κ : Cx) : MethodId := κ.1.2.2.2.2.2.1
abbrev Cx.args (κ : Cx) : Array Value := κ.1.2.2.2.2.2.2.1
abbrev Cx.below (κ : Cx) : List Frame := κ.1.2.2.2.2.2.2.2.1
abbrev Cx.meth (κ : Cx) : Method := κ.1.2.2.2.2.2.2.2.2.1
abbrev Cx.c (κ : Cx) : Code := κ.1.2.2.2.2.2.2.2.2.2
/-- may string constants be resolved on the way? -/
abbrev Cx.wide (κ : Cx) : Bool := κ.2.1
abbrev Cx.Z (κ : Cx) : State := κ.2.2.1
abbrev Cx.n0 (κ : Cx) : Nat := κ.2.2.2.1
abbrev Cx.Q (κ : Cx) : Option Value → Heap → Prop := κ.2.2.2.2
/-- the tables over which the walk stands now -/
def Cx.adm (κ : Cx) (vm0 : Vm) (n : Nat) : Prop := (∃ k0, κ.s.Since vm0 k0 ∧ k0 ≤ n) ∧ (κ.wide = false → vm0 = κ.s.vm)
/-- how an invocation ends -/
def Ends (wide : Bool) (s : State) (o : Outcome) (t : State) (L : List Loc) (k n : Nat) : Prop := (wide = false → FrameEnd s o t L k n) ∧ ReturnedEndW s o t L k n
def Go (κ : Cx) (h : Heap) (cells slots pc : Nat) (Ls : Array Slot) (st : List Value) : Prop :=
  ∀ (T : State) (locs : List Loc) (vm0 : Vm), Stand κ.p κ.l κ.e κ.R (κ.s.setVm vm0) κ.m κ.args κ.below κ.meth κ.c T locs cells slots → κ.adm vm0 h.size → κ.Z.Warmed39 vm0 → Fr κ.n0 locs → Old κ.Z κ.n0 h → T.heap = h →
    ∃ s₂ o, Steps κ.p.tables κ.e κ.below (T.setTop (mkF κ.m pc Ls st)) s₂ ∧ s₂.status = .running ∧ Ended s₂ κ.below o ∧ ∃ v L, o = .returned v ∧ (κ.Q v s₂.heap ∧ Fr κ.n0 L ∧ κ.s.heap.size ≤ s₂.heap.size ∧ Old κ.Z κ.n0 s₂.heap) ∧ Ends κ.wide κ.s o s₂ L κ.R.cells κ.R.slots
def Ok (κ : Cx) (l : Launch) (Z : State) (n0 : Nat) (own nm : String) (bytes : ByteArray) (maxL : Nat) (ret : Option FieldType) (rm : Room) (Q : Option Value → Heap → Prop) : Prop :=
  κ.l = l ∧ κ.Z = Z ∧ κ.n0 = n0 ∧ κ.R = rm ∧ κ.p.tables.exec = Jvm.exec ∧ κ.s.vm.findClass own = some κ.m.cls ∧ κ.c.code = bytes ∧ κ.c.maxLocals = maxL ∧ κ.meth.sig.returnType = ret ∧ κ.meth.name = nm ∧ κ.meth.locks = false ∧ κ.Q = Q
/-- a callee's contract: called with these arguments over the heap h0 it returns, and Q holds of what it returns and of the heap that it leaves; what it wrote lies at or above n0 -/
def Con (wide : Bool) (l : Launch) (Z : State) (n0 : Nat) (y : MethodName) (bytes : ByteArray) (maxL : Nat) (ret : Option FieldType) (rm : Room) (as' : Array Value) (h0 : Heap) (Q : Option Value → Heap → Prop) : Prop :=
  Old Z n0 h0 → ∀ ws : List Cond, MetFree l y (head1 (Cond.code y bytes maxL ret :: ws) rm) (fun a U => a = as' ∧ Z.Warmed39 U.vm ∧ U.heap = h0) (fun _ _ _ _ _ => True)
    (fun _ U o U' => ∃ v L, o = .returned v ∧ (Q v U'.heap ∧ Fr n0 L ∧ U.heap.size ≤ U'.heap.size ∧ Old Z n0 U'.heap) ∧ Ends wide U o U' L rm.cells rm.slots)
section Laws
variable {κ : Cx} {t : FieldType} {l : Launch} {Z : State} {n0 : Nat} {own nm : String} {bytes : ByteArray} {maxL : Nat} {ret : Option FieldType} {rm : Room} {Q : Option Value → Heap → Prop} {h : Heap} {cells slots pc : Nat} {Ls : Array Slot} {st : List Value}
theorem Ok.exec (K : Ok κ l Z n0 own nm bytes maxL ret rm Q) : κ.p.tables.exec = Jvm.exec := K.2.2.2.2.1
theorem Ok.kb (K : Ok κ l Z n0 own nm bytes maxL ret rm Q) : κ.c.code = bytes := K.2.2.2.2.2.2.1
theorem Ok.kl (K : Ok κ l Z n0 own nm bytes maxL ret rm Q) : κ.c.maxLocals = maxL := K.2.2.2.2.2.2.2.1
theorem Ok.kr (K : Ok κ l Z n0 own nm bytes maxL ret rm Q) : κ.meth.sig.returnType = ret := K.2.2.2.2.2.2.2.2.1
theorem Ok.name (K : Ok κ l Z n0 own nm bytes maxL ret rm Q) : κ.meth.name = nm := K.2.2.2.2.2.2.2.2.2.1
theorem Ok.locks (K : Ok κ l Z n0 own nm bytes maxL ret rm Q) : κ.meth.locks = false := K.2.2.2.2.2.2.2.2.2.2.1
theorem Ok.eQ (K : Ok κ l Z n0 own nm bytes maxL ret rm Q) : κ.Q = Q := K.2.2.2.2.2.2.2.2.2.2.2
theorem Ok.eZ (K : Ok κ l Z n0 own nm bytes maxL ret rm Q) : κ.Z = Z := K.2.1
theorem Ok.en (K : Ok κ l Z n0 own nm bytes maxL ret rm Q) : κ.n0 = n0 := K.2.2.1
theorem Ok.eR (K : Ok κ l Z n0 own nm bytes maxL ret rm Q) : κ.R = rm := K.2.2.2.1
theorem Ok.el (K : Ok κ l Z n0 own nm bytes maxL ret rm Q) : κ.l = l := K.1
theorem Ok.ko (K : Ok κ l Z n0 own nm bytes maxL ret rm Q) {vm0 : Vm} {n : Nat} (A : κ.adm vm0 n) : (κ.s.setVm vm0).vm.findClass own = some κ.m.cls := by
  obtain ⟨⟨k0, hS, -⟩, -⟩ := A
  show vm0.findClass own = _
  rw [hS.1.alike.findClass]; exact K.2.2.2.2.2.1
theorem Ok.warm (K : Ok κ l Z n0 own nm bytes maxL ret rm Q) {vm0 : Vm} (hZ : κ.Z.Warmed39 vm0) : Z.Warmed39 (κ.s.setVm vm0).vm := by rw [← K.eZ]; exact hZ
theorem Cx.adm.mono {vm0 : Vm} {n n' : Nat} (A : κ.adm vm0 n) (q : n ≤ n') : κ.adm vm0 n' := by
  obtain ⟨⟨k0, hS, hk⟩, w⟩ := A
  exact ⟨⟨k0, hS, Nat.le_trans hk q⟩, w⟩
theorem Ok.old (K : Ok κ l Z n0 own nm bytes maxL ret rm Q) (B : Old κ.Z κ.n0 h) : Old Z n0 h := by rw [← K.eZ, ← K.en]; exact B
theorem Ok.oldS (K : Ok κ l Z n0 own nm bytes maxL ret rm Q) (B : Old Z n0 h) : Old κ.Z κ.n0 h := by rw [K.eZ, K.en]; exact B
theorem low_of (B : Old Z n0 h) : n0 ≤ h.size := B.1 ▸ B.2.1
/-- what was there at the law's start is there still -/
theorem old (K : Ok κ l Z n0 own nm bytes maxL ret rm Q) (hr : Old Z n0 h → Go κ h cells slots pc Ls st) : Go κ h cells slots pc Ls st := fun T locs vm0 X A hZ N B eT =>
  hr (K.old B) T locs vm0 X A hZ N B eT
theorem more {cells' slots' : Nat} (hc : cells ≤ cells') (hs : slots ≤ slots') (hr : Go κ h cells' slots' pc Ls st) : Go κ h cells slots pc Ls st := fun T locs vm0 X A hZ N B eT =>
  hr T locs vm0 (X.mono hc hs) A hZ N B eT
theorem Ends.mono {wide : Bool} {s t : State} {o : Outcome} {L : List Loc} {k n k' n' : Nat} (E : Ends wide s o t L k n) (hk : k ≤ k') (hn : n ≤ n') : Ends wide s o t L k' n' :=
  ⟨fun w => ⟨(E.1 w).1, (E.1 w).2.1, (E.1 w).2.2.mono hk hn⟩, E.2.1, E.2.2.1, E.2.2.2.1, E.2.2.2.2.mono hk hn⟩
/-! ## the end of a walk -/
theorem out (K : Ok κ l Z n0 own nm bytes maxL ret rm Q) {v : Option Value} (hv : ret = none → v = none) (hq : Q v h) (hc : cells ≤ rm.cells) (hs : slots ≤ rm.slots)
    (st1 : ∀ (T : State) (locs : List Loc) (vm0 : Vm) (fs : List Frame), Stand κ.p κ.l κ.e κ.R (κ.s.setVm vm0) κ.m κ.args κ.below κ.meth κ.c T locs cells slots → (∀ (f : JFrame) (acts : List Action), f.method = κ.m → f.locked = none → f.entered = [] → (doReturn κ.e (T.setTop f) acts v).1 = T.setFrames fs) →
      Steps κ.p.tables κ.e κ.below (T.setTop (mkF κ.m pc Ls st)) (T.setFrames fs)) : Go κ h cells slots pc Ls st := fun T locs vm0 X A hZ N B eT => by
  obtain ⟨⟨k0, hS, hk⟩, hw⟩ := A
  have hlk := K.locks
  obtain ⟨fs, hr, hrun, hended, hW, hsame⟩ := X.leave (v := v) (fun q => hv (K.kr ▸ q))
  have hR : ReturnedEndW κ.s (.returned v) (T.setFrames fs) locs cells slots := by
    obtain ⟨a, b, c'⟩ := hS.ended (U := T.setFrames fs) hW (by show k0 ≤ T.heap.size; rw [eT]; exact hk) hsame
    exact ⟨⟨v, rfl⟩, a, b, c'⟩
  refine ⟨_, _, st1 T locs vm0 fs X hr, hrun, hended, v, locs, rfl, ⟨?_, N, hR.2.2.2.2.1, by show Old κ.Z κ.n0 T.heap; rw [eT]; exact B⟩, Ends.mono ⟨fun w => ?_, hR⟩ (by rw [K.eR]; exact hc) (by rw [K.eR]; exact hs)⟩
  · show κ.Q v T.heap
    rw [K.eQ, eT]; exact hq
  · have e0 := hw w
    subst e0
    exact ⟨⟨v, rfl⟩, hW, hsame⟩
theorem retOf (K : Ok κ l Z n0 own nm bytes maxL (some t) rm Q) {w : Value} {i : Instr} (hd : decode bytes pc = .ok (i, 1)) (hn : narrow t w = w)
    (hi : (i = .ireturn ∧ (t = .int ∨ t = .boolean ∨ t = .byte ∨ t = .char ∨ t = .short) ∧ ∃ z, w = .int z) ∨ (i = .lreturn ∧ t = .long ∧ ∃ z, w = .long z) ∨ (i = .dreturn ∧ t = .double ∧ ∃ z, w = .double z) ∨ (i = .freturn ∧ t = .float ∧ ∃ z, w = .float z) ∨ (i = .areturn ∧ t.isReference = true ∧ w.isRef = true))
    (hq : Q (some w) h) (hc : cells ≤ rm.cells) (hs : slots ≤ rm.slots) : Go κ h cells slots pc Ls (w :: st) :=
  out K (fun q => nomatch q) hq hc hs fun T locs vm0 fs X hr => retOut X K.exec K.kr hn hi (hb K.kb hd) hr
theorem ireturn (K : Ok κ l Z n0 own nm bytes maxL (some t) rm Q) {z : Int32} (hd : decode bytes pc = .ok (.ireturn, 1)) (ht : t = .int ∨ t = .boolean ∨ t = .byte ∨ t = .char ∨ t = .short) (hn : narrow t (.int z) = .int z)
    (hq : Q (some (.int z)) h) (hc : cells ≤ rm.cells) (hs : slots ≤ rm.slots) : Go κ h cells slots pc Ls (.int z :: st) := retOf K hd hn (Or.inl ⟨rfl, ht, z, rfl⟩) hq hc hs
theorem lreturn (K : Ok κ l Z n0 own nm bytes maxL (some .long) rm Q) {z : Int64} (hd : decode bytes pc = .ok (.lreturn, 1)) (hq : Q (some (.long z)) h) (hc : cells ≤ rm.cells) (hs : slots ≤ rm.slots) : Go κ h cells slots pc Ls (.long z :: st) :=
  retOf K hd rfl (Or.inr (Or.inl ⟨rfl, rfl, z, rfl⟩)) hq hc hs
theorem areturn (K : Ok κ l Z n0 own nm bytes maxL (some t) rm Q) {w : Value} (hd : decode bytes pc = .ok (.areturn, 1)) (ht : t.isReference = true) (hw : w.isRef = true) (hq : Q (some w) h) (hc : cells ≤ rm.cells) (hs : slots ≤ rm.slots) : Go κ h cells slots pc Ls (w :: st) := by
  refine retOf K hd ?_ (Or.inr (Or.inr (Or.inr (Or.inr ⟨rfl, ht, hw⟩)))) hq hc hs
  cases t <;> first | (exact Bool.noConfusion ht; done) | (rcases ref_cases hw with rfl | ⟨a, rfl⟩ <;> rfl)
theorem return0 (K : Ok κ l Z n0 own nm bytes maxL none rm Q) (hd : decode bytes pc = .ok (.return_, 1)) (hq : Q none h) (hc : cells ≤ rm.cells) (hs : slots ≤ rm.slots) : Go κ h cells slots pc Ls [] :=
  out K (fun _ => rfl) hq hc hs fun T locs vm0 fs X hr => X.returnOut K.exec K.kr (hb K.kb hd) hr

theorem iloadN {k : Fin 4} {v : Int32} (K : Ok κ l Z n0 own nm bytes maxL ret rm Q) (hd : decode bytes pc = .ok (.iload_n k, 1)) (hl : Ls[k.val]? = some (.val (.int v))) (hr : Go κ h cells slots (pc + 1) Ls ((.int v) :: st)) : Go κ h cells slots pc Ls (st) := fun T locs vm0 X A hZ N B eT => by
  obtain ⟨s₂, o, hs, r⟩ := hr T locs vm0 X A hZ N B eT
  exact ⟨s₂, o, XS.iloadN X.here K.exec rfl (hb K.kb hd) hl hs, r⟩
theorem iload {k : Nat} {v : Int32} (K : Ok κ l Z n0 own nm bytes maxL ret rm Q) (hd : decode bytes pc = .ok (.iload k, 2)) (hl : Ls[k]? = some (.val (.int v))) (hr : Go κ h cells slots (pc + 2) Ls ((.int v) :: st)) : Go κ h cells slots pc Ls (st) := fun T locs vm0 X A hZ N B eT => by
  obtain ⟨s₂, o, hs, r⟩ := hr T locs vm0 X A hZ N B eT
  exact ⟨s₂, o, XS.iload X.here K.exec rfl (hb K.kb hd) hl hs, r⟩
theorem lloadN {k : Fin 4} {v : Int64} (K : Ok κ l Z n0 own nm bytes maxL ret rm Q) (hd : decode bytes pc = .ok (.lload_n k, 1)) (hl : Ls[k.val]? = some (.val (.long v))) (hr : Go κ h cells slots (pc + 1) Ls ((.long v) :: st)) : Go κ h cells slots pc Ls (st) := fun T locs vm0 X A hZ N B eT => by
  obtain ⟨s₂, o, hs, r⟩ := hr T locs vm0 X A hZ N B eT
  exact ⟨s₂, o, XT.lloadN X.here K.exec rfl (hb K.kb hd) hl hs, r⟩
theorem lload {k : Nat} {v : Int64} (K : Ok κ l Z n0 own nm bytes maxL ret rm Q) (hd : decode bytes pc = .ok (.lload k, 2)) (hl : Ls[k]? = some (.val (.long v))) (hr : Go κ h cells slots (pc + 2) Ls ((.long v) :: st)) : Go κ h cells slots pc Ls (st) := fun T locs vm0 X A hZ N B eT => by
  obtain ⟨s₂, o, hs, r⟩ := hr T locs vm0 X A hZ N B eT
  exact ⟨s₂, o, XT.lload X.here K.exec rfl (hb K.kb hd) hl hs, r⟩
theorem aloadN {k : Fin 4} {v : Value} (K : Ok κ l Z n0 own nm bytes maxL ret rm Q) (hd : decode bytes pc = .ok (.aload_n k, 1)) (hl : Ls[k.val]? = some (.val v)) (hv : v.isRef = true) (hr : Go κ h cells slots (pc + 1) Ls (v :: st)) : Go κ h cells slots pc Ls (st) := fun T locs vm0 X A hZ N B eT => by
  obtain ⟨s₂, o, hs, r⟩ := hr T locs vm0 X A hZ N B eT
  exact ⟨s₂, o, XS.aloadN X.here K.exec rfl (hb K.kb hd) hl hv hs, r⟩
theorem aload {k : Nat} {v : Value} (K : Ok κ l Z n0 own nm bytes maxL ret rm Q) (hd : decode bytes pc = .ok (.aload k, 2)) (hl : Ls[k]? = some (.val v)) (hv : v.isRef = true) (hr : Go κ h cells slots (pc + 2) Ls (v :: st)) : Go κ h cells slots pc Ls (st) := fun T locs vm0 X A hZ N B eT => by
  obtain ⟨s₂, o, hs, r⟩ := hr T locs vm0 X A hZ N B eT
  exact ⟨s₂, o, XS.aload X.here K.exec rfl (hb K.kb hd) hl hv hs, r⟩
theorem istoreN {k : Fin 4} {x : Int32} {l' : Array Slot} (K : Ok κ l Z n0 own nm bytes maxL ret rm Q) (hd : decode bytes pc = .ok (.istore_n k, 1)) (hl : storeLocals Ls k.val (.int x) = some l') (hr : Go κ h cells slots (pc + 1) l' (st)) : Go κ h cells slots pc Ls ((.int x) :: st) := fun T locs vm0 X A hZ N B eT => by
  obtain ⟨s₂, o, hs, r⟩ := hr T locs vm0 X A hZ N B eT
  exact ⟨s₂, o, XS.istoreN X.here K.exec rfl (hb K.kb hd) rfl hl hs, r⟩
theorem istore {k : Nat} {x : Int32} {l' : Array Slot} (K : Ok κ l Z n0 own nm bytes maxL ret rm Q) (hd : decode bytes pc = .ok (.istore k, 2)) (hl : storeLocals Ls k (.int x) = some l') (hr : Go κ h cells slots (pc + 2) l' (st)) : Go κ h cells slots pc Ls ((.int x) :: st) := fun T locs vm0 X A hZ N B eT => by
  obtain ⟨s₂, o, hs, r⟩ := hr T locs vm0 X A hZ N B eT
  exact ⟨s₂, o, XS.istore X.here K.exec rfl (hb K.kb hd) rfl hl hs, r⟩
theorem lstoreN {k : Fin 4} {x : Int64} {l' : Array Slot} (K : Ok κ l Z n0 own nm bytes maxL ret rm Q) (hd : decode bytes pc = .ok (.lstore_n k, 1)) (hl : storeLocals Ls k.val (.long x) = some l') (hr : Go κ h cells slots (pc + 1) l' (st)) : Go κ h cells slots pc Ls ((.long x) :: st) := fun T locs vm0 X A hZ N B eT => by
  obtain ⟨s₂, o, hs, r⟩ := hr T locs vm0 X A hZ N B eT
  exact ⟨s₂, o, XT.lstoreN X.here K.exec rfl (hb K.kb hd) rfl hl hs, r⟩
theorem lstore {k : Nat} {x : Int64} {l' : Array Slot} (K : Ok κ l Z n0 own nm bytes maxL ret rm Q) (hd : decode bytes pc = .ok (.lstore k, 2)) (hl : storeLocals Ls k (.long x) = some l') (hr : Go κ h cells slots (pc + 2) l' (st)) : Go κ h cells slots pc Ls ((.long x) :: st) := fun T locs vm0 X A hZ N B eT => by
  obtain ⟨s₂, o, hs, r⟩ := hr T locs vm0 X A hZ N B eT
  exact ⟨s₂, o, XT.lstore X.here K.exec rfl (hb K.kb hd) rfl hl hs, r⟩
theorem astoreN {k : Fin 4} {x : Value} {l' : Array Slot} (K : Ok κ l Z n0 own nm bytes maxL ret rm Q) (hd : decode bytes pc = .ok (.astore_n k, 1)) (hv : x.isRef = true) (hl : storeLocals Ls k.val x = some l') (hr : Go κ h cells slots (pc + 1) l' (st)) : Go κ h cells slots pc Ls (x :: st) := fun T locs vm0 X A hZ N B eT => by
  obtain ⟨s₂, o, hs, r⟩ := hr T locs vm0 X A hZ N B eT
  exact ⟨s₂, o, XS.astoreN X.here K.exec rfl (hb K.kb hd) rfl hv hl hs, r⟩
theorem astore {k : Nat} {x : Value} {l' : Array Slot} (K : Ok κ l Z n0 own nm bytes maxL ret rm Q) (hd : decode bytes pc = .ok (.astore k, 2)) (hv : x.isRef = true) (hl : storeLocals Ls k x = some l') (hr : Go κ h cells slots (pc + 2) l' (st)) : Go κ h cells slots pc Ls (x :: st) := fun T locs vm0 X A hZ N B eT => by
  obtain ⟨s₂, o, hs, r⟩ := hr T locs vm0 X A hZ N B eT
  exact ⟨s₂, o, XS.astore X.here K.exec rfl (hb K.kb hd) rfl hv hl hs, r⟩
theorem iconst {i : Int} (K : Ok κ l Z n0 own nm bytes maxL ret rm Q) (hd : decode bytes pc = .ok (.iconst i, 1))  (hr : Go κ h cells slots (pc + 1) Ls (.int (Int32.ofInt i) :: st)) : Go κ h cells slots pc Ls (st) := fun T locs vm0 X A hZ N B eT => by
  obtain ⟨s₂, o, hs, r⟩ := hr T locs vm0 X A hZ N B eT
  exact ⟨s₂, o, XS.iconst X.here K.exec rfl (hb K.kb hd)  hs, r⟩
theorem bipush {i : Int} (K : Ok κ l Z n0 own nm bytes maxL ret rm Q) (hd : decode bytes pc = .ok (.bipush i, 2))  (hr : Go κ h cells slots (pc + 2) Ls (.int (Int8.ofInt i).toInt32 :: st)) : Go κ h cells slots pc Ls (st) := fun T locs vm0 X A hZ N B eT => by
  obtain ⟨s₂, o, hs, r⟩ := hr T locs vm0 X A hZ N B eT
  exact ⟨s₂, o, XS.bipush X.here K.exec rfl (hb K.kb hd)  hs, r⟩
theorem sipush {i : Int} (K : Ok κ l Z n0 own nm bytes maxL ret rm Q) (hd : decode bytes pc = .ok (.sipush i, 3))  (hr : Go κ h cells slots (pc + 3) Ls (.int (Int16.ofInt i).toInt32 :: st)) : Go κ h cells slots pc Ls (st) := fun T locs vm0 X A hZ N B eT => by
  obtain ⟨s₂, o, hs, r⟩ := hr T locs vm0 X A hZ N B eT
  exact ⟨s₂, o, XS.sipush X.here K.exec rfl (hb K.kb hd)  hs, r⟩
theorem lconst {k : Fin 2} (K : Ok κ l Z n0 own nm bytes maxL ret rm Q) (hd : decode bytes pc = .ok (.lconst k, 1))  (hr : Go κ h cells slots (pc + 1) Ls (.long (Int64.ofNat k) :: st)) : Go κ h cells slots pc Ls (st) := fun T locs vm0 X A hZ N B eT => by
  obtain ⟨s₂, o, hs, r⟩ := hr T locs vm0 X A hZ N B eT
  exact ⟨s₂, o, XT.lconst X.here K.exec rfl (hb K.kb hd)  hs, r⟩
theorem aconstNull  (K : Ok κ l Z n0 own nm bytes maxL ret rm Q) (hd : decode bytes pc = .ok (.aconst_null, 1))  (hr : Go κ h cells slots (pc + 1) Ls (.null :: st)) : Go κ h cells slots pc Ls (st) := fun T locs vm0 X A hZ N B eT => by
  obtain ⟨s₂, o, hs, r⟩ := hr T locs vm0 X A hZ N B eT
  exact ⟨s₂, o, XS.aconstNull X.here K.exec rfl (hb K.kb hd)  hs, r⟩
theorem iadd {x y : Int32} (K : Ok κ l Z n0 own nm bytes maxL ret rm Q) (hd : decode bytes pc = .ok (.iadd, 1))  (hr : Go κ h cells slots (pc + 1) Ls (.int (x + y) :: st)) : Go κ h cells slots pc Ls (.int y :: .int x :: st) := fun T locs vm0 X A hZ N B eT => by
  obtain ⟨s₂, o, hs, r⟩ := hr T locs vm0 X A hZ N B eT
  exact ⟨s₂, o, XS.iadd X.here K.exec rfl (hb K.kb hd) rfl hs, r⟩
theorem isub {x y : Int32} (K : Ok κ l Z n0 own nm bytes maxL ret rm Q) (hd : decode bytes pc = .ok (.isub, 1))  (hr : Go κ h cells slots (pc + 1) Ls (.int (x - y) :: st)) : Go κ h cells slots pc Ls (.int y :: .int x :: st) := fun T locs vm0 X A hZ N B eT => by
  obtain ⟨s₂, o, hs, r⟩ := hr T locs vm0 X A hZ N B eT
  exact ⟨s₂, o, XS.isub X.here K.exec rfl (hb K.kb hd) rfl hs, r⟩
theorem imul {x y : Int32} (K : Ok κ l Z n0 own nm bytes maxL ret rm Q) (hd : decode bytes pc = .ok (.imul, 1))  (hr : Go κ h cells slots (pc + 1) Ls (.int (x * y) :: st)) : Go κ h cells slots pc Ls (.int y :: .int x :: st) := fun T locs vm0 X A hZ N B eT => by
  obtain ⟨s₂, o, hs, r⟩ := hr T locs vm0 X A hZ N B eT
  exact ⟨s₂, o, XS.imul X.here K.exec rfl (hb K.kb hd) rfl hs, r⟩
theorem iand {x y : Int32} (K : Ok κ l Z n0 own nm bytes maxL ret rm Q) (hd : decode bytes pc = .ok (.iand, 1))  (hr : Go κ h cells slots (pc + 1) Ls (.int (x &&& y) :: st)) : Go κ h cells slots pc Ls (.int y :: .int x :: st) := fun T locs vm0 X A hZ N B eT => by
  obtain ⟨s₂, o, hs, r⟩ := hr T locs vm0 X A hZ N B eT
  exact ⟨s₂, o, XS.iand X.here K.exec rfl (hb K.kb hd) rfl hs, r⟩
theorem ior {x y : Int32} (K : Ok κ l Z n0 own nm bytes maxL ret rm Q) (hd : decode bytes pc = .ok (.ior, 1))  (hr : Go κ h cells slots (pc + 1) Ls (.int (x ||| y) :: st)) : Go κ h cells slots pc Ls (.int y :: .int x :: st) := fun T locs vm0 X A hZ N B eT => by
  obtain ⟨s₂, o, hs, r⟩ := hr T locs vm0 X A hZ N B eT
  exact ⟨s₂, o, XT.ior X.here K.exec rfl (hb K.kb hd) rfl hs, r⟩
theorem ixor {x y : Int32} (K : Ok κ l Z n0 own nm bytes maxL ret rm Q) (hd : decode bytes pc = .ok (.ixor, 1))  (hr : Go κ h cells slots (pc + 1) Ls (.int (x ^^^ y) :: st)) : Go κ h cells slots pc Ls (.int y :: .int x :: st) := fun T locs vm0 X A hZ N B eT => by
  obtain ⟨s₂, o, hs, r⟩ := hr T locs vm0 X A hZ N B eT
  exact ⟨s₂, o, XT.ixor X.here K.exec rfl (hb K.kb hd) rfl hs, r⟩
theorem ishl {x y : Int32} (K : Ok κ l Z n0 own nm bytes maxL ret rm Q) (hd : decode bytes pc = .ok (.ishl, 1))  (hr : Go κ h cells slots (pc + 1) Ls (.int (x <<< (y &&& 31)) :: st)) : Go κ h cells slots pc Ls (.int y :: .int x :: st) := fun T locs vm0 X A hZ N B eT => by
  obtain ⟨s₂, o, hs, r⟩ := hr T locs vm0 X A hZ N B eT
  exact ⟨s₂, o, XT.ishl X.here K.exec rfl (hb K.kb hd) rfl hs, r⟩
theorem ishr {x y : Int32} (K : Ok κ l Z n0 own nm bytes maxL ret rm Q) (hd : decode bytes pc = .ok (.ishr, 1))  (hr : Go κ h cells slots (pc + 1) Ls (.int (x >>> (y &&& 31)) :: st)) : Go κ h cells slots pc Ls (.int y :: .int x :: st) := fun T locs vm0 X A hZ N B eT => by
  obtain ⟨s₂, o, hs, r⟩ := hr T locs vm0 X A hZ N B eT
  exact ⟨s₂, o, XT.ishr X.here K.exec rfl (hb K.kb hd) rfl hs, r⟩
theorem iushr {x y : Int32} (K : Ok κ l Z n0 own nm bytes maxL ret rm Q) (hd : decode bytes pc = .ok (.iushr, 1))  (hr : Go κ h cells slots (pc + 1) Ls (.int (XT.ushr x y) :: st)) : Go κ h cells slots pc Ls (.int y :: .int x :: st) := fun T locs vm0 X A hZ N B eT => by
  obtain ⟨s₂, o, hs, r⟩ := hr T locs vm0 X A hZ N B eT
  exact ⟨s₂, o, XT.iushr X.here K.exec rfl (hb K.kb hd) rfl hs, r⟩
theorem idiv {x y : Int32} (K : Ok κ l Z n0 own nm bytes maxL ret rm Q) (hd : decode bytes pc = .ok (.idiv, 1)) (hy : y ≠ 0) (hr : Go κ h cells slots (pc + 1) Ls (.int (x / y) :: st)) : Go κ h cells slots pc Ls (.int y :: .int x :: st) := fun T locs vm0 X A hZ N B eT => by
  obtain ⟨s₂, o, hs, r⟩ := hr T locs vm0 X A hZ N B eT
  exact ⟨s₂, o, XS.idiv X.here K.exec rfl (hb K.kb hd) rfl hy hs, r⟩
theorem ineg {x : Int32} (K : Ok κ l Z n0 own nm bytes maxL ret rm Q) (hd : decode bytes pc = .ok (.ineg, 1))  (hr : Go κ h cells slots (pc + 1) Ls (.int (-x) :: st)) : Go κ h cells slots pc Ls (.int x :: st) := fun T locs vm0 X A hZ N B eT => by
  obtain ⟨s₂, o, hs, r⟩ := hr T locs vm0 X A hZ N B eT
  exact ⟨s₂, o, XS.ineg X.here K.exec rfl (hb K.kb hd) rfl hs, r⟩
theorem ladd {x y : Int64} (K : Ok κ l Z n0 own nm bytes maxL ret rm Q) (hd : decode bytes pc = .ok (.ladd, 1))  (hr : Go κ h cells slots (pc + 1) Ls (.long (x + y) :: st)) : Go κ h cells slots pc Ls (.long y :: .long x :: st) := fun T locs vm0 X A hZ N B eT => by
  obtain ⟨s₂, o, hs, r⟩ := hr T locs vm0 X A hZ N B eT
  exact ⟨s₂, o, XT.ladd X.here K.exec rfl (hb K.kb hd) rfl hs, r⟩
theorem lsub {x y : Int64} (K : Ok κ l Z n0 own nm bytes maxL ret rm Q) (hd : decode bytes pc = .ok (.lsub, 1))  (hr : Go κ h cells slots (pc + 1) Ls (.long (x - y) :: st)) : Go κ h cells slots pc Ls (.long y :: .long x :: st) := fun T locs vm0 X A hZ N B eT => by
  obtain ⟨s₂, o, hs, r⟩ := hr T locs vm0 X A hZ N B eT
  exact ⟨s₂, o, XT.lsub X.here K.exec rfl (hb K.kb hd) rfl hs, r⟩
theorem lmul {x y : Int64} (K : Ok κ l Z n0 own nm bytes maxL ret rm Q) (hd : decode bytes pc = .ok (.lmul, 1))  (hr : Go κ h cells slots (pc + 1) Ls (.long (x * y) :: st)) : Go κ h cells slots pc Ls (.long y :: .long x :: st) := fun T locs vm0 X A hZ N B eT => by
  obtain ⟨s₂, o, hs, r⟩ := hr T locs vm0 X A hZ N B eT
  exact ⟨s₂, o, XT.lmul X.here K.exec rfl (hb K.kb hd) rfl hs, r⟩
theorem land {x y : Int64} (K : Ok κ l Z n0 own nm bytes maxL ret rm Q) (hd : decode bytes pc = .ok (.land, 1))  (hr : Go κ h cells slots (pc + 1) Ls (.long (x &&& y) :: st)) : Go κ h cells slots pc Ls (.long y :: .long x :: st) := fun T locs vm0 X A hZ N B eT => by
  obtain ⟨s₂, o, hs, r⟩ := hr T locs vm0 X A hZ N B eT
  exact ⟨s₂, o, XT.land X.here K.exec rfl (hb K.kb hd) rfl hs, r⟩
theorem lor {x y : Int64} (K : Ok κ l Z n0 own nm bytes maxL ret rm Q) (hd : decode bytes pc = .ok (.lor, 1))  (hr : Go κ h cells slots (pc + 1) Ls (.long (x ||| y) :: st)) : Go κ h cells slots pc Ls (.long y :: .long x :: st) := fun T locs vm0 X A hZ N B eT => by
  obtain ⟨s₂, o, hs, r⟩ := hr T locs vm0 X A hZ N B eT
  exact ⟨s₂, o, XT.lor X.here K.exec rfl (hb K.kb hd) rfl hs, r⟩
theorem lxor {x y : Int64} (K : Ok κ l Z n0 own nm bytes maxL ret rm Q) (hd : decode bytes pc = .ok (.lxor, 1))  (hr : Go κ h cells slots (pc + 1) Ls (.long (x ^^^ y) :: st)) : Go κ h cells slots pc Ls (.long y :: .long x :: st) := fun T locs vm0 X A hZ N B eT => by
  obtain ⟨s₂, o, hs, r⟩ := hr T locs vm0 X A hZ N B eT
  exact ⟨s₂, o, XT.lxor X.here K.exec rfl (hb K.kb hd) rfl hs, r⟩
theorem ldiv {x y : Int64} (K : Ok κ l Z n0 own nm bytes maxL ret rm Q) (hd : decode bytes pc = .ok (.ldiv, 1)) (hy : y ≠ 0) (hr : Go κ h cells slots (pc + 1) Ls (.long (x / y) :: st)) : Go κ h cells slots pc Ls (.long y :: .long x :: st) := fun T locs vm0 X A hZ N B eT => by
  obtain ⟨s₂, o, hs, r⟩ := hr T locs vm0 X A hZ N B eT
  exact ⟨s₂, o, XT.ldiv X.here K.exec rfl (hb K.kb hd) rfl hy hs, r⟩
theorem lshl {x : Int64} {y : Int32} (K : Ok κ l Z n0 own nm bytes maxL ret rm Q) (hd : decode bytes pc = .ok (.lshl, 1))  (hr : Go κ h cells slots (pc + 1) Ls (.long (x <<< (y.toInt64 &&& 63)) :: st)) : Go κ h cells slots pc Ls (.int y :: .long x :: st) := fun T locs vm0 X A hZ N B eT => by
  obtain ⟨s₂, o, hs, r⟩ := hr T locs vm0 X A hZ N B eT
  exact ⟨s₂, o, XT.lshl X.here K.exec rfl (hb K.kb hd) rfl hs, r⟩
theorem lshr {x : Int64} {y : Int32} (K : Ok κ l Z n0 own nm bytes maxL ret rm Q) (hd : decode bytes pc = .ok (.lshr, 1))  (hr : Go κ h cells slots (pc + 1) Ls (.long (x >>> (y.toInt64 &&& 63)) :: st)) : Go κ h cells slots pc Ls (.int y :: .long x :: st) := fun T locs vm0 X A hZ N B eT => by
  obtain ⟨s₂, o, hs, r⟩ := hr T locs vm0 X A hZ N B eT
  exact ⟨s₂, o, XT.lshr X.here K.exec rfl (hb K.kb hd) rfl hs, r⟩
theorem lushr {x : Int64} {y : Int32} (K : Ok κ l Z n0 own nm bytes maxL ret rm Q) (hd : decode bytes pc = .ok (.lushr, 1))  (hr : Go κ h cells slots (pc + 1) Ls (.long (XT.ushrL x y) :: st)) : Go κ h cells slots pc Ls (.int y :: .long x :: st) := fun T locs vm0 X A hZ N B eT => by
  obtain ⟨s₂, o, hs, r⟩ := hr T locs vm0 X A hZ N B eT
  exact ⟨s₂, o, XT.lushr X.here K.exec rfl (hb K.kb hd) rfl hs, r⟩
theorem lneg {x : Int64} (K : Ok κ l Z n0 own nm bytes maxL ret rm Q) (hd : decode bytes pc = .ok (.lneg, 1))  (hr : Go κ h cells slots (pc + 1) Ls (.long (-x) :: st)) : Go κ h cells slots pc Ls (.long x :: st) := fun T locs vm0 X A hZ N B eT => by
  obtain ⟨s₂, o, hs, r⟩ := hr T locs vm0 X A hZ N B eT
  exact ⟨s₂, o, XT.lneg X.here K.exec rfl (hb K.kb hd) rfl hs, r⟩
theorem i2l {x : Int32} (K : Ok κ l Z n0 own nm bytes maxL ret rm Q) (hd : decode bytes pc = .ok (.i2l, 1))  (hr : Go κ h cells slots (pc + 1) Ls (.long x.toInt64 :: st)) : Go κ h cells slots pc Ls (.int x :: st) := fun T locs vm0 X A hZ N B eT => by
  obtain ⟨s₂, o, hs, r⟩ := hr T locs vm0 X A hZ N B eT
  exact ⟨s₂, o, XT.i2l X.here K.exec rfl (hb K.kb hd) rfl hs, r⟩
theorem l2i {x : Int64} (K : Ok κ l Z n0 own nm bytes maxL ret rm Q) (hd : decode bytes pc = .ok (.l2i, 1))  (hr : Go κ h cells slots (pc + 1) Ls (.int x.toInt32 :: st)) : Go κ h cells slots pc Ls (.long x :: st) := fun T locs vm0 X A hZ N B eT => by
  obtain ⟨s₂, o, hs, r⟩ := hr T locs vm0 X A hZ N B eT
  exact ⟨s₂, o, XT.l2i X.here K.exec rfl (hb K.kb hd) rfl hs, r⟩
theorem i2b {x : Int32} (K : Ok κ l Z n0 own nm bytes maxL ret rm Q) (hd : decode bytes pc = .ok (.i2b, 1))  (hr : Go κ h cells slots (pc + 1) Ls (.int x.toInt8.toInt32 :: st)) : Go κ h cells slots pc Ls (.int x :: st) := fun T locs vm0 X A hZ N B eT => by
  obtain ⟨s₂, o, hs, r⟩ := hr T locs vm0 X A hZ N B eT
  exact ⟨s₂, o, XT.i2b X.here K.exec rfl (hb K.kb hd) rfl hs, r⟩
theorem i2c {x : Int32} (K : Ok κ l Z n0 own nm bytes maxL ret rm Q) (hd : decode bytes pc = .ok (.i2c, 1))  (hr : Go κ h cells slots (pc + 1) Ls (.int x.toUInt32.toUInt16.toUInt32.toInt32 :: st)) : Go κ h cells slots pc Ls (.int x :: st) := fun T locs vm0 X A hZ N B eT => by
  obtain ⟨s₂, o, hs, r⟩ := hr T locs vm0 X A hZ N B eT
  exact ⟨s₂, o, XT.i2c X.here K.exec rfl (hb K.kb hd) rfl hs, r⟩
theorem i2s {x : Int32} (K : Ok κ l Z n0 own nm bytes maxL ret rm Q) (hd : decode bytes pc = .ok (.i2s, 1))  (hr : Go κ h cells slots (pc + 1) Ls (.int x.toInt16.toInt32 :: st)) : Go κ h cells slots pc Ls (.int x :: st) := fun T locs vm0 X A hZ N B eT => by
  obtain ⟨s₂, o, hs, r⟩ := hr T locs vm0 X A hZ N B eT
  exact ⟨s₂, o, XT.i2s X.here K.exec rfl (hb K.kb hd) rfl hs, r⟩
theorem lcmp {x y : Int64} (K : Ok κ l Z n0 own nm bytes maxL ret rm Q) (hd : decode bytes pc = .ok (.lcmp, 1))  (hr : Go κ h cells slots (pc + 1) Ls (.int (XT.cmpL x y) :: st)) : Go κ h cells slots pc Ls (.long y :: .long x :: st) := fun T locs vm0 X A hZ N B eT => by
  obtain ⟨s₂, o, hs, r⟩ := hr T locs vm0 X A hZ N B eT
  exact ⟨s₂, o, XT.lcmp X.here K.exec rfl (hb K.kb hd) rfl hs, r⟩
theorem dup {x : Value} (K : Ok κ l Z n0 own nm bytes maxL ret rm Q) (hd : decode bytes pc = .ok (.dup, 1)) (hc : x.category = 1) (hr : Go κ h cells slots (pc + 1) Ls (x :: x :: st)) : Go κ h cells slots pc Ls (x :: st) := fun T locs vm0 X A hZ N B eT => by
  obtain ⟨s₂, o, hs, r⟩ := hr T locs vm0 X A hZ N B eT
  exact ⟨s₂, o, XS.dup X.here K.exec rfl (hb K.kb hd) rfl hc hs, r⟩
theorem pop {x : Value} (K : Ok κ l Z n0 own nm bytes maxL ret rm Q) (hd : decode bytes pc = .ok (.pop, 1)) (hc : x.category = 1) (hr : Go κ h cells slots (pc + 1) Ls (st)) : Go κ h cells slots pc Ls (x :: st) := fun T locs vm0 X A hZ N B eT => by
  obtain ⟨s₂, o, hs, r⟩ := hr T locs vm0 X A hZ N B eT
  exact ⟨s₂, o, XT.pop X.here K.exec rfl (hb K.kb hd) rfl hc hs, r⟩
theorem dupX1 {x y : Value} (K : Ok κ l Z n0 own nm bytes maxL ret rm Q) (hd : decode bytes pc = .ok (.dup_x1, 1)) (hc : x.category = 1) (hc' : y.category = 1) (hr : Go κ h cells slots (pc + 1) Ls (x :: y :: x :: st)) : Go κ h cells slots pc Ls (x :: y :: st) := fun T locs vm0 X A hZ N B eT => by
  obtain ⟨s₂, o, hs, r⟩ := hr T locs vm0 X A hZ N B eT
  exact ⟨s₂, o, XT.dupX1 X.here K.exec rfl (hb K.kb hd) rfl hc hc' hs, r⟩
theorem dup2 {x y : Value} (K : Ok κ l Z n0 own nm bytes maxL ret rm Q) (hd : decode bytes pc = .ok (.dup2, 1)) (hc : x.category = 1) (hc' : y.category = 1) (hr : Go κ h cells slots (pc + 1) Ls (x :: y :: x :: y :: st)) : Go κ h cells slots pc Ls (x :: y :: st) := fun T locs vm0 X A hZ N B eT => by
  obtain ⟨s₂, o, hs, r⟩ := hr T locs vm0 X A hZ N B eT
  exact ⟨s₂, o, XT.dup2 X.here K.exec rfl (hb K.kb hd) rfl hc hc' hs, r⟩
theorem dup2L {x : Int64} (K : Ok κ l Z n0 own nm bytes maxL ret rm Q) (hd : decode bytes pc = .ok (.dup2, 1))  (hr : Go κ h cells slots (pc + 1) Ls (.long x :: .long x :: st)) : Go κ h cells slots pc Ls (.long x :: st) := fun T locs vm0 X A hZ N B eT => by
  obtain ⟨s₂, o, hs, r⟩ := hr T locs vm0 X A hZ N B eT
  exact ⟨s₂, o, XT.dup2L X.here K.exec rfl (hb K.kb hd) rfl hs, r⟩
theorem iinc {k : Nat} {cst : Int} {x : Int32} {l' : Array Slot} (K : Ok κ l Z n0 own nm bytes maxL ret rm Q) (hd : decode bytes pc = .ok (.iinc k cst, 3)) (hl : Ls[k]? = some (.val (.int x))) (hl' : storeLocals Ls k (.int (x + Int32.ofInt cst)) = some l') (hr : Go κ h cells slots (pc + 3) l' (st)) : Go κ h cells slots pc Ls (st) := fun T locs vm0 X A hZ N B eT => by
  obtain ⟨s₂, o, hs, r⟩ := hr T locs vm0 X A hZ N B eT
  exact ⟨s₂, o, XS.iinc X.here K.exec rfl (hb K.kb hd) hl hl' hs, r⟩
theorem irem {x y : Int32} (K : Ok κ l Z n0 own nm bytes maxL ret rm Q) (hd : decode bytes pc = .ok (.irem, 1)) (hy : y ≠ 0) (hr : Go κ h cells slots (pc + 1) Ls (.int (x % y) :: st)) : Go κ h cells slots pc Ls (.int y :: .int x :: st) := fun T locs vm0 X A hZ N B eT => by
  obtain ⟨s₂, o, hs, r⟩ := hr T locs vm0 X A hZ N B eT
  exact ⟨s₂, o, iremM X K.exec rfl (hb K.kb hd) rfl hy hs, r⟩
theorem lrem {x y : Int64} (K : Ok κ l Z n0 own nm bytes maxL ret rm Q) (hd : decode bytes pc = .ok (.lrem, 1)) (hy : y ≠ 0) (hr : Go κ h cells slots (pc + 1) Ls (.long (x % y) :: st)) : Go κ h cells slots pc Ls (.long y :: .long x :: st) := fun T locs vm0 X A hZ N B eT => by
  obtain ⟨s₂, o, hs, r⟩ := hr T locs vm0 X A hZ N B eT
  exact ⟨s₂, o, XT.lrem X.here K.exec rfl (hb K.kb hd) rfl hy (by rw [lrem_mod]; exact hs), r⟩
theorem goto {o' : Int} {pc' : Nat} (K : Ok κ l Z n0 own nm bytes maxL ret rm Q) (hd : decode bytes pc = .ok (.goto o', 3)) (ho : 0 ≤ (pc : Int) + o') (hp : ((pc : Int) + o').toNat = pc') (hr : Go κ h cells slots pc' Ls st) : Go κ h cells slots pc Ls st := fun T locs vm0 X A hZ N B eT => by
  obtain ⟨s₂, o, hs, r⟩ := hr T locs vm0 X A hZ N B eT
  exact ⟨s₂, o, XS.goto X.here K.exec rfl rfl (hb K.kb hd) ho hp hs, r⟩
/-! ## branches: both roads, each with what is known on it -/
theorem ifB {cd : ClassFile.Cond} {x : Int32} {o' : Int} {pc' : Nat} (K : Ok κ l Z n0 own nm bytes maxL ret rm Q) (hd : decode bytes pc = .ok (.ifCond cd o', 3)) (ho : 0 ≤ (pc : Int) + o') (hp : ((pc : Int) + o').toNat = pc')
    (hy : if_icmp.holds cd x 0 = true → Go κ h cells slots pc' Ls st) (hn : if_icmp.holds cd x 0 = false → Go κ h cells slots (pc + 3) Ls st) : Go κ h cells slots pc Ls (.int x :: st) := fun T locs vm0 X A hZ N B eT => by
  cases hc : if_icmp.holds cd x 0 with
  | true => obtain ⟨s₂, o, hs, r⟩ := hy hc T locs vm0 X A hZ N B eT; exact ⟨s₂, o, XS.ifYes X.here K.exec rfl rfl (hb K.kb hd) rfl ((if0 _ _).trans hc) ho hp hs, r⟩
  | false => obtain ⟨s₂, o, hs, r⟩ := hn hc T locs vm0 X A hZ N B eT; exact ⟨s₂, o, XS.ifNo X.here K.exec rfl (hb K.kb hd) rfl ((if0 _ _).trans hc) hs, r⟩
theorem icB {cd : ClassFile.Cond} {x y : Int32} {o' : Int} {pc' : Nat} (K : Ok κ l Z n0 own nm bytes maxL ret rm Q) (hd : decode bytes pc = .ok (.if_icmp cd o', 3)) (ho : 0 ≤ (pc : Int) + o') (hp : ((pc : Int) + o').toNat = pc')
    (hy : if_icmp.holds cd x y = true → Go κ h cells slots pc' Ls st) (hn : if_icmp.holds cd x y = false → Go κ h cells slots (pc + 3) Ls st) : Go κ h cells slots pc Ls (.int y :: .int x :: st) := fun T locs vm0 X A hZ N B eT => by
  cases hc : if_icmp.holds cd x y with
  | true => obtain ⟨s₂, o, hs, r⟩ := hy hc T locs vm0 X A hZ N B eT; exact ⟨s₂, o, XS.icmpYes X.here K.exec rfl rfl (hb K.kb hd) rfl hc ho hp hs, r⟩
  | false => obtain ⟨s₂, o, hs, r⟩ := hn hc T locs vm0 X A hZ N B eT; exact ⟨s₂, o, XS.icmpNo X.here K.exec rfl (hb K.kb hd) rfl hc hs, r⟩
theorem h_eq (x y : Int32) : (if_icmp.holds .eq x y = true ↔ x = y) ∧ (if_icmp.holds .eq x y = false ↔ ¬ x = y) := by simp [if_icmp.holds]
theorem h_ne (x y : Int32) : (if_icmp.holds .ne x y = true ↔ ¬ x = y) ∧ (if_icmp.holds .ne x y = false ↔ x = y) := by simp [if_icmp.holds]
theorem h_lt (x y : Int32) : (if_icmp.holds .lt x y = true ↔ x.toInt < y.toInt) ∧ (if_icmp.holds .lt x y = false ↔ y.toInt ≤ x.toInt) := by simp [if_icmp.holds, Int32.lt_iff_toInt_lt]
theorem h_ge (x y : Int32) : (if_icmp.holds .ge x y = true ↔ y.toInt ≤ x.toInt) ∧ (if_icmp.holds .ge x y = false ↔ x.toInt < y.toInt) := by simp [if_icmp.holds, Int32.le_iff_toInt_le]
theorem h_gt (x y : Int32) : (if_icmp.holds .gt x y = true ↔ y.toInt < x.toInt) ∧ (if_icmp.holds .gt x y = false ↔ x.toInt ≤ y.toInt) := by simp [if_icmp.holds, Int32.lt_iff_toInt_lt]
theorem h_le (x y : Int32) : (if_icmp.holds .le x y = true ↔ x.toInt ≤ y.toInt) ∧ (if_icmp.holds .le x y = false ↔ y.toInt < x.toInt) := by simp [if_icmp.holds, Int32.le_iff_toInt_le]
theorem ifeq {x : Int32} {o' : Int} {pc' : Nat} (K : Ok κ l Z n0 own nm bytes maxL ret rm Q) (hd : decode bytes pc = .ok (.ifCond .eq o', 3)) (ho : 0 ≤ (pc : Int) + o') (hp : ((pc : Int) + o').toNat = pc')
    (hy : x = (0 : Int32) → Go κ h cells slots pc' Ls st) (hn : ¬ x = (0 : Int32) → Go κ h cells slots (pc + 3) Ls st) : Go κ h cells slots pc Ls (.int x :: st) :=
  ifB K hd ho hp (fun q => hy ((h_eq _ _).1.mp q)) (fun q => hn ((h_eq _ _).2.mp q))
theorem icmpeq {x y : Int32} {o' : Int} {pc' : Nat} (K : Ok κ l Z n0 own nm bytes maxL ret rm Q) (hd : decode bytes pc = .ok (.if_icmp .eq o', 3)) (ho : 0 ≤ (pc : Int) + o') (hp : ((pc : Int) + o').toNat = pc')
    (hy : x = y → Go κ h cells slots pc' Ls st) (hn : ¬ x = y → Go κ h cells slots (pc + 3) Ls st) : Go κ h cells slots pc Ls (.int y :: .int x :: st) :=
  icB K hd ho hp (fun q => hy ((h_eq _ _).1.mp q)) (fun q => hn ((h_eq _ _).2.mp q))
theorem ifne {x : Int32} {o' : Int} {pc' : Nat} (K : Ok κ l Z n0 own nm bytes maxL ret rm Q) (hd : decode bytes pc = .ok (.ifCond .ne o', 3)) (ho : 0 ≤ (pc : Int) + o') (hp : ((pc : Int) + o').toNat = pc')
    (hy : ¬ x = (0 : Int32) → Go κ h cells slots pc' Ls st) (hn : x = (0 : Int32) → Go κ h cells slots (pc + 3) Ls st) : Go κ h cells slots pc Ls (.int x :: st) :=
  ifB K hd ho hp (fun q => hy ((h_ne _ _).1.mp q)) (fun q => hn ((h_ne _ _).2.mp q))
theorem icmpne {x y : Int32} {o' : Int} {pc' : Nat} (K : Ok κ l Z n0 own nm bytes maxL ret rm Q) (hd : decode bytes pc = .ok (.if_icmp .ne o', 3)) (ho : 0 ≤ (pc : Int) + o') (hp : ((pc : Int) + o').toNat = pc')
    (hy : ¬ x = y → Go κ h cells slots pc' Ls st) (hn : x = y → Go κ h cells slots (pc + 3) Ls st) : Go κ h cells slots pc Ls (.int y :: .int x :: st) :=
  icB K hd ho hp (fun q => hy ((h_ne _ _).1.mp q)) (fun q => hn ((h_ne _ _).2.mp q))
theorem iflt {x : Int32} {o' : Int} {pc' : Nat} (K : Ok κ l Z n0 own nm bytes maxL ret rm Q) (hd : decode bytes pc = .ok (.ifCond .lt o', 3)) (ho : 0 ≤ (pc : Int) + o') (hp : ((pc : Int) + o').toNat = pc')
    (hy : x.toInt < (0 : Int) → Go κ h cells slots pc' Ls st) (hn : (0 : Int) ≤ x.toInt → Go κ h cells slots (pc + 3) Ls st) : Go κ h cells slots pc Ls (.int x :: st) :=
  ifB K hd ho hp (fun q => hy ((h_lt _ _).1.mp q)) (fun q => hn ((h_lt _ _).2.mp q))
theorem icmplt {x y : Int32} {o' : Int} {pc' : Nat} (K : Ok κ l Z n0 own nm bytes maxL ret rm Q) (hd : decode bytes pc = .ok (.if_icmp .lt o', 3)) (ho : 0 ≤ (pc : Int) + o') (hp : ((pc : Int) + o').toNat = pc')
    (hy : x.toInt < y.toInt → Go κ h cells slots pc' Ls st) (hn : y.toInt ≤ x.toInt → Go κ h cells slots (pc + 3) Ls st) : Go κ h cells slots pc Ls (.int y :: .int x :: st) :=
  icB K hd ho hp (fun q => hy ((h_lt _ _).1.mp q)) (fun q => hn ((h_lt _ _).2.mp q))
theorem ifge {x : Int32} {o' : Int} {pc' : Nat} (K : Ok κ l Z n0 own nm bytes maxL ret rm Q) (hd : decode bytes pc = .ok (.ifCond .ge o', 3)) (ho : 0 ≤ (pc : Int) + o') (hp : ((pc : Int) + o').toNat = pc')
    (hy : (0 : Int) ≤ x.toInt → Go κ h cells slots pc' Ls st) (hn : x.toInt < (0 : Int) → Go κ h cells slots (pc + 3) Ls st) : Go κ h cells slots pc Ls (.int x :: st) :=
  ifB K hd ho hp (fun q => hy ((h_ge _ _).1.mp q)) (fun q => hn ((h_ge _ _).2.mp q))
theorem icmpge {x y : Int32} {o' : Int} {pc' : Nat} (K : Ok κ l Z n0 own nm bytes maxL ret rm Q) (hd : decode bytes pc = .ok (.if_icmp .ge o', 3)) (ho : 0 ≤ (pc : Int) + o') (hp : ((pc : Int) + o').toNat = pc')
    (hy : y.toInt ≤ x.toInt → Go κ h cells slots pc' Ls st) (hn : x.toInt < y.toInt → Go κ h cells slots (pc + 3) Ls st) : Go κ h cells slots pc Ls (.int y :: .int x :: st) :=
  icB K hd ho hp (fun q => hy ((h_ge _ _).1.mp q)) (fun q => hn ((h_ge _ _).2.mp q))
theorem ifgt {x : Int32} {o' : Int} {pc' : Nat} (K : Ok κ l Z n0 own nm bytes maxL ret rm Q) (hd : decode bytes pc = .ok (.ifCond .gt o', 3)) (ho : 0 ≤ (pc : Int) + o') (hp : ((pc : Int) + o').toNat = pc')
    (hy : (0 : Int) < x.toInt → Go κ h cells slots pc' Ls st) (hn : x.toInt ≤ (0 : Int) → Go κ h cells slots (pc + 3) Ls st) : Go κ h cells slots pc Ls (.int x :: st) :=
  ifB K hd ho hp (fun q => hy ((h_gt _ _).1.mp q)) (fun q => hn ((h_gt _ _).2.mp q))
theorem icmpgt {x y : Int32} {o' : Int} {pc' : Nat} (K : Ok κ l Z n0 own nm bytes maxL ret rm Q) (hd : decode bytes pc = .ok (.if_icmp .gt o', 3)) (ho : 0 ≤ (pc : Int) + o') (hp : ((pc : Int) + o').toNat = pc')
    (hy : y.toInt < x.toInt → Go κ h cells slots pc' Ls st) (hn : x.toInt ≤ y.toInt → Go κ h cells slots (pc + 3) Ls st) : Go κ h cells slots pc Ls (.int y :: .int x :: st) :=
  icB K hd ho hp (fun q => hy ((h_gt _ _).1.mp q)) (fun q => hn ((h_gt _ _).2.mp q))
theorem ifle {x : Int32} {o' : Int} {pc' : Nat} (K : Ok κ l Z n0 own nm bytes maxL ret rm Q) (hd : decode bytes pc = .ok (.ifCond .le o', 3)) (ho : 0 ≤ (pc : Int) + o') (hp : ((pc : Int) + o').toNat = pc')
    (hy : x.toInt ≤ (0 : Int) → Go κ h cells slots pc' Ls st) (hn : (0 : Int) < x.toInt → Go κ h cells slots (pc + 3) Ls st) : Go κ h cells slots pc Ls (.int x :: st) :=
  ifB K hd ho hp (fun q => hy ((h_le _ _).1.mp q)) (fun q => hn ((h_le _ _).2.mp q))
theorem icmple {x y : Int32} {o' : Int} {pc' : Nat} (K : Ok κ l Z n0 own nm bytes maxL ret rm Q) (hd : decode bytes pc = .ok (.if_icmp .le o', 3)) (ho : 0 ≤ (pc : Int) + o') (hp : ((pc : Int) + o').toNat = pc')
    (hy : x.toInt ≤ y.toInt → Go κ h cells slots pc' Ls st) (hn : y.toInt < x.toInt → Go κ h cells slots (pc + 3) Ls st) : Go κ h cells slots pc Ls (.int y :: .int x :: st) :=
  icB K hd ho hp (fun q => hy ((h_le _ _).1.mp q)) (fun q => hn ((h_le _ _).2.mp q))
theorem ifnull {x : Value} {o' : Int} {pc' : Nat} (K : Ok κ l Z n0 own nm bytes maxL ret rm Q) (hd : decode bytes pc = .ok (.ifnull o', 3)) (ho : 0 ≤ (pc : Int) + o') (hp : ((pc : Int) + o').toNat = pc') (hx : x.isRef = true)
    (hy : x = .null → Go κ h cells slots pc' Ls st) (hn : ∀ a, x = .ref a → Go κ h cells slots (pc + 3) Ls st) : Go κ h cells slots pc Ls (x :: st) := fun T locs vm0 X A hZ N B eT => by
  rcases ref_cases hx with rfl | ⟨a, rfl⟩
  · obtain ⟨s₂, o, hs, r⟩ := hy rfl T locs vm0 X A hZ N B eT; exact ⟨s₂, o, XS.ifnullYes X.here K.exec rfl rfl (hb K.kb hd) rfl ho hp hs, r⟩
  · obtain ⟨s₂, o, hs, r⟩ := hn a rfl T locs vm0 X A hZ N B eT; exact ⟨s₂, o, XS.ifnullNo X.here K.exec rfl (hb K.kb hd) rfl hs, r⟩
theorem ifnonnull {x : Value} {o' : Int} {pc' : Nat} (K : Ok κ l Z n0 own nm bytes maxL ret rm Q) (hd : decode bytes pc = .ok (.ifnonnull o', 3)) (ho : 0 ≤ (pc : Int) + o') (hp : ((pc : Int) + o').toNat = pc') (hx : x.isRef = true)
    (hy : ∀ a, x = .ref a → Go κ h cells slots pc' Ls st) (hn : x = .null → Go κ h cells slots (pc + 3) Ls st) : Go κ h cells slots pc Ls (x :: st) := fun T locs vm0 X A hZ N B eT => by
  rcases ref_cases hx with rfl | ⟨a, rfl⟩
  · obtain ⟨s₂, o, hs, r⟩ := hn rfl T locs vm0 X A hZ N B eT; exact ⟨s₂, o, XT.ifnonnullNo X.here K.exec rfl (hb K.kb hd) rfl hs, r⟩
  · obtain ⟨s₂, o, hs, r⟩ := hy a rfl T locs vm0 X A hZ N B eT; exact ⟨s₂, o, XT.ifnonnullYes X.here K.exec rfl rfl (hb K.kb hd) rfl ho hp hs, r⟩
theorem acB {cd : ACond} {x y : Value} {o' : Int} {pc' : Nat} (K : Ok κ l Z n0 own nm bytes maxL ret rm Q) (hd : decode bytes pc = .ok (.if_acmp cd o', 3)) (ho : 0 ≤ (pc : Int) + o') (hp : ((pc : Int) + o').toNat = pc') (hx : x.isRef = true) (hy : y.isRef = true)
    (ht : acV cd (decide (x = y)) = true → Go κ h cells slots pc' Ls st) (hn : acV cd (decide (x = y)) = false → Go κ h cells slots (pc + 3) Ls st) : Go κ h cells slots pc Ls (y :: x :: st) := fun T locs vm0 X A hZ N B eT => by
  cases hc : acV cd (decide (x = y)) with
  | true => obtain ⟨s₂, o, hs, r⟩ := ht hc T locs vm0 X A hZ N B eT; exact ⟨s₂, o, acmp X K.exec rfl hx hy rfl (hb K.kb hd) rfl rfl ho (by rw [hc, if_pos rfl, hp]) hs, r⟩
  | false => obtain ⟨s₂, o, hs, r⟩ := hn hc T locs vm0 X A hZ N B eT; exact ⟨s₂, o, acmp X K.exec rfl hx hy rfl (hb K.kb hd) rfl rfl ho (by rw [hc]; simp) hs, r⟩
theorem acmpeq {x y : Value} {o' : Int} {pc' : Nat} (K : Ok κ l Z n0 own nm bytes maxL ret rm Q) (hd : decode bytes pc = .ok (.if_acmp .eq o', 3)) (ho : 0 ≤ (pc : Int) + o') (hp : ((pc : Int) + o').toNat = pc') (hx : x.isRef = true) (hy : y.isRef = true)
    (ht : x = y → Go κ h cells slots pc' Ls st) (hn : ¬ x = y → Go κ h cells slots (pc + 3) Ls st) : Go κ h cells slots pc Ls (y :: x :: st) :=
  acB K hd ho hp hx hy (fun q => ht (by simpa [acV] using q)) (fun q => hn (by simpa [acV] using q))
theorem acmpne {x y : Value} {o' : Int} {pc' : Nat} (K : Ok κ l Z n0 own nm bytes maxL ret rm Q) (hd : decode bytes pc = .ok (.if_acmp .ne o', 3)) (ho : 0 ≤ (pc : Int) + o') (hp : ((pc : Int) + o').toNat = pc') (hx : x.isRef = true) (hy : y.isRef = true)
    (ht : ¬ x = y → Go κ h cells slots pc' Ls st) (hn : x = y → Go κ h cells slots (pc + 3) Ls st) : Go κ h cells slots pc Ls (y :: x :: st) :=
  acB K hd ho hp hx hy (fun q => ht (by simpa [acV] using q)) (fun q => hn (by simpa [acV] using q))
/-! ## constants of the pool -/
variable {a0 : Array Value}
theorem ldcI {index : Nat} {v : Int32} (K : Ok κ l Z n0 own nm bytes maxL ret rm Q) (hd : decode bytes pc = .ok (.ldc index, 2)) (w : (Cond.constant own index v).before a0 Z = true) (hr : Go κ h cells slots (pc + 2) Ls (.int v :: st)) : Go κ h cells slots pc Ls st := fun T locs vm0 X A hZ N B eT => by
  obtain ⟨s₂, o, hs, r⟩ := hr T locs vm0 X A hZ N B eT
  exact ⟨s₂, o, Jvm.Stand.ldcI X K.exec (K.ko A) (mvT (K.warm hZ) w) rfl (hb K.kb hd) hs, r⟩
theorem ldc2J {index : Nat} {v : Int64} (K : Ok κ l Z n0 own nm bytes maxL ret rm Q) (hd : decode bytes pc = .ok (.ldc2_w index, 3)) (w : (Cond.constantLong own index v).before a0 Z = true) (hr : Go κ h cells slots (pc + 3) Ls (.long v :: st)) : Go κ h cells slots pc Ls st := fun T locs vm0 X A hZ N B eT => by
  obtain ⟨s₂, o, hs, r⟩ := hr T locs vm0 X A hZ N B eT
  exact ⟨s₂, o, Jvm.Stand.ldc2J X K.exec (K.ko A) (mvT (K.warm hZ) w) rfl (hb K.kb hd) hs, r⟩
/-! ## the heap -/
theorem getfield {R0 O n d host : String} {index : Nat} {a : Addr} {v : Value} (K : Ok κ l Z n0 own nm bytes maxL ret rm Q) (hd : decode bytes pc = .ok (.getfield index, 3))
    (w : (Cond.fieldLink own index R0 n d).before a0 Z = true ∨ (Cond.fieldLinkNest own index R0 n d host).before a0 Z = true) (via : Via Z R0 O n d) (F : Fld Z h a O n d v) (hr : Go κ h cells slots (pc + 3) Ls (v :: st)) : Go κ h cells slots pc Ls (.ref a :: st) := fun T locs vm0 X A hZ N B eT => by
  obtain ⟨T', X', e', st1⟩ := getF X K.exec (K.warm hZ) (K.ko A) w via eT F (g := mkF κ.m pc Ls (.ref a :: st)) rfl rfl (hb K.kb hd)
  obtain ⟨s₂, o, hs, r⟩ := hr T' locs vm0 X' A hZ N B e'
  exact ⟨s₂, o, st1 _ hs, r⟩
theorem getstatic {R0 O n d host : String} {index : Nat} {v : Value} (K : Ok κ l Z n0 own nm bytes maxL ret rm Q) (hd : decode bytes pc = .ok (.getstatic index, 3))
    (w : (Cond.fieldLink own index R0 n d).before a0 Z = true ∨ (Cond.fieldLinkNest own index R0 n d host).before a0 Z = true) (via : Via Z R0 O n d) (F : Sta Z h O n d v) (hr : Go κ h cells slots (pc + 3) Ls (v :: st)) : Go κ h cells slots pc Ls st := fun T locs vm0 X A hZ N B eT => by
  obtain ⟨T', X', e', st1⟩ := getS2 X K.exec (K.warm hZ) (K.ko A) w via eT F (g := mkF κ.m pc Ls st) rfl (hb K.kb hd)
  obtain ⟨s₂, o, hs, r⟩ := hr T' locs vm0 X' A hZ N B e'
  exact ⟨s₂, o, st1 _ hs, r⟩
theorem putfield {R0 O n d host C : String} {index kk : Nat} {ty : FieldType} {a : Addr} {v old : Value} (K : Ok κ l Z n0 own nm bytes maxL ret rm Q) (hd : decode bytes pc = .ok (.putfield index, 3))
    (w : (Cond.fieldLink own index R0 n d).before a0 Z = true ∨ (Cond.fieldLinkNest own index R0 n d host).before a0 Z = true) (via : Via Z R0 O n d) (F : Fld Z h a O n d old) (E : Exa Z h a C) (L : (Cond.lays C O n d).before a0 Z = true ∨ ((Cond.laysFinal C O n d).before a0 Z = true ∧ own = O ∧ nm = "<init>")) (wi : (Cond.instantiable C kk).before a0 Z = true)
    (hty : parseFieldDescriptor d = some ty) (hn : narrow ty v = v) (hf : fits ty v = true) (ge : n0 ≤ a) (hr : ∀ h', Wr h h' a (Jvm.RoadKit.slotOf Z O n d) v → Go κ h' cells slots (pc + 3) Ls st) : Go κ h cells slots pc Ls (v :: .ref a :: st) := fun T locs vm0 X A hZ N B eT => by
  obtain ⟨T', h', X', e', W, st1⟩ := putF X K.exec (K.warm hZ) (K.ko A) w via eT F E (L.imp id fun q => ⟨q.1, q.2.1, K.name.trans q.2.2⟩) wi hty hn hf (g := mkF κ.m pc Ls (v :: .ref a :: st)) rfl rfl (hb K.kb hd)
  obtain ⟨s₂, o, hs, r⟩ := hr h' W T' _ vm0 X' (A.mono (Nat.le_of_eq W.size.symm)) hZ (Fr.snoc X' N (by rw [K.en]; exact ge)) (B.wr W (by rw [K.en]; exact ge)) e'
  exact ⟨s₂, o, st1 _ hs, r⟩
theorem newObj {C : String} {index n : Nat} (K : Ok κ l Z n0 own nm bytes maxL ret rm Q) (hd : decode bytes pc = .ok (.new index, 3)) (w : (Cond.classLink own index C).before a0 Z = true) (wi : (Cond.instantiable C n).before a0 Z = true) (wz : (Cond.initialized C).before a0 Z = true)
    (hc : cells + 1 ≤ rm.cells) (hl : slots + n ≤ rm.slots)
    (hr : ∀ h' a, a = h.size → n0 ≤ a → Ext h h' → Exa Z h' a C → (∀ {O nm d : String} {ty : FieldType}, Laid Z a0 C O nm d → parseFieldDescriptor d = some ty → Fld Z h' a O nm d (defaultValue ty)) → Unt h' a → Go κ h' (cells + 1) (slots + n) (pc + 3) Ls (.ref a :: st)) : Go κ h cells slots pc Ls st := fun T locs vm0 X A hZ N B eT => by
  obtain ⟨T', h', X', e', E, EX, D, U, st1⟩ := newO X K.exec (K.warm hZ) (K.ko A) w wi wz eT (g := mkF κ.m pc Ls st) rfl (hb K.kb hd) (by rw [K.eR]; exact hc) (by rw [K.eR]; exact hl)
  obtain ⟨s₂, o, hs, r⟩ := hr h' h.size rfl (low_of (K.old B)) E EX D U T' _ vm0 X' (A.mono E.1) hZ N (B.ext E) e'
  exact ⟨s₂, o, st1 _ hs, r⟩
theorem newArr {aty : ArrayType} {n : Int32} {cap : Nat} {ad : String} (K : Ok κ l Z n0 own nm bytes maxL ret rm Q) (hd : decode bytes pc = .ok (.newarray aty, 2)) (w : (Cond.arrayClass (newarray.typeOf aty)).before a0 Z = true) (hn : ¬ n < 0) (hcap : n.toNatClampNeg ≤ cap) (hb8 : cap * 8 ≤ 536870912) (had : "[" ++ (newarray.typeOf aty).toString = ad)
    (hc : cells + 1 ≤ rm.cells) (hl : slots + cap ≤ rm.slots)
    (hr : ∀ h' a cA, a = h.size → n0 ≤ a → Ext h h' → Arr Z h' a (newA cA (newarray.typeOf aty) n) (newarray.typeOf aty) → Exa Z h' a ad → Go κ h' (cells + 1) (slots + cap) (pc + 2) Ls (.ref a :: st)) : Go κ h cells slots pc Ls (.int n :: st) := fun T locs vm0 X A hZ N B eT => by
  obtain ⟨T', h', cA, X', e', E, AR, EX, st1⟩ := newPE X K.exec (K.warm hZ) w eT (g := mkF κ.m pc Ls (.int n :: st)) rfl (hb K.kb hd) rfl hn hcap hb8 (by rw [K.eR]; exact hc) (by rw [K.eR]; exact hl) had
  obtain ⟨s₂, o, hs, r⟩ := hr h' h.size cA rfl (low_of (K.old B)) E AR EX T' _ vm0 X' (A.mono E.1) hZ N (B.ext E) e'
  exact ⟨s₂, o, st1 _ hs, r⟩
theorem anewArr {C : String} {index : Nat} {n : Int32} {cap : Nat} (K : Ok κ l Z n0 own nm bytes maxL ret rm Q) (hd : decode bytes pc = .ok (.anewarray index, 3)) (w1 : (Cond.classLink own index C).before a0 Z = true) (w2 : (Cond.arrayOver (.object C)).before a0 Z = true) (hn : ¬ n < 0) (hcap : n.toNatClampNeg ≤ cap) (hb8 : cap * 8 ≤ 536870912)
    (hc : cells + 1 ≤ rm.cells) (hl : slots + cap ≤ rm.slots)
    (hr : ∀ h' a cA, a = h.size → n0 ≤ a → Ext h h' → Arr Z h' a (newA cA (.object C) n) (.object C) → Ovr Z cA C → Go κ h' (cells + 1) (slots + cap) (pc + 3) Ls (.ref a :: st)) : Go κ h cells slots pc Ls (.int n :: st) := fun T locs vm0 X A hZ N B eT => by
  obtain ⟨T', h', cA, X', e', E, AR, OV, st1⟩ := newR X K.exec (K.warm hZ) (K.ko A) w1 w2 eT (g := mkF κ.m pc Ls (.int n :: st)) rfl (hb K.kb hd) rfl hn hcap hb8 (by rw [K.eR]; exact hc) (by rw [K.eR]; exact hl)
  obtain ⟨s₂, o, hs, r⟩ := hr h' h.size cA rfl (low_of (K.old B)) E AR OV T' _ vm0 X' (A.mono E.1) hZ N (B.ext E) e'
  exact ⟨s₂, o, st1 _ hs, r⟩
theorem arrLen {ty : FieldType} {a : Addr} {cl : Cell} {z : Int32} (K : Ok κ l Z n0 own nm bytes maxL ret rm Q) (hd : decode bytes pc = .ok (.arraylength, 1)) (A1 : Arr Z h a cl ty) (hz : cl.slots.size.toInt32 = z) (hr : Go κ h cells slots (pc + 1) Ls (.int z :: st)) : Go κ h cells slots pc Ls (.ref a :: st) := fun T locs vm0 X A hZ N B eT => by
  obtain ⟨s₂, o, hs, r⟩ := hr T locs vm0 X A hZ N B eT
  exact ⟨s₂, o, X.arraylength K.exec (by rw [eT]; exact A1.1) (State.isArrayOf_alike (K.warm hZ).alike A1.2.1) (g := mkF κ.m pc Ls (.ref a :: st)) rfl rfl (hb K.kb hd) _ (by rw [hz]; exact hs), r⟩
theorem iaload {a : Addr} {cl : Cell} {j : Int32} {v : Value} (K : Ok κ l Z n0 own nm bytes maxL ret rm Q) (hd : decode bytes pc = .ok (.iaload, 1)) (A1 : Arr Z h a cl .int) (hin : ¬ (j < 0 ∨ cl.slots.size ≤ j.toNatClampNeg)) (hv : cl.slots[j.toNatClampNeg]? = some v)
    (hr : Go κ h cells slots (pc + 1) Ls (v :: st)) : Go κ h cells slots pc Ls (.int j :: .ref a :: st) := fun T locs vm0 X A hZ N B eT => by
  obtain ⟨s₂, o, hs, r⟩ := hr T locs vm0 X A hZ N B eT
  exact ⟨s₂, o, X.iaload K.exec (by rw [eT]; exact A1.1) (State.isArrayOf_alike (K.warm hZ).alike A1.2.1) A1.2.2 hin hv (g := mkF κ.m pc Ls (.int j :: .ref a :: st)) rfl rfl (hb K.kb hd) _ hs, r⟩
theorem laload {a : Addr} {cl : Cell} {j : Int32} {v : Value} (K : Ok κ l Z n0 own nm bytes maxL ret rm Q) (hd : decode bytes pc = .ok (.laload, 1)) (A1 : Arr Z h a cl .long) (hin : ¬ (j < 0 ∨ cl.slots.size ≤ j.toNatClampNeg)) (hv : cl.slots[j.toNatClampNeg]? = some v)
    (hr : Go κ h cells slots (pc + 1) Ls (v :: st)) : Go κ h cells slots pc Ls (.int j :: .ref a :: st) := fun T locs vm0 X A hZ N B eT => by
  obtain ⟨s₂, o, hs, r⟩ := hr T locs vm0 X A hZ N B eT
  exact ⟨s₂, o, X.laload K.exec (by rw [eT]; exact A1.1) (State.isArrayOf_alike (K.warm hZ).alike A1.2.1) A1.2.2 hin hv (g := mkF κ.m pc Ls (.int j :: .ref a :: st)) rfl rfl (hb K.kb hd) _ hs, r⟩
theorem caload {a : Addr} {cl : Cell} {j : Int32} {v : Value} (K : Ok κ l Z n0 own nm bytes maxL ret rm Q) (hd : decode bytes pc = .ok (.caload, 1)) (A1 : Arr Z h a cl .char) (hin : ¬ (j < 0 ∨ cl.slots.size ≤ j.toNatClampNeg)) (hv : cl.slots[j.toNatClampNeg]? = some v)
    (hr : Go κ h cells slots (pc + 1) Ls (v :: st)) : Go κ h cells slots pc Ls (.int j :: .ref a :: st) := fun T locs vm0 X A hZ N B eT => by
  obtain ⟨s₂, o, hs, r⟩ := hr T locs vm0 X A hZ N B eT
  exact ⟨s₂, o, X.caload K.exec (by rw [eT]; exact A1.1) (State.isArrayOf_alike (K.warm hZ).alike A1.2.1) A1.2.2 hin hv (g := mkF κ.m pc Ls (.int j :: .ref a :: st)) rfl rfl (hb K.kb hd) _ hs, r⟩
theorem baload {a : Addr} {cl : Cell} {j : Int32} {v : Value} (K : Ok κ l Z n0 own nm bytes maxL ret rm Q) (hd : decode bytes pc = .ok (.baload, 1)) (A1 : Arr Z h a cl .byte) (hin : ¬ (j < 0 ∨ cl.slots.size ≤ j.toNatClampNeg)) (hv : cl.slots[j.toNatClampNeg]? = some v)
    (hr : Go κ h cells slots (pc + 1) Ls (v :: st)) : Go κ h cells slots pc Ls (.int j :: .ref a :: st) := fun T locs vm0 X A hZ N B eT => by
  obtain ⟨s₂, o, hs, r⟩ := hr T locs vm0 X A hZ N B eT
  exact ⟨s₂, o, X.baloadBytes K.exec (by rw [eT]; exact A1.1) (State.isArrayOf_alike (K.warm hZ).alike A1.2.1) A1.2.2 hin hv (g := mkF κ.m pc Ls (.int j :: .ref a :: st)) rfl rfl (hb K.kb hd) _ hs, r⟩
theorem iastore {a : Addr} {cl : Cell} {j : Int32} {x : Int32} (K : Ok κ l Z n0 own nm bytes maxL ret rm Q) (hd : decode bytes pc = .ok (.iastore, 1)) (A1 : Arr Z h a cl .int) (hj : ¬ (j < 0 ∨ cl.slots.size ≤ j.toNatClampNeg)) (ge : n0 ≤ a)
    (hr : ∀ h', Wr h h' a j.toNatClampNeg (.int x) → Go κ h' cells slots (pc + 1) Ls st) : Go κ h cells slots pc Ls (.int x :: .int j :: .ref a :: st) := fun T locs vm0 X A hZ N B eT => by
  obtain ⟨T', h', X', e', W, st1⟩ := stI X K.exec (K.warm hZ) eT A1 hj (g := mkF κ.m pc Ls (.int x :: .int j :: .ref a :: st)) rfl rfl (hb K.kb hd)
  obtain ⟨s₂, o, hs, r⟩ := hr h' W T' _ vm0 X' (A.mono (Nat.le_of_eq W.size.symm)) hZ (Fr.snoc X' N (by rw [K.en]; exact ge)) (B.wr W (by rw [K.en]; exact ge)) e'
  exact ⟨s₂, o, st1 _ hs, r⟩
theorem lastore {a : Addr} {cl : Cell} {j : Int32} {x : Int64} (K : Ok κ l Z n0 own nm bytes maxL ret rm Q) (hd : decode bytes pc = .ok (.lastore, 1)) (A1 : Arr Z h a cl .long) (hj : ¬ (j < 0 ∨ cl.slots.size ≤ j.toNatClampNeg)) (ge : n0 ≤ a)
    (hr : ∀ h', Wr h h' a j.toNatClampNeg (.long x) → Go κ h' cells slots (pc + 1) Ls st) : Go κ h cells slots pc Ls (.long x :: .int j :: .ref a :: st) := fun T locs vm0 X A hZ N B eT => by
  obtain ⟨T', h', X', e', W, st1⟩ := stJ X K.exec (K.warm hZ) eT A1 hj (g := mkF κ.m pc Ls (.long x :: .int j :: .ref a :: st)) rfl rfl (hb K.kb hd)
  obtain ⟨s₂, o, hs, r⟩ := hr h' W T' _ vm0 X' (A.mono (Nat.le_of_eq W.size.symm)) hZ (Fr.snoc X' N (by rw [K.en]; exact ge)) (B.wr W (by rw [K.en]; exact ge)) e'
  exact ⟨s₂, o, st1 _ hs, r⟩
theorem castore {a : Addr} {cl : Cell} {j : Int32} {x : Int32} (K : Ok κ l Z n0 own nm bytes maxL ret rm Q) (hd : decode bytes pc = .ok (.castore, 1)) (A1 : Arr Z h a cl .char) (hj : ¬ (j < 0 ∨ cl.slots.size ≤ j.toNatClampNeg)) (ge : n0 ≤ a)
    (hr : ∀ h', Wr h h' a j.toNatClampNeg (.int (nar .char x)) → Go κ h' cells slots (pc + 1) Ls st) : Go κ h cells slots pc Ls (.int x :: .int j :: .ref a :: st) := fun T locs vm0 X A hZ N B eT => by
  obtain ⟨T', h', X', e', W, st1⟩ := stC X K.exec (K.warm hZ) eT A1 hj (g := mkF κ.m pc Ls (.int x :: .int j :: .ref a :: st)) rfl rfl (hb K.kb hd)
  obtain ⟨s₂, o, hs, r⟩ := hr h' W T' _ vm0 X' (A.mono (Nat.le_of_eq W.size.symm)) hZ (Fr.snoc X' N (by rw [K.en]; exact ge)) (B.wr W (by rw [K.en]; exact ge)) e'
  exact ⟨s₂, o, st1 _ hs, r⟩
theorem bastore {a : Addr} {cl : Cell} {j : Int32} {x : Int32} (K : Ok κ l Z n0 own nm bytes maxL ret rm Q) (hd : decode bytes pc = .ok (.bastore, 1)) (A1 : Arr Z h a cl .byte) (hj : ¬ (j < 0 ∨ cl.slots.size ≤ j.toNatClampNeg)) (ge : n0 ≤ a)
    (hr : ∀ h', Wr h h' a j.toNatClampNeg (.int x.toInt8.toInt32) → Go κ h' cells slots (pc + 1) Ls st) : Go κ h cells slots pc Ls (.int x :: .int j :: .ref a :: st) := fun T locs vm0 X A hZ N B eT => by
  obtain ⟨T', h', X', e', W, st1⟩ := stB X K.exec (K.warm hZ) eT A1 hj (g := mkF κ.m pc Ls (.int x :: .int j :: .ref a :: st)) rfl rfl (hb K.kb hd)
  obtain ⟨s₂, o, hs, r⟩ := hr h' W T' _ vm0 X' (A.mono (Nat.le_of_eq W.size.symm)) hZ (Fr.snoc X' N (by rw [K.en]; exact ge)) (B.wr W (by rw [K.en]; exact ge)) e'
  exact ⟨s₂, o, st1 _ hs, r⟩
theorem aaload {ty : FieldType} {a : Addr} {cl : Cell} {j : Int32} {v : Value} (K : Ok κ l Z n0 own nm bytes maxL ret rm Q) (hd : decode bytes pc = .ok (.aaload, 1)) (A1 : Arr Z h a cl ty) (hty : ty.isReference = true) (hin : ¬ (j < 0 ∨ cl.slots.size ≤ j.toNatClampNeg)) (hv : cl.slots[j.toNatClampNeg]? = some v)
    (hr : Go κ h cells slots (pc + 1) Ls (v :: st)) : Go κ h cells slots pc Ls (.int j :: .ref a :: st) := fun T locs vm0 X A hZ N B eT => by
  obtain ⟨s₂, o, hs, r⟩ := hr T locs vm0 X A hZ N B eT
  exact ⟨s₂, o, X.aaload K.exec (by rw [eT]; exact A1.1) (State.isArrayOf_alike (K.warm hZ).alike A1.2.1) hty A1.2.2 hin hv (g := mkF κ.m pc Ls (.int j :: .ref a :: st)) rfl rfl (hb K.kb hd) _ hs, r⟩
theorem aastore {ty : FieldType} {a : Addr} {cl : Cell} {j : Int32} {v : Value} (K : Ok κ l Z n0 own nm bytes maxL ret rm Q) (hd : decode bytes pc = .ok (.aastore, 1)) (A1 : Arr Z h a cl ty) (hj : ¬ (j < 0 ∨ cl.slots.size ≤ j.toNatClampNeg)) (hty : ty.isReference = true) (F : Sto Z h a v) (ge : n0 ≤ a)
    (hr : ∀ h', Wr h h' a j.toNatClampNeg v → Go κ h' cells slots (pc + 1) Ls st) : Go κ h cells slots pc Ls (v :: .int j :: .ref a :: st) := fun T locs vm0 X A hZ N B eT => by
  obtain ⟨T', h', X', e', W, st1⟩ := stR X K.exec (K.warm hZ) eT A1 hj hty F (g := mkF κ.m pc Ls (v :: .int j :: .ref a :: st)) rfl rfl (hb K.kb hd)
  obtain ⟨s₂, o, hs, r⟩ := hr h' W T' _ vm0 X' (A.mono (Nat.le_of_eq W.size.symm)) hZ (Fr.snoc X' N (by rw [K.en]; exact ge)) (B.wr W (by rw [K.en]; exact ge)) e'
  exact ⟨s₂, o, st1 _ hs, r⟩
theorem castOk {C : String} {index : Nat} {a : Addr} (K : Ok κ l Z n0 own nm bytes maxL ret rm Q) (hd : decode bytes pc = .ok (.checkcast index, 3)) (w : (Cond.classLink own index C).before a0 Z = true) (F : Ins Z h a C true) (hr : Go κ h cells slots (pc + 3) Ls (.ref a :: st)) : Go κ h cells slots pc Ls (.ref a :: st) := fun T locs vm0 X A hZ N B eT => by
  obtain ⟨T', X', e', st1⟩ := castY X K.exec (K.warm hZ) (K.ko A) w eT F (g := mkF κ.m pc Ls (.ref a :: st)) rfl rfl (hb K.kb hd)
  obtain ⟨s₂, o, hs, r⟩ := hr T' locs vm0 X' A hZ N B e'
  exact ⟨s₂, o, st1 _ hs, r⟩
theorem instYes {C : String} {index : Nat} {a : Addr} (K : Ok κ l Z n0 own nm bytes maxL ret rm Q) (hd : decode bytes pc = .ok (.instanceof index, 3)) (w : (Cond.classLink own index C).before a0 Z = true) (F : Ins Z h a C true) (hr : Go κ h cells slots (pc + 3) Ls (.int 1 :: st)) : Go κ h cells slots pc Ls (.ref a :: st) := fun T locs vm0 X A hZ N B eT => by
  obtain ⟨T', X', e', st1⟩ := instY X K.exec (K.warm hZ) (K.ko A) w eT F (g := mkF κ.m pc Ls (.ref a :: st)) rfl rfl (hb K.kb hd)
  obtain ⟨s₂, o, hs, r⟩ := hr T' locs vm0 X' A hZ N B e'
  exact ⟨s₂, o, st1 _ hs, r⟩
theorem instNot {C C' : String} {index : Nat} {a : Addr} (K : Ok κ l Z n0 own nm bytes maxL ret rm Q) (hd : decode bytes pc = .ok (.instanceof index, 3)) (w : (Cond.classLink own index C).before a0 Z = true) (E : Exa Z h a C') (F : ∃ c t, Z.vm.findClass C' = some c ∧ Z.vm.findClass C = some t ∧ Z.vm.assignable c t = false)
    (hr : Go κ h cells slots (pc + 3) Ls (.int 0 :: st)) : Go κ h cells slots pc Ls (.ref a :: st) := fun T locs vm0 X A hZ N B eT => by
  obtain ⟨T', X', e', st1⟩ := instNo X K.exec (K.warm hZ) (K.ko A) w eT E F (g := mkF κ.m pc Ls (.ref a :: st)) rfl rfl (hb K.kb hd)
  obtain ⟨s₂, o, hs, r⟩ := hr T' locs vm0 X' A hZ N B e'
  exact ⟨s₂, o, st1 _ hs, r⟩
theorem getfieldZ {R0 O n d host : String} {index : Nat} {a : Addr} {v : Value} (K : Ok κ l Z n0 own nm bytes maxL ret rm Q) (hd : decode bytes pc = .ok (.getfield index, 3))
    (w : (Cond.fieldLink own index R0 n d).before a0 Z = true ∨ (Cond.fieldLinkNest own index R0 n d host).before a0 Z = true) (via : Via Z R0 O n d) (F : Fld Z Z.heap a O n d v) (hr : Go κ h cells slots (pc + 3) Ls (v :: st)) : Go κ h cells slots pc Ls (.ref a :: st) :=
  old K fun B => getfield K hd w via (F.ext B.2) hr
theorem getstaticZ {R0 O n d host : String} {index : Nat} {v : Value} (K : Ok κ l Z n0 own nm bytes maxL ret rm Q) (hd : decode bytes pc = .ok (.getstatic index, 3))
    (w : (Cond.fieldLink own index R0 n d).before a0 Z = true ∨ (Cond.fieldLinkNest own index R0 n d host).before a0 Z = true) (via : Via Z R0 O n d) (F : Sta Z Z.heap O n d v) (hr : Go κ h cells slots (pc + 3) Ls (v :: st)) : Go κ h cells slots pc Ls st :=
  old K fun B => getstatic K hd w via (F.ext B.2) hr
/-! ## calls -/
section Calls
variable {y z : MethodName} {bytes' : ByteArray} {maxL' W index : Nat} {ret' : Option FieldType} {rm' : Room} {Q' : Option Value → Heap → Prop} {argsL rest : List Value} {as' : Array Value}
theorem Con.narrow (C : Con false l Z n0 y bytes' maxL' ret' rm' as' h Q') (g : Old Z n0 h) : MetFree l y (head1 [Cond.code y bytes' maxL' ret'] rm') (fun a U => a = as' ∧ Z.Warmed39 U.vm ∧ U.heap = h) (fun _ _ _ _ _ => True)
    (fun _ U o U' => ∃ v L, o = .returned v ∧ (Q' v U'.heap ∧ Fr n0 L ∧ h.size ≤ U'.heap.size ∧ Old Z n0 U'.heap) ∧ FrameEnd U o U' L rm'.cells rm'.slots) := fun p e ha hc hk s m args below hf happ hP hK => by
  obtain ⟨n, o, a1, a2, a3, v, L, e1, ⟨q1, q2, q3⟩, E⟩ := C g [] p e ha hc hk s m args below hf happ hP hK
  exact ⟨n, o, a1, a2, a3, v, L, e1, ⟨q1, q2, hP.2.2 ▸ q3.1, q3.2⟩, E.1 rfl⟩
theorem Con.mono {wide : Bool} {Q2 : Option Value → Heap → Prop} (C : Con wide l Z n0 y bytes' maxL' ret' rm' as' h Q') (hq : ∀ v h', Q' v h' → Q2 v h') : Con wide l Z n0 y bytes' maxL' ret' rm' as' h Q2 := fun g ws p e ha hc hk s m args below hf happ hP hK => by
  obtain ⟨n, o, a1, a2, a3, v, L, e1, ⟨q1, q2, q3⟩, E⟩ := C g ws p e ha hc hk s m args below hf happ hP hK
  exact ⟨n, o, a1, a2, a3, v, L, e1, ⟨hq _ _ q1, q2, q3⟩, E⟩
theorem finish (K : Ok κ l Z n0 own nm bytes maxL ret rm Q) {T U0 : State} {locs : List Loc} {vm0 : Vm} {pc' : Nat} (A : κ.adm vm0 h.size) (hZ : κ.Z.Warmed39 vm0) (N : Fr κ.n0 locs)
    (hr : ∀ v h', Q' v h' → h.size ≤ h'.size → Go κ h' (cells + rm'.cells) (slots + rm'.slots) pc' Ls (v.toList ++ rest)) {v : Option Value} {B : Pt} (X' : Stand κ.p κ.l κ.e κ.R (κ.s.setVm vm0) κ.m κ.args κ.below κ.meth κ.c B.U B.locs B.cells B.slots)
    (P : ∃ L, (Q' v B.U.heap ∧ Fr n0 L ∧ h.size ≤ B.U.heap.size ∧ Old Z n0 B.U.heap) ∧ B.locs = locs ++ L ∧ B.cells = cells + rm'.cells ∧ B.slots = slots + rm'.slots) (st1 : ∀ target, Steps κ.p.tables κ.e κ.below (B.U.setTop (mkF κ.m pc' Ls (v.toList ++ rest))) target → Steps κ.p.tables κ.e κ.below U0 target) :
    ∃ s₂ o, Steps κ.p.tables κ.e κ.below U0 s₂ ∧ s₂.status = .running ∧ Ended s₂ κ.below o ∧ ∃ v L, o = .returned v ∧ (κ.Q v s₂.heap ∧ Fr κ.n0 L ∧ κ.s.heap.size ≤ s₂.heap.size ∧ Old κ.Z κ.n0 s₂.heap) ∧ Ends κ.wide κ.s o s₂ L κ.R.cells κ.R.slots := by
  obtain ⟨L, ⟨q1, q2, q3, q4⟩, e1, e2, e3⟩ := P
  rw [e1, e2, e3] at X'
  obtain ⟨s₂, o, hs, r⟩ := hr v _ q1 q3 B.U _ vm0 X' (A.mono q3) hZ (N.app (by rw [K.en]; exact q2)) (K.oldS q4) rfl
  exact ⟨s₂, o, st1 _ hs, r⟩
theorem W0 {m : MethodId} {g : List Value} (hW : (rest.map fun v => v.category).sum ≤ W) : 2 * (mkF m pc Ls g).monitorRoom + (rest.map fun v => v.category).sum ≤ W := by
  show 2 * 0 + _ ≤ _; omega
theorem invS (K : Ok κ l Z n0 own nm bytes maxL ret rm Q) (C : Con false l Z n0 y bytes' maxL' ret' rm' argsL.toArray h Q') (hd : decode bytes pc = .ok (.invokestatic index, 3))
    (w1 : (Cond.methodLink own index y).before a0 Z = true) (w2 : (Cond.static y).before a0 Z = true) (w3 : (Cond.initialized y.cls).before a0 Z = true) (w4 : (Cond.code y bytes' maxL' ret').before a0 Z = true) (hy : y.cls ≠ "java/lang/invoke/MethodHandle" ∧ y.cls ≠ "java/lang/invoke/VarHandle")
    (hlen : ∀ sig, parseMethodDescriptor y.desc = some sig → argsL.length = sig.parameters.length) (hst : st = argsL.reverse ++ rest) (hsz : Ls.size = maxL) (hW : (rest.map fun v => v.category).sum ≤ W) (hf : rm'.frames + 1 ≤ rm.frames) (hl : W + (maxL' + 11) + rm'.locals ≤ rm.locals) (hc : cells + rm'.cells ≤ rm.cells) (hs : slots + rm'.slots ≤ rm.slots)
    (hr : ∀ v h', Q' v h' → h.size ≤ h'.size → Go κ h' (cells + rm'.cells) (slots + rm'.slots) (pc + 3) Ls (v.toList ++ rest)) : Go κ h cells slots pc Ls st := fun T locs vm0 X A hZ N OB eT => by
  have hZ' := K.warm hZ
  have eR := K.eR
  obtain ⟨v, vm₁, B, -, X', P, st1⟩ := Jvm.LawKit.callS X K.exec (K.ko A) (mvT hZ' w1) (mvT hZ' w2) (mvT hZ' w3) (mvT hZ' w4) hy (backOf (W := W) (R := κ.R) (rm := rm') (Q := fun v h' L => Q' v h' ∧ Fr n0 L ∧ h.size ≤ h'.size ∧ Old Z n0 h') (by rw [K.el]; exact C.narrow (K.old OB)) hZ' w4 w3 (by rw [eR]; exact hf) (by rw [eR]; exact hl)) (g := mkF κ.m pc Ls st) rfl (by rw [K.kl]; exact hsz) hlen hst (W0 hW) (hb K.kb hd)
    (fun _ _ => ⟨rfl, eT, by rw [eR]; exact hc, by rw [eR]; exact hs⟩)
  exact finish K (T := T) A hZ N hr X' P st1
theorem invV {CC : String} {b : Addr} (K : Ok κ l Z n0 own nm bytes maxL ret rm Q) (C : Con false l Z n0 z bytes' maxL' ret' rm' (.ref b :: argsL).toArray h Q') (hd : decode bytes pc = .ok (.invokevirtual index, 3)) (E : Exa Z h b CC)
    (w1 : (Cond.methodLink own index y).before a0 Z = true) (w2 : (Cond.declares y).before a0 Z = true) (hnf : ∀ s : State, Z.Warmed39 s.vm → NotFace s y) (w3 : (Cond.selects CC y z).before a0 Z = true) (w4 : (Cond.instanceMethod z).before a0 Z = true) (w5 : (Cond.code z bytes' maxL' ret').before a0 Z = true) (w6 : (Cond.initialized z.cls).before a0 Z = true)
    (hy : y.cls ≠ "java/lang/invoke/MethodHandle" ∧ y.cls ≠ "java/lang/invoke/VarHandle")
    (hlen : ∀ sig, parseMethodDescriptor y.desc = some sig → argsL.length = sig.parameters.length) (hst : st = argsL.reverse ++ .ref b :: rest) (hsz : Ls.size = maxL) (hW : (rest.map fun v => v.category).sum ≤ W) (hf : rm'.frames + 1 ≤ rm.frames) (hl : W + (maxL' + 11) + rm'.locals ≤ rm.locals) (hc : cells + rm'.cells ≤ rm.cells) (hs : slots + rm'.slots ≤ rm.slots)
    (hr : ∀ v h', Q' v h' → h.size ≤ h'.size → Go κ h' (cells + rm'.cells) (slots + rm'.slots) (pc + 3) Ls (v.toList ++ rest)) : Go κ h cells slots pc Ls st := fun T locs vm0 X A hZ N OB eT => by
  have hZ' := K.warm hZ
  have eR := K.eR
  obtain ⟨cB, kB, q1, -, q3⟩ := isOf hZ' eT E
  obtain ⟨v, vm₁, B, -, X', P, st1⟩ := X.virtualBack K.exec (y := y) (z := z) (K.ko A) (mvT hZ' w1) (mvT hZ' w2) (hnf _ hZ') (mvT hZ' w3) (mvT hZ' w4) hy (backOf (W := W) (R := κ.R) (rm := rm') (Q := fun v h' L => Q' v h' ∧ Fr n0 L ∧ h.size ≤ h'.size ∧ Old Z n0 h') (by rw [K.el]; exact C.narrow (K.old OB)) hZ' w5 w6 (by rw [eR]; exact hf) (by rw [eR]; exact hl)) q1 q3 (g := mkF κ.m pc Ls st) rfl (by rw [K.kl]; exact hsz) (Steps.refl _) hlen hst (W0 hW) (hb K.kb hd)
    (fun _ _ => ⟨rfl, eT, by rw [eR]; exact hc, by rw [eR]; exact hs⟩)
  exact finish K (T := T) A hZ N hr X' P (fun _ k => st1.trans k)
theorem nfS {CC : String} (w : (Cond.selects CC y y).before a0 Z = true) : ∀ s : State, Z.Warmed39 s.vm → NotFace s y := fun s hZ => notFace_of_selects (args := #[]) (mvT hZ w)
theorem nfU {S : String} (w : (Cond.superclass y.cls S).before a0 Z = true) : ∀ s : State, Z.Warmed39 s.vm → NotFace s y := fun s hZ => nf_super (args := #[]) (mvT hZ w)
theorem invVU {CC owner : String} {b : Addr} (K : Ok κ l Z n0 own nm bytes maxL ret rm Q) (C : Con false l Z n0 z bytes' maxL' ret' rm' (.ref b :: argsL).toArray h Q') (hd : decode bytes pc = .ok (.invokevirtual index, 3)) (E : Exa Z h b CC)
    (w1 : (Cond.methodLink own index y).before a0 Z = true) (w2 : (Cond.sameMethod y.cls owner y.name y.desc).before a0 Z = true) (w2' : (Cond.declares ⟨owner, y.name, y.desc⟩).before a0 Z = true) (hy : owner ≠ "java/lang/invoke/MethodHandle" ∧ owner ≠ "java/lang/invoke/VarHandle")
    (w3 : (Cond.selects CC y z).before a0 Z = true) (w4 : (Cond.instanceMethod z).before a0 Z = true) (w5 : (Cond.code z bytes' maxL' ret').before a0 Z = true) (w6 : (Cond.initialized z.cls).before a0 Z = true)
    (hlen : ∀ sig, parseMethodDescriptor y.desc = some sig → argsL.length = sig.parameters.length) (hst : st = argsL.reverse ++ .ref b :: rest) (hsz : Ls.size = maxL) (hW : (rest.map fun v => v.category).sum ≤ W) (hf : rm'.frames + 1 ≤ rm.frames) (hl : W + (maxL' + 11) + rm'.locals ≤ rm.locals) (hc : cells + rm'.cells ≤ rm.cells) (hs : slots + rm'.slots ≤ rm.slots)
    (hr : ∀ v h', Q' v h' → h.size ≤ h'.size → Go κ h' (cells + rm'.cells) (slots + rm'.slots) (pc + 3) Ls (v.toList ++ rest)) : Go κ h cells slots pc Ls st := fun T locs vm0 X A hZ N OB eT => by
  have hZ' := K.warm hZ
  have eR := K.eR
  obtain ⟨cB, kB, q1, -, q3⟩ := isOf hZ' eT E
  obtain ⟨v, vm₁, B, -, X', P, st1⟩ := X.virtualBackUp K.exec (x := y) (y := z) (K.ko A) (mvT hZ' w1) (mvT hZ' w2) (mvT hZ' w2') hy (mvT hZ' w3) (mvT hZ' w4) (backOf (W := W) (R := κ.R) (rm := rm') (Q := fun v h' L => Q' v h' ∧ Fr n0 L ∧ h.size ≤ h'.size ∧ Old Z n0 h') (by rw [K.el]; exact C.narrow (K.old OB)) hZ' w5 w6 (by rw [eR]; exact hf) (by rw [eR]; exact hl)) q1 q3 (g := mkF κ.m pc Ls st) rfl (by rw [K.kl]; exact hsz) (Steps.refl _) hlen hst (W0 hW) (hb K.kb hd)
    (fun _ _ => ⟨rfl, eT, by rw [eR]; exact hc, by rw [eR]; exact hs⟩)
  exact finish K (T := T) A hZ N hr X' P (fun _ k => st1.trans k)
theorem invP {CC : String} {b : Addr} (K : Ok κ l Z n0 own nm bytes maxL ret rm Q) (C : Con false l Z n0 y bytes' maxL' ret' rm' (.ref b :: argsL).toArray h Q') (hd : decode bytes pc = .ok (.invokevirtual index, 3)) (E : Exa Z h b CC)
    (w1 : (Cond.methodLink own index y).before a0 Z = true) (w2 : (Cond.instanceMethod y).before a0 Z = true) (w3 : (Cond.selects y.cls y y).before a0 Z = true) (w4 : (Cond.privateMethod y).before a0 Z = true) (w5 : (Cond.code y bytes' maxL' ret').before a0 Z = true) (w6 : (Cond.initialized y.cls).before a0 Z = true)
    (hy : y.cls ≠ "java/lang/invoke/MethodHandle" ∧ y.cls ≠ "java/lang/invoke/VarHandle")
    (hlen : ∀ sig, parseMethodDescriptor y.desc = some sig → argsL.length = sig.parameters.length) (hst : st = argsL.reverse ++ .ref b :: rest) (hsz : Ls.size = maxL) (hW : (rest.map fun v => v.category).sum ≤ W) (hf : rm'.frames + 1 ≤ rm.frames) (hl : W + (maxL' + 11) + rm'.locals ≤ rm.locals) (hc : cells + rm'.cells ≤ rm.cells) (hs : slots + rm'.slots ≤ rm.slots)
    (hr : ∀ v h', Q' v h' → h.size ≤ h'.size → Go κ h' (cells + rm'.cells) (slots + rm'.slots) (pc + 3) Ls (v.toList ++ rest)) : Go κ h cells slots pc Ls st := fun T locs vm0 X A hZ N OB eT => by
  have hZ' := K.warm hZ
  have eR := K.eR
  obtain ⟨cell, hcell, hobj⟩ := E.cell
  obtain ⟨v, vm₁, B, -, X', P, st1⟩ := X.privateBack K.exec (y := y) (K.ko A) (mvT hZ' w1) (mvT hZ' w2) (mvT hZ' w3) (Cond.privateMethod_at (mvP (args := #[]) hZ' w4)) (mvT hZ' w5) hy (backOf (W := W) (R := κ.R) (rm := rm') (Q := fun v h' L => Q' v h' ∧ Fr n0 L ∧ h.size ≤ h'.size ∧ Old Z n0 h') (by rw [K.el]; exact C.narrow (K.old OB)) hZ' w5 w6 (by rw [eR]; exact hf) (by rw [eR]; exact hl)) (g := mkF κ.m pc Ls st) rfl (by rw [K.kl]; exact hsz) (Steps.refl _) (a := b) (cell := cell) (by rw [eT]; exact hcell) hobj hlen hst (W0 hW) (hb K.kb hd)
    (fun _ _ => ⟨rfl, eT, by rw [eR]; exact hc, by rw [eR]; exact hs⟩)
  exact finish K (T := T) A hZ N hr X' P (fun _ k => st1.trans k)
theorem invI {CC : String} {b : Addr} {count : Nat} (K : Ok κ l Z n0 own nm bytes maxL ret rm Q) (C : Con false l Z n0 z bytes' maxL' ret' rm' (.ref b :: argsL).toArray h Q') (hd : decode bytes pc = .ok (.invokeinterface index count, 5)) (E : Exa Z h b CC)
    (w1 : (Cond.methodLink own index y).before a0 Z = true) (w2 : (Cond.declares y).before a0 Z = true) (w2' : (Cond.interfaceMethod y.cls y.cls y.name y.desc).before a0 Z = true) (w3 : (Cond.selects CC y z).before a0 Z = true) (w4 : (Cond.instanceMethod z).before a0 Z = true) (w4' : (Cond.publicMethod z).before a0 Z = true) (w4'' : (Cond.unhidden CC y.name y.desc).before a0 Z = true) (w7 : (Cond.castable CC y.cls).before a0 Z = true)
    (w5 : (Cond.code z bytes' maxL' ret').before a0 Z = true) (w6 : (Cond.initialized z.cls).before a0 Z = true)
    (hy : y.cls ≠ "java/lang/invoke/MethodHandle" ∧ y.cls ≠ "java/lang/invoke/VarHandle")
    (hlen : ∀ sig, parseMethodDescriptor y.desc = some sig → argsL.length = sig.parameters.length) (hst : st = argsL.reverse ++ .ref b :: rest) (hsz : Ls.size = maxL) (hW : (rest.map fun v => v.category).sum ≤ W) (hf : rm'.frames + 1 ≤ rm.frames) (hl : W + (maxL' + 11) + rm'.locals ≤ rm.locals) (hc : cells + rm'.cells ≤ rm.cells) (hs : slots + rm'.slots ≤ rm.slots)
    (hr : ∀ v h', Q' v h' → h.size ≤ h'.size → Go κ h' (cells + rm'.cells) (slots + rm'.slots) (pc + 5) Ls (v.toList ++ rest)) : Go κ h cells slots pc Ls st := fun T locs vm0 X A hZ N OB eT => by
  have hZ' := K.warm hZ
  have eR := K.eR
  obtain ⟨cB, kB, q1, q2, q3⟩ := isOf hZ' eT E
  obtain ⟨v, vm₁, B, -, X', P, st1⟩ := X.interfaceBack K.exec (xi := y) (y := z) (K.ko A) (mvT hZ' w1) (mvT hZ' w2) (Jvm.Free.ULB.iface_rides hZ'.alike w2') (mvT hZ' w3) (mvT hZ' w4) (mvT hZ' w4') (mvT hZ' w4'') (mvT hZ' w7) hy (backOf (W := W) (R := κ.R) (rm := rm') (Q := fun v h' L => Q' v h' ∧ Fr n0 L ∧ h.size ≤ h'.size ∧ Old Z n0 h') (by rw [K.el]; exact C.narrow (K.old OB)) hZ' w5 w6 (by rw [eR]; exact hf) (by rw [eR]; exact hl)) q1 q2 q3 (g := mkF κ.m pc Ls st) rfl (by rw [K.kl]; exact hsz) (Steps.refl _) hlen hst (W0 hW) (hb K.kb hd)
    (fun _ _ => ⟨rfl, eT, by rw [eR]; exact hc, by rw [eR]; exact hs⟩)
  exact finish K (T := T) A hZ N hr X' P (fun _ k => st1.trans k)
theorem invC {b : Addr} (K : Ok κ l Z n0 own nm bytes maxL ret rm Q) (C : Con false l Z n0 y bytes' maxL' none rm' (.ref b :: argsL).toArray h Q') (hd : decode bytes pc = .ok (.invokespecial index, 3)) (hy1 : y.name = "<init>")
    (w1 : (Cond.methodLink own index y).before a0 Z = true) (w2 : (Cond.instanceMethod y).before a0 Z = true) (w5 : (Cond.code y bytes' maxL' none).before a0 Z = true) (w6 : (Cond.initialized y.cls).before a0 Z = true)
    (hy : y.cls ≠ "java/lang/invoke/MethodHandle" ∧ y.cls ≠ "java/lang/invoke/VarHandle")
    (hlen : ∀ sig, parseMethodDescriptor y.desc = some sig → argsL.length = sig.parameters.length) (hst : st = argsL.reverse ++ .ref b :: rest) (hsz : Ls.size = maxL) (hW : (rest.map fun v => v.category).sum ≤ W) (hf : rm'.frames + 1 ≤ rm.frames) (hl : W + (maxL' + 11) + rm'.locals ≤ rm.locals) (hc : cells + rm'.cells ≤ rm.cells) (hs : slots + rm'.slots ≤ rm.slots)
    (hr : ∀ v h', Q' v h' → h.size ≤ h'.size → Go κ h' (cells + rm'.cells) (slots + rm'.slots) (pc + 3) Ls (v.toList ++ rest)) : Go κ h cells slots pc Ls st := fun T locs vm0 X A hZ N OB eT => by
  have hZ' := K.warm hZ
  have eR := K.eR
  obtain ⟨v, vm₁, B, -, X', P, st1⟩ := X.specialBack K.exec (y := y) hy1 (K.ko A) (mvT hZ' w1) (mvT hZ' w2) (mvT hZ' w5) hy (backOf (W := W) (R := κ.R) (rm := rm') (Q := fun v h' L => Q' v h' ∧ Fr n0 L ∧ h.size ≤ h'.size ∧ Old Z n0 h') (by rw [K.el]; exact C.narrow (K.old OB)) hZ' w5 w6 (by rw [eR]; exact hf) (by rw [eR]; exact hl)) (g := mkF κ.m pc Ls st) rfl (by rw [K.kl]; exact hsz) (Steps.refl _) (a := b) hlen hst (W0 hW) (hb K.kb hd)
    (fun _ _ => ⟨rfl, eT, by rw [eR]; exact hc, by rw [eR]; exact hs⟩)
  exact finish K (T := T) A hZ N hr X' P (fun _ k => st1.trans k)
theorem mvMN {s : State} {args : Array Value} {own' host : String} {i : Nat} (hZ : Z.Warmed39 s.vm) (w : (Cond.methodLinkNest own' i y host).before a0 Z = true) : (Cond.methodLinkNest own' i y host).before args s = true := (Cond.methodLinkNest_wide hZ w :)
theorem invCN {host : String} {b : Addr} (K : Ok κ l Z n0 own nm bytes maxL ret rm Q) (C : Con false l Z n0 y bytes' maxL' none rm' (.ref b :: argsL).toArray h Q') (hd : decode bytes pc = .ok (.invokespecial index, 3)) (hy1 : y.name = "<init>")
    (w1 : (Cond.methodLinkNest own index y host).before a0 Z = true) (w2 : (Cond.instanceMethod y).before a0 Z = true) (w5 : (Cond.code y bytes' maxL' none).before a0 Z = true) (w6 : (Cond.initialized y.cls).before a0 Z = true)
    (hy : y.cls ≠ "java/lang/invoke/MethodHandle" ∧ y.cls ≠ "java/lang/invoke/VarHandle")
    (hlen : ∀ sig, parseMethodDescriptor y.desc = some sig → argsL.length = sig.parameters.length) (hst : st = argsL.reverse ++ .ref b :: rest) (hsz : Ls.size = maxL) (hW : (rest.map fun v => v.category).sum ≤ W) (hf : rm'.frames + 1 ≤ rm.frames) (hl : W + (maxL' + 11) + rm'.locals ≤ rm.locals) (hc : cells + rm'.cells ≤ rm.cells) (hs : slots + rm'.slots ≤ rm.slots)
    (hr : ∀ v h', Q' v h' → h.size ≤ h'.size → Go κ h' (cells + rm'.cells) (slots + rm'.slots) (pc + 3) Ls (v.toList ++ rest)) : Go κ h cells slots pc Ls st := fun T locs vm0 X A hZ N OB eT => by
  have hZ' := K.warm hZ
  have eR := K.eR
  obtain ⟨v, vm₁, B, -, X', P, st1⟩ := X.specialBackNest K.exec (y := y) hy1 (K.ko A) (mvMN hZ' w1) (mvT hZ' w2) (mvT hZ' w5) hy (backOf (W := W) (R := κ.R) (rm := rm') (Q := fun v h' L => Q' v h' ∧ Fr n0 L ∧ h.size ≤ h'.size ∧ Old Z n0 h') (by rw [K.el]; exact C.narrow (K.old OB)) hZ' w5 w6 (by rw [eR]; exact hf) (by rw [eR]; exact hl)) (g := mkF κ.m pc Ls st) rfl (by rw [K.kl]; exact hsz) (Steps.refl _) (a := b) hlen hst (W0 hW) (hb K.kb hd)
    (fun _ _ => ⟨rfl, eT, by rw [eR]; exact hc, by rw [eR]; exact hs⟩)
  exact finish K (T := T) A hZ N hr X' P (fun _ k => st1.trans k)
theorem invO {a : Addr} (K : Ok κ l Z n0 own nm bytes maxL ret rm Q) (hd : decode bytes pc = .ok (.invokespecial index, 3)) (w1 : (Cond.methodLink own index Lib.objectInit).before a0 Z = true) (w2 : (Cond.instanceMethod Lib.objectInit).before a0 Z = true) (w3 : (Cond.code Lib.objectInit ⟨#[0xb1]⟩ 1 none).before a0 Z = true)
    (hsz : Ls.size = maxL) (hf : 1 ≤ rm.frames) (hW : (st.map fun v => v.category).sum ≤ W) (hl : W + 12 ≤ rm.locals) (hr : Go κ h cells slots (pc + 3) Ls st) : Go κ h cells slots pc Ls (.ref a :: st) := fun T locs vm0 X A hZ N B eT => by
  obtain ⟨T', X', e', st1⟩ := initO X K.exec (K.warm hZ) (K.ko A) w1 w2 w3 eT (g := mkF κ.m pc Ls (.ref a :: st)) rfl (by rw [K.kl]; exact hsz) rfl (hb K.kb hd) (by rw [K.eR]; exact hf) (W := W) (W0 hW) (by rw [K.eR]; exact hl)
  obtain ⟨s₂, o, hs, r⟩ := hr T' locs vm0 X' A hZ N B e'
  exact ⟨s₂, o, st1 _ hs, r⟩
/-- a body's walk makes the contract -/
theorem Con.of {wide : Bool} (hpn : plainFor y = true)
    (H : ∀ κ : Cx, κ.wide = wide → Ok κ l Z n0 y.cls y.name bytes' maxL' ret' rm' Q' → Go κ h 0 0 0 (entryFrame κ.m as' maxL').locals []) (hfr : ∀ m : MethodId, entryFrame m as' maxL' = mkF m 0 (entryFrame m as' maxL').locals [] := by intro m; rfl) : Con wide l Z n0 y bytes' maxL' ret' rm' as' h Q' := by
  intro hn ws
  refine MetFree.of_bodySF hpn hisR ?_
  intro p e s m args below meth c s₁ Bd hml0 hP hK
  obtain ⟨rfl, hZ, hh⟩ := hP
  have X0 : Stand p l e rm' s m args below meth c s₁ [] 0 0 := Stand.of_body Bd
  have e0 : s₁.heap = h := by rw [← hh, Bd.state]; rfl
  let κ : Cx := ((p, l, e, rm', s, m, args, below, meth, c), (wide, Z, n0, Q'))
  have K : Ok κ l Z n0 y.cls y.name bytes' maxL' ret' rm' Q' := ⟨rfl, rfl, rfl, rfl, Bd.exec, findClass_of_methodNamed Bd.named, Bd.bytes, hml0, Bd.returns, (name_of_methodNamed Bd.named Bd.method).1, Bd.notSynchronized, rfl⟩
  obtain ⟨s₂, o, hs, r1, r2, v, L, e1, q, E⟩ := H κ rfl K s₁ [] s.vm X0 ⟨⟨s.heap.size, (State.WarmedH.refl s).since _, by rw [← hh]; exact Nat.le_refl _⟩, fun _ => rfl⟩ hZ (Fr.nil _) hn e0
  exact ⟨s₂, o, castTop (hfr m) hs, r1, r2, v, L, e1, q, E⟩
end Calls
theorem catR {v : Value} (h : v.isRef = true) : v.category = 1 := by rcases ref_cases h with rfl | ⟨a, rfl⟩ <;> rfl
/-! ## lcmp -/
theorem cmp_lt (x y : Int64) : (XT.cmpL x y).toInt < 0 ↔ x.toInt < y.toInt := by
  unfold XT.cmpL; rw [← Int64.lt_iff_toInt_lt]
  by_cases h1 : y < x
  · simp only [h1, if_true]; constructor
    · intro h; exact absurd h (by decide)
    · intro h; rw [Int64.lt_iff_toInt_lt] at h h1; omega
  · by_cases h2 : x = y
    · subst h2; simp only [h1, if_true, if_false]; simp
    · simp only [h1, h2, if_false]
      have h3 : x < y := by rw [Int64.lt_iff_toInt_lt] at h1 ⊢; rw [← Int64.toInt_inj] at h2; omega
      exact ⟨fun _ => h3, fun _ => by decide⟩
theorem cmp_gt (x y : Int64) : 0 < (XT.cmpL x y).toInt ↔ y.toInt < x.toInt := by
  unfold XT.cmpL; rw [← Int64.lt_iff_toInt_lt]
  by_cases h1 : y < x
  · simp only [h1, if_true]; exact ⟨fun _ => trivial, fun _ => by decide⟩
  · by_cases h2 : x = y
    · subst h2; simp only [h1, if_true, if_false]; simp
    · simp only [h1, h2, if_false]; simp
theorem cmp_eq (x y : Int64) : XT.cmpL x y = 0 ↔ x = y := by
  unfold XT.cmpL
  by_cases h1 : y < x
  · simp only [h1, if_true]; constructor
    · intro h; exact absurd h (by decide)
    · intro h; subst h; rw [Int64.lt_iff_toInt_lt] at h1; omega
  · by_cases h2 : x = y
    · subst h2; simp only [h1, if_true, if_false]
    · simp only [h1, h2, if_false]; exact ⟨fun h => absurd h (by decide), fun h => h.elim⟩
/-! ## what a case's words say at the start -/
theorem stZ {s : State} {args : Array Value} {C n d : String} {v : Value} (ev : (Term.static C n d).eval args s none [] s = some v) (wi : (Cond.initialized C).before args s = true) (wl : (Cond.laysStatic C n d).before args s = true) : Sta s s.heap C n d v := Sta.start ev (Or.inr ⟨wi, wl⟩)
theorem fldI {s : State} {args : Array Value} {t : Term} {a : Addr} {O f d : String} {k : Int32} (ev : t.eval args s none [] s = some (.ref a)) (hq : (Cond.eq (.field t O f d) (.int k)).value args s none s [] = some true) : Fld s s.heap a O f d (.int k) := by
  obtain ⟨x, y, e1, e2, k1, k2⟩ := cmp_v (Or.inl hq)
  rw [fld_at ev] at e1
  cases (e2.symm.trans (Term.int_eval k) : some y = some (.int k))
  obtain ⟨z, rfl⟩ := k2
  refine Fld.start ?_
  have e3 : (Term.field t O f d).eval args s none [] s = some (.int z) := (fld_at ev).trans e1
  have := gotT (Cond.eq_ints e3 (Term.int_eval k)) hq
  rw [e1, this]
theorem fldJ {s : State} {args : Array Value} {t : Term} {a : Addr} {O f d : String} {k : Int64} (ev : t.eval args s none [] s = some (.ref a)) (hq : (Cond.eq (.field t O f d) (.long k)).value args s none s [] = some true) : Fld s s.heap a O f d (.long k) := by
  obtain ⟨x, y, e1, e2, k1, k2⟩ := cmp_v (Or.inl hq)
  rw [fld_at ev] at e1
  cases (e2.symm.trans (long_at k) : some y = some (.long k))
  obtain ⟨z, rfl⟩ := k2
  refine Fld.start ?_
  have e3 : (Term.field t O f d).eval args s none [] s = some (.long z) := (fld_at ev).trans e1
  have := gotT (eq_L e3 (long_at k)) hq
  rw [e1, this]
theorem staI {s : State} {args : Array Value} {C n d : String} {k : Int32} (hq : (Cond.eq (.static C n d) (.int k)).value args s none s [] = some true) : (Term.static C n d).eval args s none [] s = some (.int k) := by
  obtain ⟨x, y, e1, e2, k1, k2⟩ := cmp_v (Or.inl hq)
  cases (e2.symm.trans (Term.int_eval k) : some y = some (.int k))
  obtain ⟨z, rfl⟩ := k2
  have := gotT (Cond.eq_ints e1 (Term.int_eval k)) hq
  rw [e1, this]
theorem staJ {s : State} {args : Array Value} {C n d : String} {k : Int64} (hq : (Cond.eq (.static C n d) (.long k)).value args s none s [] = some true) : (Term.static C n d).eval args s none [] s = some (.long k) := by
  obtain ⟨x, y, e1, e2, k1, k2⟩ := cmp_v (Or.inl hq)
  cases (e2.symm.trans (long_at k) : some y = some (.long k))
  obtain ⟨z, rfl⟩ := k2
  have := gotT (eq_L e1 (long_at k)) hq
  rw [e1, this]
theorem ordNe {Z : State} {h : Heap} {a b : Addr} {C n d : String} {v w : Value} (F : Fld Z h a C n d v) (G : Fld Z h b C n d w) (q : v ≠ w) : (Value.ref a) ≠ .ref b := fun e => F.ne G q (by cases e; rfl)
end Laws
end Jvm.OwnKit

namespace Jvm.OwnKit
open Sem ClassFile Op Lib Jvm.Stand Jvm.Free Jvm.LawKit Jvm.RoadKit
/-! ## arrays, by the list of what they hold -/
def Av (Z : State) (h : Heap) (a : Addr) (k : ClassId) (ty : FieldType) (vs : List Value) : Prop := ∃ c : Cell, Arr Z h a c ty ∧ c.cls = k ∧ c.slots.toList = vs ∧ vs.length < 2 ^ 31 ∧ ∀ v ∈ vs, fits ty v = true
section Av
variable {Z : State} {h h' : Heap} {a b : Addr} {k : ClassId} {ty : FieldType} {vs : List Value} {sl : Nat} {v : Value} {ws : List Addr}
theorem Av.lt (F : Av Z h a k ty vs) : a < h.size := by obtain ⟨c, A, -⟩ := F; exact A.lt
theorem Av.ext (F : Av Z h a k ty vs) (E : Ext h h') : Av Z h' a k ty vs := by obtain ⟨c, A, r⟩ := F; exact ⟨c, A.ext E, r⟩
theorem Av.other (F : Av Z h b k ty vs) (W : Wr h h' a sl v) (q : b ≠ a) : Av Z h' b k ty vs := by obtain ⟨c, A, r⟩ := F; exact ⟨c, A.other W q, r⟩
theorem Av.keep (F : Av Z h a k ty vs) (K : Keep h h' ws) (q : a ∉ ws) : Av Z h' a k ty vs := by obtain ⟨c, A, r⟩ := F; exact ⟨c, ⟨K.2.1 a c A.1 q, A.2⟩, r⟩
theorem Av.len (F : Av Z h a k ty vs) : vs.length < 2 ^ 31 := by obtain ⟨c, -, -, -, q, -⟩ := F; exact q
theorem Av.set (F : Av Z h a k ty vs) (W : Wr h h' a sl v) (hv : fits ty v = true) : Av Z h' a k ty (vs.set sl v) := by
  obtain ⟨c, A, e1, e2, e3, e4⟩ := F
  refine ⟨_, A.same W, e1, by simp [Cell.setSlot, e2], by simpa using e3, fun w hw => ?_⟩
  rcases List.mem_or_eq_of_mem_set hw with q | q
  · exact e4 w q
  · exact q ▸ hv
theorem Av.new {cA : ClassId} {n : Int32} (A : Arr Z h a (newA cA ty n) ty) (q : 0 ≤ n.toInt) : Av Z h a cA ty (List.replicate n.toInt.toNat (defaultValue ty)) := by
  have e : n.toNatClampNeg = n.toInt.toNat := rfl
  refine ⟨_, A, rfl, by show (Array.replicate n.toNatClampNeg (defaultValue ty)).toList = _; rw [Array.toList_replicate]; rfl, by have := n.toInt_lt; rw [List.length_replicate]; omega, fun v hv => ?_⟩
  rw [List.mem_replicate] at hv
  rw [hv.2]; cases ty <;> rfl
theorem Av.arv (F : Av Z h a k ty vs) (d : Value) : Arv Z h a k ty (Int32.ofNat vs.length) vs d := by
  obtain ⟨c, A, e1, e2, e3, e4⟩ := F
  have e5 : c.slots.size = vs.length := by rw [← e2]; simp
  have e6 : (Int32.ofNat vs.length).toInt = vs.length := len_toInt e3
  refine ⟨c, A, e1, ?_, ?_, fun i hi => ?_, fun i hi => ?_⟩
  · rw [e5]; show _ = (Int32.ofNat vs.length).toInt.toNat; omega
  · rw [Int32.lt_iff_toInt_lt, e6]; have : (0 : Int32).toInt = 0 := rfl; omega
  · rw [e5] at hi; rw [← e2]; simp [List.getD, ← Array.getElem?_toList]; rw [e2]; simp [hi]
  · rw [e5] at hi; rw [List.getD_eq_getElem?_getD, List.getElem?_eq_getElem hi]; exact e4 _ (List.getElem_mem hi)
theorem Av.of_arv {n : Int32} {d : Value} (F : Arv Z h a k ty n vs d) (hl : n.toInt = vs.length) : Av Z h a k ty vs := by
  obtain ⟨c, A, e1, e2, e3, e4, e5⟩ := F
  have e6 : c.slots.size = vs.length := by rw [e2]; show n.toInt.toNat = _; omega
  have e7 : c.slots.toList = vs := by
    refine List.ext_getElem? fun i => ?_
    rcases Nat.lt_or_ge i vs.length with hi | hi
    · have q := e4 i (by omega)
      rw [Array.getElem?_toList, q, List.getD_eq_getElem?_getD, List.getElem?_eq_getElem hi]; rfl
    · rw [List.getElem?_eq_none hi, List.getElem?_eq_none (by simp; omega)]
  refine ⟨c, A, e1, e7, by have := n.toInt_lt; omega, fun v hv => ?_⟩
  obtain ⟨i, hi, rfl⟩ := List.getElem_of_mem hv
  have q := e5 i (by omega)
  rwa [List.getD_eq_getElem?_getD, List.getElem?_eq_getElem hi] at q
end Av
section ALaws
variable {κ : Cx} {t : FieldType} {l : Launch} {Z : State} {n0 : Nat} {own nm : String} {bytes : ByteArray} {maxL : Nat} {ret : Option FieldType} {rm : Room} {Q : Option Value → Heap → Prop} {h : Heap} {cells slots pc : Nat} {Ls : Array Slot} {st : List Value} {a0 : Array Value}
variable {a : Addr} {k : ClassId} {ty : FieldType} {vs : List Value} {j : Int32} {v : Value}
theorem inV {c : Cell} (e : c.slots.toList = vs) (h0 : 0 ≤ j.toInt) (hj : vs[j.toInt.toNat]? = some v) : ¬ (j < 0 ∨ c.slots.size ≤ j.toNatClampNeg) ∧ c.slots[j.toNatClampNeg]? = some v := by
  have q := (List.getElem?_eq_some_iff.mp hj).1
  have s : c.slots.size = vs.length := by rw [← e]; simp
  have e0 : (0 : Int32).toInt = 0 := rfl
  have e1 : j.toNatClampNeg = j.toInt.toNat := rfl
  refine ⟨?_, ?_⟩
  · rw [Int32.lt_iff_toInt_lt, e0, e1]; omega
  · rw [e1, ← Array.getElem?_toList, e]; exact hj
theorem lenV (K : Ok κ l Z n0 own nm bytes maxL ret rm Q) (hd : decode bytes pc = .ok (.arraylength, 1)) (A : Av Z h a k ty vs) (hr : Go κ h cells slots (pc + 1) Ls (.int (Int32.ofNat vs.length) :: st)) : Go κ h cells slots pc Ls (.ref a :: st) := by
  obtain ⟨c, A1, e1, e2, e3, e4⟩ := A
  exact arrLen K hd A1 (by rw [← e2]; simp) hr
theorem ialoadV (K : Ok κ l Z n0 own nm bytes maxL ret rm Q) (hd : decode bytes pc = .ok (.iaload, 1)) (A : Av Z h a k .int vs) (h0 : 0 ≤ j.toInt) (hj : vs[j.toInt.toNat]? = some v) (hr : Go κ h cells slots (pc + 1) Ls (v :: st)) : Go κ h cells slots pc Ls (.int j :: .ref a :: st) := by
  obtain ⟨c, A1, e1, e2, e3, e4⟩ := A
  obtain ⟨q1, q2⟩ := inV e2 h0 hj
  exact iaload K hd A1 q1 q2 hr
theorem laloadV (K : Ok κ l Z n0 own nm bytes maxL ret rm Q) (hd : decode bytes pc = .ok (.laload, 1)) (A : Av Z h a k .long vs) (h0 : 0 ≤ j.toInt) (hj : vs[j.toInt.toNat]? = some v) (hr : Go κ h cells slots (pc + 1) Ls (v :: st)) : Go κ h cells slots pc Ls (.int j :: .ref a :: st) := by
  obtain ⟨c, A1, e1, e2, e3, e4⟩ := A
  obtain ⟨q1, q2⟩ := inV e2 h0 hj
  exact laload K hd A1 q1 q2 hr
theorem caloadV (K : Ok κ l Z n0 own nm bytes maxL ret rm Q) (hd : decode bytes pc = .ok (.caload, 1)) (A : Av Z h a k .char vs) (h0 : 0 ≤ j.toInt) (hj : vs[j.toInt.toNat]? = some v) (hr : Go κ h cells slots (pc + 1) Ls (v :: st)) : Go κ h cells slots pc Ls (.int j :: .ref a :: st) := by
  obtain ⟨c, A1, e1, e2, e3, e4⟩ := A
  obtain ⟨q1, q2⟩ := inV e2 h0 hj
  exact caload K hd A1 q1 q2 hr
theorem baloadV (K : Ok κ l Z n0 own nm bytes maxL ret rm Q) (hd : decode bytes pc = .ok (.baload, 1)) (A : Av Z h a k .byte vs) (h0 : 0 ≤ j.toInt) (hj : vs[j.toInt.toNat]? = some v) (hr : Go κ h cells slots (pc + 1) Ls (v :: st)) : Go κ h cells slots pc Ls (.int j :: .ref a :: st) := by
  obtain ⟨c, A1, e1, e2, e3, e4⟩ := A
  obtain ⟨q1, q2⟩ := inV e2 h0 hj
  exact baload K hd A1 q1 q2 hr
theorem iastoreV {x : Int32} (K : Ok κ l Z n0 own nm bytes maxL ret rm Q) (hd : decode bytes pc = .ok (.iastore, 1)) (A : Av Z h a k .int vs) (h0 : 0 ≤ j.toInt) (hj : j.toInt < vs.length) (ge : n0 ≤ a)
    (hr : ∀ h', Wr h h' a j.toInt.toNat (.int x) → Av Z h' a k .int (vs.set j.toInt.toNat (.int x)) → Go κ h' cells slots (pc + 1) Ls st) : Go κ h cells slots pc Ls (.int x :: .int j :: .ref a :: st) := by
  obtain ⟨c, A1, e1, e2, e3, e4⟩ := A
  obtain ⟨w, hw⟩ : ∃ w, vs[j.toInt.toNat]? = some w := ⟨_, List.getElem?_eq_getElem (by omega)⟩
  obtain ⟨q1, q2⟩ := inV e2 h0 hw
  exact iastore K hd A1 q1 ge fun h' W => hr h' W (Av.set ⟨c, A1, e1, e2, e3, e4⟩ W rfl)
theorem lastoreV {x : Int64} (K : Ok κ l Z n0 own nm bytes maxL ret rm Q) (hd : decode bytes pc = .ok (.lastore, 1)) (A : Av Z h a k .long vs) (h0 : 0 ≤ j.toInt) (hj : j.toInt < vs.length) (ge : n0 ≤ a)
    (hr : ∀ h', Wr h h' a j.toInt.toNat (.long x) → Av Z h' a k .long (vs.set j.toInt.toNat (.long x)) → Go κ h' cells slots (pc + 1) Ls st) : Go κ h cells slots pc Ls (.long x :: .int j :: .ref a :: st) := by
  obtain ⟨c, A1, e1, e2, e3, e4⟩ := A
  obtain ⟨w, hw⟩ : ∃ w, vs[j.toInt.toNat]? = some w := ⟨_, List.getElem?_eq_getElem (by omega)⟩
  obtain ⟨q1, q2⟩ := inV e2 h0 hw
  exact lastore K hd A1 q1 ge fun h' W => hr h' W (Av.set ⟨c, A1, e1, e2, e3, e4⟩ W rfl)
theorem castoreV {x : Int32} (K : Ok κ l Z n0 own nm bytes maxL ret rm Q) (hd : decode bytes pc = .ok (.castore, 1)) (A : Av Z h a k .char vs) (h0 : 0 ≤ j.toInt) (hj : j.toInt < vs.length) (ge : n0 ≤ a)
    (hr : ∀ h', Wr h h' a j.toInt.toNat (.int (nar .char x)) → Av Z h' a k .char (vs.set j.toInt.toNat (.int (nar .char x))) → Go κ h' cells slots (pc + 1) Ls st) : Go κ h cells slots pc Ls (.int x :: .int j :: .ref a :: st) := by
  obtain ⟨c, A1, e1, e2, e3, e4⟩ := A
  obtain ⟨w, hw⟩ : ∃ w, vs[j.toInt.toNat]? = some w := ⟨_, List.getElem?_eq_getElem (by omega)⟩
  obtain ⟨q1, q2⟩ := inV e2 h0 hw
  exact castore K hd A1 q1 ge fun h' W => hr h' W (Av.set ⟨c, A1, e1, e2, e3, e4⟩ W (fits_nar_char x))
theorem bastoreV {x : Int32} (K : Ok κ l Z n0 own nm bytes maxL ret rm Q) (hd : decode bytes pc = .ok (.bastore, 1)) (A : Av Z h a k .byte vs) (h0 : 0 ≤ j.toInt) (hj : j.toInt < vs.length) (ge : n0 ≤ a)
    (hr : ∀ h', Wr h h' a j.toInt.toNat (.int x.toInt8.toInt32) → Av Z h' a k .byte (vs.set j.toInt.toNat (.int x.toInt8.toInt32)) → Go κ h' cells slots (pc + 1) Ls st) : Go κ h cells slots pc Ls (.int x :: .int j :: .ref a :: st) := by
  obtain ⟨c, A1, e1, e2, e3, e4⟩ := A
  obtain ⟨w, hw⟩ : ∃ w, vs[j.toInt.toNat]? = some w := ⟨_, List.getElem?_eq_getElem (by omega)⟩
  obtain ⟨q1, q2⟩ := inV e2 h0 hw
  exact bastore K hd A1 q1 ge fun h' W => hr h' W (Av.set ⟨c, A1, e1, e2, e3, e4⟩ W (fits_nar_byte x))
theorem aaloadV (K : Ok κ l Z n0 own nm bytes maxL ret rm Q) (hd : decode bytes pc = .ok (.aaload, 1)) (A : Av Z h a k ty vs) (hty : ty.isReference = true) (h0 : 0 ≤ j.toInt) (hj : vs[j.toInt.toNat]? = some v) (hr : Go κ h cells slots (pc + 1) Ls (v :: st)) : Go κ h cells slots pc Ls (.int j :: .ref a :: st) := by
  obtain ⟨c, A1, e1, e2, e3, e4⟩ := A
  obtain ⟨q1, q2⟩ := inV e2 h0 hj
  exact aaload K hd A1 hty q1 q2 hr
theorem aastoreV {C : String} {y : Addr} (K : Ok κ l Z n0 own nm bytes maxL ret rm Q) (hd : decode bytes pc = .ok (.aastore, 1)) (A : Av Z h a k ty vs) (O : Ovr Z k C) (I : Ins Z h y C true) (hty : ty.isReference = true) (h0 : 0 ≤ j.toInt) (hj : j.toInt < vs.length) (ge : n0 ≤ a)
    (hr : ∀ h', Wr h h' a j.toInt.toNat (.ref y) → Av Z h' a k ty (vs.set j.toInt.toNat (.ref y)) → Go κ h' cells slots (pc + 1) Ls st) : Go κ h cells slots pc Ls (.ref y :: .int j :: .ref a :: st) := by
  obtain ⟨c, A1, e1, e2, e3, e4⟩ := A
  obtain ⟨w, hw⟩ : ∃ w, vs[j.toInt.toNat]? = some w := ⟨_, List.getElem?_eq_getElem (by omega)⟩
  obtain ⟨q1, q2⟩ := inV e2 h0 hw
  refine aastore K hd A1 q1 hty (Sto.ofV A1 e1 O I) ge fun h' W => ?_
  exact hr h' W (Av.set ⟨c, A1, e1, e2, e3, e4⟩ W (by cases ty <;> first | (exact Bool.noConfusion hty) | rfl))
theorem newArrV {aty : ArrayType} {n : Int32} {cap : Nat} (K : Ok κ l Z n0 own nm bytes maxL ret rm Q) (hd : decode bytes pc = .ok (.newarray aty, 2)) (w : (Cond.arrayClass (newarray.typeOf aty)).before a0 Z = true) (hn : 0 ≤ n.toInt) (hcap : n.toInt ≤ cap) (hb8 : cap * 8 ≤ 536870912)
    (hc : cells + 1 ≤ rm.cells) (hl : slots + cap ≤ rm.slots)
    (hr : ∀ h' a k, a = h.size → n0 ≤ a → Ext h h' → Av Z h' a k (newarray.typeOf aty) (List.replicate n.toInt.toNat (defaultValue (newarray.typeOf aty))) → Exa Z h' a ("[" ++ (newarray.typeOf aty).toString) → Go κ h' (cells + 1) (slots + cap) (pc + 2) Ls (.ref a :: st)) : Go κ h cells slots pc Ls (.int n :: st) := by
  have e0 : (0 : Int32).toInt = 0 := rfl
  have e1 : n.toNatClampNeg = n.toInt.toNat := rfl
  refine newArr K hd w (by rw [Int32.lt_iff_toInt_lt, e0]; omega) (by rw [e1]; omega) hb8 rfl hc hl fun h' a cA q1 q2 q3 q4 q5 => ?_
  exact hr h' a cA q1 q2 q3 (Av.new q4 hn) q5
theorem anewArrV {C : String} {index : Nat} {n : Int32} {cap : Nat} (K : Ok κ l Z n0 own nm bytes maxL ret rm Q) (hd : decode bytes pc = .ok (.anewarray index, 3)) (w1 : (Cond.classLink own index C).before a0 Z = true) (w2 : (Cond.arrayOver (.object C)).before a0 Z = true) (hn : 0 ≤ n.toInt) (hcap : n.toInt ≤ cap) (hb8 : cap * 8 ≤ 536870912)
    (hc : cells + 1 ≤ rm.cells) (hl : slots + cap ≤ rm.slots)
    (hr : ∀ h' a k, a = h.size → n0 ≤ a → Ext h h' → Av Z h' a k (.object C) (List.replicate n.toInt.toNat .null) → Ovr Z k C → Go κ h' (cells + 1) (slots + cap) (pc + 3) Ls (.ref a :: st)) : Go κ h cells slots pc Ls (.int n :: st) := by
  have e0 : (0 : Int32).toInt = 0 := rfl
  have e1 : n.toNatClampNeg = n.toInt.toNat := rfl
  refine anewArr K hd w1 w2 (by rw [Int32.lt_iff_toInt_lt, e0]; omega) (by rw [e1]; omega) hb8 hc hl fun h' a cA q1 q2 q3 q4 q5 => ?_
  exact hr h' a cA q1 q2 q3 (Av.new q4 hn) q5
/-- System.arraycopy between two arrays of one primitive kind -/
theorem copyV {index : Nat} {b : Addr} {k' : ClassId} {us : List Value} {sp dp nn : Int32} {W : Nat} (K : Ok κ l Z n0 own nm bytes maxL ret rm Q) (hd : decode bytes pc = .ok (.invokestatic index, 3))
    (w1 : (Cond.methodLink own index Jvm.Stand.acN).before a0 Z = true) (w2 : (Cond.native Jvm.Stand.acN).before a0 Z = true) (w3 : (Cond.static Jvm.Stand.acN).before a0 Z = true) (w4 : (Cond.initialized "java/lang/System").before a0 Z = true)
    (A : Av Z h a k ty vs) (B : Av Z h b k' ty us) (hty : refKind ty = false) (h1 : 0 ≤ sp.toInt) (h2 : 0 ≤ dp.toInt) (h3 : 0 ≤ nn.toInt) (h4 : sp.toInt + nn.toInt ≤ vs.length) (h5 : dp.toInt + nn.toInt ≤ us.length) (ge : n0 ≤ b)
    (hsz : Ls.size = maxL) (hW : (st.map fun v => v.category).sum ≤ W) (hf : 1 ≤ rm.frames) (hlo : W + (nativeFrameWords "java/lang/System" "arraycopy" 5 + 11) ≤ rm.locals)
    (hr : ∀ h', Keep h h' [b] → Av Z h' b k' ty (us.take dp.toInt.toNat ++ (vs.drop sp.toInt.toNat).take nn.toInt.toNat ++ us.drop (dp.toInt.toNat + nn.toInt.toNat)) → Go κ h' cells slots (pc + 3) Ls st) :
    Go κ h cells slots pc Ls (.int nn :: .int dp :: .ref b :: .int sp :: .ref a :: st) := fun T locs vm0 X AD hZ N OB eT => by
  have e0 : (0 : Int32).toInt = 0 := rfl
  have eR := K.eR
  have lA := A.len
  have lB := B.len
  have sA : (Int32.ofNat vs.length).toInt = vs.length := len_toInt lA
  have sB : (Int32.ofNat us.length).toInt = us.length := len_toInt lB
  have hus : (vs.drop sp.toInt.toNat).take nn.toInt.toNat = (List.range nn.toNatClampNeg).map fun i => vs.getD (sp.toNatClampNeg + i) .null := by
    refine List.ext_getElem? fun i => ?_
    show _ = ((List.range nn.toInt.toNat).map fun i => vs.getD (sp.toInt.toNat + i) .null)[i]?
    rcases Nat.lt_or_ge i nn.toInt.toNat with hi | hi
    · rw [List.getElem?_take_of_lt hi, List.getElem?_drop, List.getElem?_map, List.getElem?_range hi, Option.map_some, List.getD_eq_getElem?_getD, List.getElem?_eq_getElem (by omega)]; rfl
    · rw [List.getElem?_eq_none (by rw [List.length_take, List.length_drop]; omega), List.getElem?_eq_none (by rw [List.length_map, List.length_range]; omega)]
  obtain ⟨T', h', L, X', e', N', KP, AV, st1⟩ := cpA X K.exec (K.warm hZ) (K.ko AD) w1 w2 w3 w4 eT (A.arv .null) (B.arv .null) (Or.inl ⟨rfl, hty⟩) (sp := sp) (dp := dp) (nn := nn) (by rw [Int32.lt_iff_toInt_lt, e0]; omega) (by rw [Int32.lt_iff_toInt_lt, e0]; omega) (by rw [Int32.lt_iff_toInt_lt, e0]; omega)
    (by show sp.toInt.toNat + nn.toInt.toNat ≤ (Int32.ofNat vs.length).toInt.toNat; omega) (by show dp.toInt.toNat + nn.toInt.toNat ≤ (Int32.ofNat us.length).toInt.toNat; omega) hus (by show dp.toInt.toNat + nn.toInt.toNat ≤ us.length; omega) N (by rw [K.en]; exact ge)
    (g := mkF κ.m pc Ls (.int nn :: .int dp :: .ref b :: .int sp :: .ref a :: st)) rfl (by rw [K.kl]; exact hsz) rfl (hb K.kb hd) (by rw [eR]; exact hf) (W0 hW) (by rw [eR]; exact hlo)
  have AV' : Av Z h' b k' ty (us.take dp.toInt.toNat ++ (vs.drop sp.toInt.toNat).take nn.toInt.toNat ++ us.drop (dp.toInt.toNat + nn.toInt.toNat)) := Av.of_arv AV (by simp only [List.length_append, List.length_take, List.length_drop]; omega)
  obtain ⟨s₂, o, hs, r⟩ := hr h' KP AV' T' L vm0 X' (AD.mono KP.1) hZ N' (OB.keep KP (allS (by rw [K.en]; exact ge) all0)) e'
  exact ⟨s₂, o, st1 _ hs, r⟩
end ALaws
end Jvm.OwnKit

namespace Jvm.OwnKit
open Sem ClassFile Op Lib Jvm.Stand Jvm.Free Jvm.LawKit Jvm.RoadKit
section DLaws
variable {κ : Cx} {t : FieldType} {l : Launch} {Z : State} {n0 : Nat} {own nm : String} {bytes : ByteArray} {maxL : Nat} {ret : Option FieldType} {rm : Room} {Q : Option Value → Heap → Prop} {h : Heap} {cells slots pc : Nat} {Ls : Array Slot} {st : List Value} {a0 : Array Value}
theorem dloadN {k : Fin 4} {v : UInt64} (K : Ok κ l Z n0 own nm bytes maxL ret rm Q) (hd : decode bytes pc = .ok (.dload_n k, 1)) (hl : Ls[k.val]? = some (.val (.double v))) (hr : Go κ h cells slots (pc + 1) Ls (.double v :: st)) : Go κ h cells slots pc Ls st := fun T locs vm0 X A hZ N B eT => by
  obtain ⟨s₂, o, hs, r⟩ := hr T locs vm0 X A hZ N B eT
  exact ⟨s₂, o, XS.dloadN X.here K.exec rfl (hb K.kb hd) hl hs, r⟩
theorem dconst0 {v : UInt64} (K : Ok κ l Z n0 own nm bytes maxL ret rm Q) (hd : decode bytes pc = .ok (.dconst 0, 1)) (hv : FP.dconst0 = v) (hr : Go κ h cells slots (pc + 1) Ls (.double v :: st)) : Go κ h cells slots pc Ls st := fun T locs vm0 X A hZ N B eT => by
  obtain ⟨s₂, o, hs, r⟩ := hr T locs vm0 X A hZ N B eT
  exact ⟨s₂, o, XS.dconst0 X.here K.exec rfl (hb K.kb hd) hv hs, r⟩
theorem i2d {x : Int32} {v : UInt64} (K : Ok κ l Z n0 own nm bytes maxL ret rm Q) (hd : decode bytes pc = .ok (.i2d, 1)) (hv : FP.i2d x = v) (hr : Go κ h cells slots (pc + 1) Ls (.double v :: st)) : Go κ h cells slots pc Ls (.int x :: st) := fun T locs vm0 X A hZ N B eT => by
  obtain ⟨s₂, o, hs, r⟩ := hr T locs vm0 X A hZ N B eT
  exact ⟨s₂, o, XS.i2dS X.here K.exec rfl (hb K.kb hd) rfl hv hs, r⟩
theorem dcmp {c : CmpOp} {x y : UInt64} {v : Int32} (K : Ok κ l Z n0 own nm bytes maxL ret rm Q) (hd : decode bytes pc = .ok (.dcmp c, 1)) (hv : cmpValue (FP.dcmp x y) c = v) (hr : Go κ h cells slots (pc + 1) Ls (.int v :: st)) : Go κ h cells slots pc Ls (.double y :: .double x :: st) := fun T locs vm0 X A hZ N B eT => by
  obtain ⟨s₂, o, hs, r⟩ := hr T locs vm0 X A hZ N B eT
  exact ⟨s₂, o, XS.dcmpS X.here K.exec rfl (hb K.kb hd) rfl hv hs, r⟩
theorem ldc2D {index : Nat} {v : UInt64} (K : Ok κ l Z n0 own nm bytes maxL ret rm Q) (hd : decode bytes pc = .ok (.ldc2_w index, 3)) (w : (Cond.constantDouble own index v).before a0 Z = true) (hr : Go κ h cells slots (pc + 3) Ls (.double v :: st)) : Go κ h cells slots pc Ls st := fun T locs vm0 X A hZ N B eT => by
  obtain ⟨s₂, o, hs, r⟩ := hr T locs vm0 X A hZ N B eT
  exact ⟨s₂, o, X.ldc2DoubleC K.exec (K.ko A) (mvT (K.warm hZ) w) (g := mkF κ.m pc Ls st) rfl (hb K.kb hd) _ hs, r⟩
end DLaws
end Jvm.OwnKit
namespace Jvm.OwnKit
open Sem ClassFile Op Lib Jvm.Stand Jvm.Free Jvm.LawKit Jvm.RoadKit
section DLaws
variable {κ : Cx} {t : FieldType} {l : Launch} {Z : State} {n0 : Nat} {own nm : String} {bytes : ByteArray} {maxL : Nat} {ret : Option FieldType} {rm : Room} {Q : Option Value → Heap → Prop} {h : Heap} {cells slots pc : Nat} {Ls : Array Slot} {st : List Value} {a0 : Array Value}
theorem dload {k : Nat} {v : UInt64} (K : Ok κ l Z n0 own nm bytes maxL ret rm Q) (hd : decode bytes pc = .ok (.dload k, 2)) (hl : Ls[k]? = some (.val (.double v))) (hr : Go κ h cells slots (pc + 2) Ls (.double v :: st)) : Go κ h cells slots pc Ls st := fun T locs vm0 X A hZ N B eT => by
  obtain ⟨s₂, o, hs, r⟩ := hr T locs vm0 X A hZ N B eT
  exact ⟨s₂, o, XS.dload X.here K.exec rfl (hb K.kb hd) hl hs, r⟩
theorem dstore {k : Nat} {x : UInt64} {l' : Array Slot} (K : Ok κ l Z n0 own nm bytes maxL ret rm Q) (hd : decode bytes pc = .ok (.dstore k, 2)) (hl : storeLocals Ls k (.double x) = some l') (hr : Go κ h cells slots (pc + 2) l' st) : Go κ h cells slots pc Ls (.double x :: st) := fun T locs vm0 X A hZ N B eT => by
  obtain ⟨s₂, o, hs, r⟩ := hr T locs vm0 X A hZ N B eT
  exact ⟨s₂, o, XS.dstore X.here K.exec rfl (hb K.kb hd) rfl hl hs, r⟩
theorem dstoreN {k : Fin 4} {x : UInt64} {l' : Array Slot} (K : Ok κ l Z n0 own nm bytes maxL ret rm Q) (hd : decode bytes pc = .ok (.dstore_n k, 1)) (hl : storeLocals Ls k.val (.double x) = some l') (hr : Go κ h cells slots (pc + 1) l' st) : Go κ h cells slots pc Ls (.double x :: st) := fun T locs vm0 X A hZ N B eT => by
  obtain ⟨s₂, o, hs, r⟩ := hr T locs vm0 X A hZ N B eT
  exact ⟨s₂, o, XS.dstoreN X.here K.exec rfl (hb K.kb hd) rfl hl hs, r⟩
theorem dconst1 {v : UInt64} (K : Ok κ l Z n0 own nm bytes maxL ret rm Q) (hd : decode bytes pc = .ok (.dconst 1, 1)) (hv : FP.dconst1 = v) (hr : Go κ h cells slots (pc + 1) Ls (.double v :: st)) : Go κ h cells slots pc Ls st := fun T locs vm0 X A hZ N B eT => by
  obtain ⟨s₂, o, hs, r⟩ := hr T locs vm0 X A hZ N B eT
  exact ⟨s₂, o, XS.dconst1 X.here K.exec rfl (hb K.kb hd) hv hs, r⟩
theorem l2d {x : Int64} {v : UInt64} (K : Ok κ l Z n0 own nm bytes maxL ret rm Q) (hd : decode bytes pc = .ok (.l2d, 1)) (hv : FP.l2d x = v) (hr : Go κ h cells slots (pc + 1) Ls (.double v :: st)) : Go κ h cells slots pc Ls (.long x :: st) := fun T locs vm0 X A hZ N B eT => by
  obtain ⟨s₂, o, hs, r⟩ := hr T locs vm0 X A hZ N B eT
  exact ⟨s₂, o, XS.l2dS X.here K.exec rfl (hb K.kb hd) rfl hv hs, r⟩
theorem d2l {x : UInt64} {v : Int64} (K : Ok κ l Z n0 own nm bytes maxL ret rm Q) (hd : decode bytes pc = .ok (.d2l, 1)) (hv : FP.d2l x = v) (hr : Go κ h cells slots (pc + 1) Ls (.long v :: st)) : Go κ h cells slots pc Ls (.double x :: st) := fun T locs vm0 X A hZ N B eT => by
  obtain ⟨s₂, o, hs, r⟩ := hr T locs vm0 X A hZ N B eT
  exact ⟨s₂, o, XS.d2lS X.here K.exec rfl (hb K.kb hd) rfl hv hs, r⟩
theorem dadd {x y v : UInt64} (K : Ok κ l Z n0 own nm bytes maxL ret rm Q) (hd : decode bytes pc = .ok (.dadd, 1)) (hn : Jvm.Free.Fl.NoNaN64 (FP.dadd x y)) (hv : FP.dadd x y = v) (hr : Go κ h cells slots (pc + 1) Ls (.double v :: st)) : Go κ h cells slots pc Ls (.double y :: .double x :: st) := fun T locs vm0 X A hZ N B eT => by
  obtain ⟨s₂, o, hs, r⟩ := hr T locs vm0 X A hZ N B eT
  exact ⟨s₂, o, XS.daddS X.here K.exec rfl (hb K.kb hd) rfl hn hv hs, r⟩
theorem dsub {x y v : UInt64} (K : Ok κ l Z n0 own nm bytes maxL ret rm Q) (hd : decode bytes pc = .ok (.dsub, 1)) (hn : Jvm.Free.Fl.NoNaN64 (FP.dsub x y)) (hv : FP.dsub x y = v) (hr : Go κ h cells slots (pc + 1) Ls (.double v :: st)) : Go κ h cells slots pc Ls (.double y :: .double x :: st) := fun T locs vm0 X A hZ N B eT => by
  obtain ⟨s₂, o, hs, r⟩ := hr T locs vm0 X A hZ N B eT
  exact ⟨s₂, o, XS.dsubS X.here K.exec rfl (hb K.kb hd) rfl hn hv hs, r⟩
theorem dmul {x y v : UInt64} (K : Ok κ l Z n0 own nm bytes maxL ret rm Q) (hd : decode bytes pc = .ok (.dmul, 1)) (hn : Jvm.Free.Fl.NoNaN64 (FP.dmul x y)) (hv : FP.dmul x y = v) (hr : Go κ h cells slots (pc + 1) Ls (.double v :: st)) : Go κ h cells slots pc Ls (.double y :: .double x :: st) := fun T locs vm0 X A hZ N B eT => by
  obtain ⟨s₂, o, hs, r⟩ := hr T locs vm0 X A hZ N B eT
  exact ⟨s₂, o, XS.dmulS X.here K.exec rfl (hb K.kb hd) rfl hn hv hs, r⟩
theorem dreturn (K : Ok κ l Z n0 own nm bytes maxL (some .double) rm Q) {z : UInt64} (hd : decode bytes pc = .ok (.dreturn, 1)) (hq : Q (some (.double z)) h) (hc : cells ≤ rm.cells) (hs : slots ≤ rm.slots) : Go κ h cells slots pc Ls (.double z :: st) :=
  retOf K hd rfl (Or.inr (Or.inr (Or.inl ⟨rfl, rfl, z, rfl⟩))) hq hc hs
end DLaws
end Jvm.OwnKit
namespace Jvm.OwnFP
open Jvm.FP.Core
/-! The value of a double in units of 2^-1074, and what add, sub, mul do to it. -/
def DV (d : Datum) (n : Int) : Prop := match d with
  | .fin s c q => -1074 ≤ q ∧ signed s (c * 2 ^ (q + 1074).toNat) = n
  | _ => False
def FV (a : UInt64) (n : Int) : Prop := DV (val64 a) n
/-- a whole number rounded to 53 binary digits, ties to even -/
def Rf (n : Nat) : Nat := nearest n (2 ^ (n.log2 - 52)) * 2 ^ (n.log2 - 52)
def rd (z : Int) : Int := if z < 0 then -(Rf z.natAbs : Int) else Rf z.natAbs
theorem Rf_zero : Rf 0 = 0 := by decide
theorem rd_signed (s : Bool) (n : Nat) : rd (signed s n) = signed s (Rf n) := by
  cases s with
  | false =>
    show (if (n : Int) < 0 then -(Rf (n : Int).natAbs : Int) else (Rf (n : Int).natAbs : Int)) = (Rf n : Int)
    rw [if_neg (by omega), Int.natAbs_natCast]
  | true =>
    show (if -(n : Int) < 0 then -(Rf (-(n : Int)).natAbs : Int) else (Rf (-(n : Int)).natAbs : Int)) = -(Rf n : Int)
    rw [Int.natAbs_neg, Int.natAbs_natCast]
    rcases Nat.eq_zero_or_pos n with rfl | h
    · simp [Rf_zero]
    · rw [if_pos (by omega)]
theorem qmin64 : b64.qmin = -1074 := by decide
theorem qmax64 : b64.qmax = 971 := by decide
theorem round_qmin (s : Bool) (n : Nat) (h : n.log2 ≤ 2096) : DV (round b64 (.fin s n (-1074))) (signed s (Rf n)) := by
  rcases Nat.eq_zero_or_pos n with rfl | hn
  · show DV (roundRatio b64 s 0 1 (-1074)) _
    unfold roundRatio
    rw [if_pos rfl, qmin64, Rf_zero]
    refine ⟨Int.le_refl _, ?_⟩
    simp
  · show DV (roundRatio b64 s n 1 (-1074)) _
    unfold roundRatio
    rw [if_neg (by omega)]
    have hle := Nat.log2_self_le (n := n) (by omega)
    have hlt := Nat.lt_log2_self (n := n)
    have hq : quantum b64 n 1 (-1074) = -1074 + ((n.log2 - 52 : Nat) : Int) := by
      refine quantum_eq hn (by decide) (by rw [qmin64]; omega) ?_ ?_
      · unfold Below
        rw [show (-(-1074 + ((n.log2 - 52 : Nat) : Int) - -1074 + ((b64.p : Nat) : Int))).toNat = 0 by show (-(-1074 + ((n.log2 - 52 : Nat) : Int) - -1074 + ((53 : Nat) : Int))).toNat = 0; omega, show (-1074 + ((n.log2 - 52 : Nat) : Int) - -1074 + ((b64.p : Nat) : Int)).toNat = n.log2 - 52 + 53 by show (-1074 + ((n.log2 - 52 : Nat) : Int) - -1074 + ((53 : Nat) : Int)).toNat = _; omega]
        have := Nat.pow_le_pow_right (n := 2) (by decide) (show n.log2 + 1 ≤ n.log2 - 52 + 53 by omega)
        omega
      · rcases Nat.lt_or_ge 52 n.log2 with h1 | h1
        · right
          unfold Below
          rw [show (-(-1074 + ((n.log2 - 52 : Nat) : Int) - -1074 + (((b64.p : Nat) : Int) - 1))).toNat = 0 by show (-(-1074 + ((n.log2 - 52 : Nat) : Int) - -1074 + (((53 : Nat) : Int) - 1))).toNat = 0; omega, show (-1074 + ((n.log2 - 52 : Nat) : Int) - -1074 + (((b64.p : Nat) : Int) - 1)).toNat = n.log2 by show (-1074 + ((n.log2 - 52 : Nat) : Int) - -1074 + (((53 : Nat) : Int) - 1)).toNat = _; omega]
          omega
        · left
          rw [qmin64]; omega
    rw [hq]
    unfold roundAt unitsNum unitsDen
    rw [show (-1074 - (-1074 + ((n.log2 - 52 : Nat) : Int))).toNat = 0 by omega, show (-1074 + ((n.log2 - 52 : Nat) : Int) - -1074).toNat = n.log2 - 52 by omega, Nat.pow_zero, Nat.mul_one, Nat.one_mul]
    have hm : nearest n (2 ^ (n.log2 - 52)) ≤ 2 ^ b64.p := by
      refine nearest_le (Nat.two_pow_pos _) ?_
      show n ≤ 2 ^ 53 * 2 ^ (n.log2 - 52)
      rw [← Nat.pow_add]
      have := Nat.pow_le_pow_right (n := 2) (by decide) (show n.log2 + 1 ≤ 53 + (n.log2 - 52) by omega)
      omega
    have key : ∃ c q, settle b64 s (nearest n (2 ^ (n.log2 - 52))) (-1074 + ((n.log2 - 52 : Nat) : Int)) = .fin s c q ∧ -1074 ≤ q := by
      unfold settle bound
      rw [qmax64]
      split
      · rw [if_pos (by omega)]; exact ⟨_, _, rfl, by omega⟩
      · rw [if_pos (by omega)]; exact ⟨_, _, rfl, by omega⟩
    obtain ⟨c, q, e1, e2⟩ := key
    have v := (settle_value good_b64 (e0 := -1074) hm e1 (by omega)).2
    rw [e1]
    refine ⟨e2, ?_⟩
    unfold inUnits at v
    rw [show q - -1074 = q + 1074 by omega, show (-1074 + ((n.log2 - 52 : Nat) : Int) - -1074).toNat = n.log2 - 52 by omega] at v
    rw [v]; rfl
theorem round_dv {d : Datum} {n : Int} (h : DV d n) (hb : n.natAbs.log2 ≤ 2096) : DV (round b64 d) (rd n) := by
  cases d with
  | nan => exact h.elim
  | inf s => exact h.elim
  | fin s c q =>
    obtain ⟨h1, h2⟩ := h
    have e := round_inUnits (f := b64) s c (q := q) (e := -1074) h1
    rw [← e]
    have e2 : inUnits c q (-1074) = c * 2 ^ (q + 1074).toNat := by unfold inUnits; rw [show q - -1074 = q + 1074 by omega]
    rw [e2]
    have e3 : n.natAbs = c * 2 ^ (q + 1074).toNat := by rw [← h2, natAbs_signed]
    have r := round_qmin s (c * 2 ^ (q + 1074).toNat) (by rw [← e3]; exact hb)
    rw [← rd_signed, h2] at r
    exact r
theorem dv_sum {x y : Datum} {a b : Int} (hx : DV x a) (hy : DV y b) : DV (exactSum x y) (a + b) := by
  cases x with
  | nan => exact hx.elim
  | inf => exact hx.elim
  | fin s c q =>
  cases y with
  | nan => exact hy.elim
  | inf => exact hy.elim
  | fin t d r =>
    obtain ⟨h1, h2⟩ := hx
    obtain ⟨g1, g2⟩ := hy
    refine ⟨by omega, ?_⟩
    rw [signed_mul, signed_sumSign]
    unfold sumUnits inUnits
    rw [Int.add_mul, ← signed_mul, ← signed_mul, Nat.mul_assoc, Nat.mul_assoc, ← Nat.pow_add, ← Nat.pow_add, show (q - min q r).toNat + (min q r + 1074).toNat = (q + 1074).toNat by omega, show (r - min q r).toNat + (min q r + 1074).toNat = (r + 1074).toNat by omega, h2, g2]
theorem dv_neg {x : Datum} {a : Int} (hx : DV x a) : DV (negate x) (-a) := by
  cases x with
  | nan => exact hx.elim
  | inf => exact hx.elim
  | fin s c q =>
    obtain ⟨h1, h2⟩ := hx
    refine ⟨h1, ?_⟩
    rw [← h2]
    cases s <;> simp [signed]
theorem fv_add {a b : UInt64} {x y : Int} (ha : FV a x) (hb : FV b y) (h : (x + y).natAbs.log2 ≤ 2096) : FV (dadd a b) (rd (x + y)) := by
  unfold FV
  rw [val64_dadd]
  exact round_dv (dv_sum ha hb) h
theorem fv_sub {a b : UInt64} {x y : Int} (ha : FV a x) (hb : FV b y) (h : (x - y).natAbs.log2 ≤ 2096) : FV (dsub a b) (rd (x - y)) := by
  unfold FV
  rw [val64_dsub]
  exact round_dv (dv_sum ha (dv_neg hb)) h
theorem fv_mul {a b : UInt64} {A : Int} {u : Nat} (ha : FV a (A * ((2 ^ 1074 : Nat) : Int))) (hb : FV b ((2 ^ u : Nat) : Int)) (h : (A * ((2 ^ u : Nat) : Int)).natAbs.log2 ≤ 2096) : FV (dmul a b) (rd (A * ((2 ^ u : Nat) : Int))) := by
  unfold FV at *
  rw [val64_dmul]
  cases hx : val64 a with
  | nan => rw [hx] at ha; exact ha.elim
  | inf => rw [hx] at ha; exact ha.elim
  | fin s c q =>
  cases hy : val64 b with
  | nan => rw [hy] at hb; exact hb.elim
  | inf => rw [hy] at hb; exact hb.elim
  | fin t d r =>
    rw [hx] at ha
    rw [hy] at hb
    obtain ⟨h1, h2⟩ := ha
    obtain ⟨g1, g2⟩ := hb
    have p2 : 0 < 2 ^ u := Nat.two_pow_pos u
    have hd : d * 2 ^ (r + 1074).toNat = 2 ^ u := by
      have q := natAbs_signed t (d * 2 ^ (r + 1074).toNat)
      rw [g2] at q
      exact q.symm
    have ht : t = false := by
      cases t with
      | false => rfl
      | true =>
        exfalso
        rw [hd] at g2
        simp only [signed, if_true] at g2
        have : (0 : Int) < ((2 ^ u : Nat) : Int) := by exact_mod_cast p2
        omega
    subst ht
    have hc : c * 2 ^ (q + 1074).toNat = A.natAbs * 2 ^ 1074 := by
      have z := natAbs_signed s (c * 2 ^ (q + 1074).toNat)
      rw [h2, Int.natAbs_mul] at z
      exact z.symm
    show DV (roundRatio b64 (s != false) (c * d) 1 (q + r)) _
    have hs : (s != false) = s := by cases s <;> rfl
    rw [hs]
    have e : roundRatio b64 s (c * d) 1 (q + r) = roundRatio b64 s (A.natAbs * 2 ^ u) 1 (-1074) := by
      refine roundRatio_congr (by decide) (by decide) ?_
      rw [Nat.mul_one, Nat.mul_one]
      generalize hQ : (q + 1074).toNat = Q at *
      generalize hR : (r + 1074).toNat = R at *
      rw [show (q + r - -1074).toNat = Q + R - 1074 by omega, show (-1074 - (q + r)).toNat = 1074 - (Q + R) by omega]
      have z : c * d * 2 ^ (Q + R) = A.natAbs * 2 ^ u * 2 ^ 1074 := by
        rw [Nat.pow_add, Nat.mul_mul_mul_comm, hc, hd, Nat.mul_right_comm]
      generalize A.natAbs * 2 ^ u = W at *
      generalize c * d = V at *
      rcases Nat.le_total 1074 (Q + R) with hh | hh
      · rw [show 1074 - (Q + R) = 0 by omega, Nat.pow_zero, Nat.mul_one]
        have z2 : V * 2 ^ (Q + R - 1074) * 2 ^ 1074 = W * 2 ^ 1074 := by rw [Nat.mul_assoc, ← Nat.pow_add, show Q + R - 1074 + 1074 = Q + R by omega]; exact z
        exact Nat.eq_of_mul_eq_mul_right (Nat.two_pow_pos 1074) z2
      · rw [show Q + R - 1074 = 0 by omega, Nat.pow_zero, Nat.mul_one]
        have z2 : V * 2 ^ (Q + R) = W * 2 ^ (1074 - (Q + R)) * 2 ^ (Q + R) := by rw [Nat.mul_assoc, ← Nat.pow_add, show 1074 - (Q + R) + (Q + R) = 1074 by omega]; exact z
        exact Nat.eq_of_mul_eq_mul_right (Nat.two_pow_pos _) z2
    rw [e]
    have hn : (A * ((2 ^ u : Nat) : Int)).natAbs = A.natAbs * 2 ^ u := by rw [Int.natAbs_mul]; rfl
    have r0 := round_qmin s (A.natAbs * 2 ^ u) (by rw [← hn]; exact h)
    have e4 : signed s (A.natAbs * 2 ^ u) = A * ((2 ^ u : Nat) : Int) := by
      rw [signed_mul]
      congr 1
      have z := h2
      rw [hc, signed_mul] at z
      exact Int.eq_of_mul_eq_mul_right (by have := Nat.two_pow_pos 1074; omega) z
    rw [← rd_signed, e4] at r0
    exact r0
theorem fv_l2d (z : Int64) : FV (l2d z) (rd (z.toInt * ((2 ^ 1074 : Nat) : Int))) := by
  unfold FV
  rw [val64_l2d]
  have hz : z.toInt.natAbs < 2 ^ 64 := by have := z.toInt_lt; have := z.le_toInt; omega
  have d : DV (ofInt z.toInt) (z.toInt * ((2 ^ 1074 : Nat) : Int)) := by
    refine ⟨by omega, ?_⟩
    rw [signed_mul]
    congr 1
    unfold signed
    by_cases h : z.toInt < 0 <;> simp [h] <;> omega
  refine round_dv d ?_
  rw [Int.natAbs_mul]
  have : (z.toInt.natAbs * 2 ^ 1074) < 2 ^ 1138 := by
    rw [show (1138 : Nat) = 64 + 1074 from rfl, Nat.pow_add]
    exact Nat.mul_lt_mul_of_pos_right hz (Nat.two_pow_pos 1074)
  rcases Nat.eq_zero_or_pos (z.toInt.natAbs * 2 ^ 1074) with h0 | h0
  · show (z.toInt.natAbs * 2 ^ 1074).log2 ≤ 2096
    rw [h0]; decide
  · show (z.toInt.natAbs * 2 ^ 1074).log2 ≤ 2096
    have q := (Nat.log2_lt (by omega)).mpr this
    omega
theorem fv_d2l {a : UInt64} {S : Int} (h : FV a (S * ((2 ^ 1074 : Nat) : Int))) (h1 : -9223372036854775808 ≤ S) (h2 : S ≤ 9223372036854775807) : (d2l a).toInt = S := by
  have w : Whole S (val64 a) := by
    unfold FV at h
    cases hx : val64 a with
    | nan => rw [hx] at h; exact h.elim
    | inf => rw [hx] at h; exact h.elim
    | fin s c q =>
      rw [hx] at h
      obtain ⟨g1, g2⟩ := h
      show signed s (c * 2 ^ q.toNat) = S * ((2 ^ (-q).toNat : Nat) : Int)
      have p : ((2 ^ 1074 : Nat) : Int) ≠ 0 := by have := Nat.two_pow_pos 1074; omega
      refine Int.eq_of_mul_eq_mul_right p ?_
      rw [← signed_mul, Int.mul_right_comm, ← g2, ← signed_mul, Nat.mul_assoc, Nat.mul_assoc, ← Nat.pow_add, ← Nat.pow_add, show q.toNat + 1074 = (q + 1074).toNat + (-q).toNat by omega]
  show (Int64.ofInt (toInt (-2 ^ 63) (2 ^ 63 - 1) (val64 a))).toInt = S
  rw [toInt_whole w (by omega) (by omega), Int64.toInt_ofInt_of_le (by omega) (by omega)]
theorem fv_eq {a b : UInt64} {n : Int} (ha : FV a n) (hb : FV b n) : dcmp a b = some .eq := by
  unfold FV at *
  show order (val64 a) (val64 b) = _
  cases hx : val64 a with
  | nan => rw [hx] at ha; exact ha.elim
  | inf => rw [hx] at ha; exact ha.elim
  | fin s c q =>
  cases hy : val64 b with
  | nan => rw [hy] at hb; exact hb.elim
  | inf => rw [hy] at hb; exact hb.elim
  | fin t d r =>
    rw [hx] at ha
    rw [hy] at hb
    obtain ⟨h1, h2⟩ := ha
    obtain ⟨g1, g2⟩ := hb
    have e : signed s (inUnits c q (min q r)) = signed t (inUnits d r (min q r)) := by
      have p : ((2 ^ (min q r + 1074).toNat : Nat) : Int) ≠ 0 := by have := Nat.two_pow_pos (min q r + 1074).toNat; omega
      refine Int.eq_of_mul_eq_mul_right p ?_
      unfold inUnits
      rw [← signed_mul, ← signed_mul, Nat.mul_assoc, Nat.mul_assoc, ← Nat.pow_add, ← Nat.pow_add, show (q - min q r).toNat + (min q r + 1074).toNat = (q + 1074).toNat by omega, show (r - min q r).toNat + (min q r + 1074).toNat = (r + 1074).toNat by omega, h2, g2]
    show some (compare (signed s (inUnits c q (min q r))) (signed t (inUnits d r (min q r)))) = _
    rw [e, compare_self_int]
theorem fvn {a : UInt64} {n : Int} (h : FV a n) : Jvm.Free.Fl.NoNaN64 a := by
  refine Jvm.Free.Fl.noNaN64_no.mpr ?_
  cases e : dIsNaN a with
  | false => rfl
  | true =>
    unfold FV at h
    rw [(dIsNaN_iff a).mp e] at h
    exact h.elim
/-- none of the numbers on the way of 'sumError' is a NaN -/
def SE (a b s : UInt64) : Prop := Jvm.Free.Fl.NoNaN64 (dsub s a) ∧ Jvm.Free.Fl.NoNaN64 (dsub s (dsub s a)) ∧ Jvm.Free.Fl.NoNaN64 (dsub a (dsub s (dsub s a))) ∧ Jvm.Free.Fl.NoNaN64 (dsub b (dsub s a)) ∧ Jvm.Free.Fl.NoNaN64 (dadd (dsub a (dsub s (dsub s a))) (dsub b (dsub s a)))
/-- what 'sumError' gives -/
def seV (a b s : UInt64) : UInt64 := dadd (dsub a (dsub s (dsub s a))) (dsub b (dsub s a))
/-! rounding on whole numbers -/
def Rep (n : Nat) : Prop := ∃ x k, n = x * 2 ^ k ∧ x ≤ 9007199254740992
theorem Rf_of_dvd {n m : Nat} (h : n = m * 2 ^ (n.log2 - 52)) : Rf n = n := by
  have q := nearest_exact (B := 2 ^ (n.log2 - 52)) m (Nat.two_pow_pos _)
  unfold Rf
  rw [← h] at q
  rw [q]; exact h.symm
theorem Rf_rep {n : Nat} (h : Rep n) : Rf n = n := by
  obtain ⟨x, k, e, hx⟩ := h
  rcases Nat.eq_zero_or_pos n with rfl | hn
  · exact Rf_zero
  have hle := Nat.log2_self_le (n := n) (by omega)
  have hx0 : n ≤ 2 ^ (53 + k) := by
    rw [e, Nat.pow_add]
    exact Nat.mul_le_mul_right _ (by omega)
  have hl : n.log2 ≤ 53 + k := (Nat.pow_le_pow_iff_right (a := 2) (by decide)).mp (Nat.le_trans hle hx0)
  rcases Nat.lt_or_ge n.log2 (53 + k) with h1 | h1
  · refine Rf_of_dvd (m := x * 2 ^ (k - (n.log2 - 52))) ?_
    rw [Nat.mul_assoc, ← Nat.pow_add, show k - (n.log2 - 52) + (n.log2 - 52) = k by omega]
    exact e
  · have h2 : n.log2 = 53 + k := by omega
    have h3 : n = 2 ^ (53 + k) := by rw [h2] at hle; omega
    refine Rf_of_dvd (m := 2 ^ 52) ?_
    rw [h2, ← Nat.pow_add, show 52 + (53 + k - 52) = 53 + k by omega]
    exact h3
theorem log2_shift {n u : Nat} (h : 0 < n) : (n * 2 ^ u).log2 = n.log2 + u := by
  have h1 := Nat.log2_self_le (n := n) (by omega)
  have h2 := Nat.lt_log2_self (n := n)
  have p := Nat.two_pow_pos u
  have hz : n * 2 ^ u ≠ 0 := Nat.mul_ne_zero (by omega) (by omega)
  refine (Nat.log2_eq_iff hz).mpr ⟨?_, ?_⟩
  · rw [Nat.pow_add]; exact Nat.mul_le_mul_right _ h1
  · rw [show n.log2 + u + 1 = n.log2 + 1 + u by omega, Nat.pow_add]; exact Nat.mul_lt_mul_of_pos_right h2 p
theorem Rf_scale (n u : Nat) : Rf (n * 2 ^ u) = Rf n * 2 ^ u := by
  rcases Nat.eq_zero_or_pos n with rfl | hn
  · simp [Rf_zero]
  rcases Nat.lt_or_ge n.log2 52 with h1 | h1
  · have hn53 : n ≤ 9007199254740992 := by
      have h2 := Nat.lt_log2_self (n := n)
      have := Nat.pow_le_pow_right (n := 2) (by decide) (show n.log2 + 1 ≤ 53 by omega)
      omega
    rw [Rf_rep ⟨n, u, rfl, hn53⟩, Rf_rep (n := n) ⟨n, 0, by simp, hn53⟩]
  · unfold Rf
    rw [log2_shift hn, show n.log2 + u - 52 = n.log2 - 52 + u by omega, Nat.pow_add, nearest_scale _ _ _ (Nat.two_pow_pos u), Nat.mul_assoc]
theorem Rf_near (n : Nat) : 2 * n ≤ 2 * Rf n + 2 ^ (n.log2 - 52) ∧ 2 * Rf n ≤ 2 * n + 2 ^ (n.log2 - 52) := by
  obtain ⟨h1, h2, -⟩ := nearest_spec n (2 ^ (n.log2 - 52)) (Nat.two_pow_pos _)
  unfold Rf
  rw [Nat.add_mul, Nat.one_mul, Nat.mul_assoc] at h1
  rw [Nat.mul_assoc] at h2
  exact ⟨h1, h2⟩
theorem Rf_even {n : Nat} (h : 9007199254740992 ≤ n) : Rf n % 2 = 0 := by
  have hl : 53 ≤ n.log2 := (Nat.le_log2 (by omega)).mpr (by omega)
  unfold Rf
  rw [show n.log2 - 52 = (n.log2 - 53) + 1 by omega, Nat.pow_succ, ← Nat.mul_assoc, Nat.mul_mod_left]
/-! the same with a sign -/
def RepI (z : Int) : Prop := Rep z.natAbs
theorem rd_rep {z : Int} (h : RepI z) : rd z = z := by
  unfold rd
  rw [Rf_rep h]
  split <;> omega
theorem rd_abs (z : Int) : (rd z).natAbs = Rf z.natAbs := by
  unfold rd
  split <;> omega
theorem rd_scale (z : Int) (u : Nat) : rd (z * ((2 ^ u : Nat) : Int)) = rd z * ((2 ^ u : Nat) : Int) := by
  have p : (0 : Int) < ((2 ^ u : Nat) : Int) := by have := Nat.two_pow_pos u; omega
  have e : (z * ((2 ^ u : Nat) : Int)).natAbs = z.natAbs * 2 ^ u := by rw [Int.natAbs_mul]; rfl
  unfold rd
  rw [e, Rf_scale]
  rcases Int.lt_or_le z 0 with h | h
  · rw [if_pos h, if_pos (Int.mul_neg_of_neg_of_pos h p), Int.natCast_mul, Int.neg_mul]
  · rw [if_neg (show ¬ z < 0 by omega), if_neg (Int.not_lt.mpr (Int.mul_nonneg h (Int.le_of_lt p))), Int.natCast_mul]
theorem repI_small {z : Int} (h : z.natAbs ≤ 9007199254740992) : RepI z := ⟨z.natAbs, 0, by simp, h⟩
theorem repI_even {z : Int} (h : z.natAbs ≤ 18014398509481984) (h2 : z % 2 = 0) : RepI z := ⟨z.natAbs / 2, 1, by omega, by omega⟩
theorem rd_near {z : Int} (h : z.natAbs < 9223372036854775808) : (z - rd z).natAbs ≤ 512 := by
  have q := Rf_near z.natAbs
  have hw : 2 ^ (z.natAbs.log2 - 52) ≤ 1024 := by
    rcases Nat.eq_zero_or_pos z.natAbs with h0 | h0
    · rw [h0]; decide
    · have hl := (Nat.log2_lt (n := z.natAbs) (k := 63) (by omega)).mpr (by omega)
      have := Nat.pow_le_pow_right (n := 2) (by decide) (show z.natAbs.log2 - 52 ≤ 10 by omega)
      omega
  unfold rd
  split <;> omega
theorem rd_near1 {z : Int} (h : z.natAbs < 18014398509481984) : (z - rd z).natAbs ≤ 1 := by
  have q := Rf_near z.natAbs
  have hw : 2 ^ (z.natAbs.log2 - 52) ≤ 2 := by
    rcases Nat.eq_zero_or_pos z.natAbs with h0 | h0
    · rw [h0]; decide
    · have hl := (Nat.log2_lt (n := z.natAbs) (k := 54) (by omega)).mpr (by omega)
      have := Nat.pow_le_pow_right (n := 2) (by decide) (show z.natAbs.log2 - 52 ≤ 1 by omega)
      omega
  unfold rd
  split <;> omega
theorem rd_even {z : Int} (h : 9007199254740992 ≤ z.natAbs) : rd z % 2 = 0 := by
  have q := Rf_even h
  unfold rd
  split <;> omega
/-- the sum's error by the way of 'sumError', the larger operand first -/
theorem two1 {A B x : Int} {j : Nat} (hA : A = x * ((2 ^ j : Nat) : Int)) (hx : x.natAbs < 9007199254740992) (hB : B.natAbs < 9007199254740992) (hs : (A + B).natAbs < 9223372036854775808) : RepI (rd (A + B) - A) := by
  have hd := rd_near hs
  rcases Nat.eq_zero_or_pos j with rfl | hj
  · have hA' : A = x := by simpa using hA
    have hn : (A + B).natAbs < 18014398509481984 := by omega
    have h1 := rd_near1 hn
    exact repI_small (by omega)
  · rcases Nat.lt_or_ge (A + B).natAbs 9007199254740992 with h1 | h1
    · rw [rd_rep (repI_small (z := A + B) (by omega))]
      exact repI_small (by omega)
    · have e := rd_even h1
      have eA : A % 2 = 0 := by
        rw [hA, show j = (j - 1) + 1 by omega, Nat.pow_succ, Int.natCast_mul, ← Int.mul_assoc]
        exact Int.mul_emod_left _ _
      refine repI_even (by omega) (by omega)
/-- the smaller operand first -/
theorem two2 {A B : Int} (hA : RepI A) (hB : B.natAbs < 9007199254740992) (hs : (A + B).natAbs < 9223372036854775808) (hs2 : (rd (A + B) - B).natAbs < 9223372036854775808) : RepI (rd (A + B) - rd (rd (A + B) - B)) := by
  have hd := rd_near hs
  have he := rd_near hs2
  rcases Nat.lt_or_ge (rd (A + B) - B).natAbs 9007199254740992 with h1 | h1
  · rw [rd_rep (repI_small (z := rd (A + B) - B) (by omega))]
    exact repI_small (by omega)
  · have e2 := rd_even h1
    rcases Nat.lt_or_ge (A + B).natAbs 9007199254740993 with h2 | h2
    · have e3 := rd_rep (repI_small (z := A + B) (by omega))
      rw [e3] at *
      rw [show A + B - B = A by omega] at *
      rw [rd_rep hA, show A + B - A = B by omega]
      exact repI_small (by omega)
    · have e4 := rd_even (z := A + B) (by omega)
      exact repI_even (by omega) (by omega)
theorem log_bound {N : Int} {u : Nat} (h : N.natAbs < 9223372036854775808) (hu : u ≤ 2034) : (N * ((2 ^ u : Nat) : Int)).natAbs.log2 ≤ 2096 := by
  have e : (N * ((2 ^ u : Nat) : Int)).natAbs = N.natAbs * 2 ^ u := by rw [Int.natAbs_mul]; rfl
  rw [e]
  rcases Nat.eq_zero_or_pos N.natAbs with h0 | h0
  · rw [h0, Nat.zero_mul]; decide
  · rw [log2_shift h0]
    have := (Nat.log2_lt (n := N.natAbs) (k := 63) (by omega)).mpr (by omega)
    omega
theorem addU {u : Nat} (hu : u ≤ 2034) {a b : UInt64} {X Y : Int} (ha : FV a (X * ((2 ^ u : Nat) : Int))) (hb : FV b (Y * ((2 ^ u : Nat) : Int))) (h : (X + Y).natAbs < 9223372036854775808) : FV (dadd a b) (rd (X + Y) * ((2 ^ u : Nat) : Int)) := by
  rw [← rd_scale, Int.add_mul]
  exact fv_add ha hb (by rw [← Int.add_mul]; exact log_bound h hu)
theorem subU {u : Nat} (hu : u ≤ 2034) {a b : UInt64} {X Y : Int} (ha : FV a (X * ((2 ^ u : Nat) : Int))) (hb : FV b (Y * ((2 ^ u : Nat) : Int))) (h : (X - Y).natAbs < 9223372036854775808) : FV (dsub a b) (rd (X - Y) * ((2 ^ u : Nat) : Int)) := by
  rw [← rd_scale, Int.sub_mul]
  exact fv_sub ha hb (by rw [← Int.sub_mul]; exact log_bound h hu)
theorem mulU {u : Nat} (hu : u ≤ 2034) {a b : UInt64} {A : Int} (ha : FV a (A * ((2 ^ 1074 : Nat) : Int))) (hb : FV b ((2 ^ u : Nat) : Int)) (h : A.natAbs < 9223372036854775808) : FV (dmul a b) (rd A * ((2 ^ u : Nat) : Int)) := by
  rw [← rd_scale]
  exact fv_mul ha hb (log_bound h hu)
theorem got1 {u : Nat} (hu : u ≤ 2034) {a b : UInt64} {A B x : Int} {j : Nat} (ha : FV a (A * ((2 ^ u : Nat) : Int))) (hb : FV b (B * ((2 ^ u : Nat) : Int))) (hA : A = x * ((2 ^ j : Nat) : Int)) (hx : x.natAbs < 9007199254740992) (hB : B.natAbs < 9007199254740992) (hAb : A.natAbs ≤ 4611686018427387904) :
    Jvm.Free.Fl.NoNaN64 (dadd a b) ∧ SE a b (dadd a b) ∧ FV (seV a b (dadd a b)) ((A + B - rd (A + B)) * ((2 ^ u : Nat) : Int)) := by
  unfold SE seV
  have hs : (A + B).natAbs < 9223372036854775808 := by omega
  have hd := rd_near hs
  have repA : RepI A := ⟨x.natAbs, j, by rw [hA, Int.natAbs_mul]; rfl, by omega⟩
  have s := addU hu ha hb hs
  generalize dadd a b = sv at *
  have bb := subU hu s ha (by omega)
  rw [rd_rep (two1 hA hx hB hs)] at bb
  generalize dsub sv a = bv at *
  have t1 := subU hu s bb (by omega)
  rw [show rd (A + B) - (rd (A + B) - A) = A by omega, rd_rep repA] at t1
  have t2 := subU hu ha t1 (by omega)
  rw [show A - A = 0 by omega, rd_rep (repI_small (z := 0) (by decide))] at t2
  have t3 := subU hu hb bb (by omega)
  rw [rd_rep (repI_small (z := B - (rd (A + B) - A)) (by omega))] at t3
  have r := addU hu t2 t3 (by omega)
  rw [rd_rep (repI_small (z := 0 + (B - (rd (A + B) - A))) (by omega)), show 0 + (B - (rd (A + B) - A)) = A + B - rd (A + B) by omega] at r
  exact ⟨fvn s, ⟨fvn bb, fvn t1, fvn t2, fvn t3, fvn r⟩, r⟩
theorem got2 {u : Nat} (hu : u ≤ 2034) {a b : UInt64} {A B x : Int} {j : Nat} (ha : FV a (A * ((2 ^ u : Nat) : Int))) (hb : FV b (B * ((2 ^ u : Nat) : Int))) (hA : A = x * ((2 ^ j : Nat) : Int)) (hx : x.natAbs < 9007199254740992) (hB : B.natAbs < 9007199254740992) (hAb : A.natAbs ≤ 4611686018427387904) :
    Jvm.Free.Fl.NoNaN64 (dadd b a) ∧ SE b a (dadd b a) ∧ FV (seV b a (dadd b a)) ((A + B - rd (A + B)) * ((2 ^ u : Nat) : Int)) := by
  unfold SE seV
  have hs : (A + B).natAbs < 9223372036854775808 := by omega
  have hd := rd_near hs
  have repA : RepI A := ⟨x.natAbs, j, by rw [hA, Int.natAbs_mul]; rfl, by omega⟩
  have s := addU hu hb ha (by omega)
  rw [show B + A = A + B by omega] at s
  generalize dadd b a = sv at *
  have hs2 : (rd (A + B) - B).natAbs < 9223372036854775808 := by omega
  have he := rd_near hs2
  have bb := subU hu s hb hs2
  generalize dsub sv b = bv at *
  have w2 := two2 repA hB hs hs2
  generalize rd (rd (A + B) - B) = W at *
  generalize rd (A + B) = S at *
  have t1 := subU hu s bb (by omega)
  rw [rd_rep w2] at t1
  have t2 := subU hu hb t1 (by omega)
  rw [rd_rep (repI_small (z := B - (S - W)) (by omega))] at t2
  have t3 := subU hu ha bb (by omega)
  rw [rd_rep (repI_small (z := A - W) (by omega))] at t3
  have r := addU hu t2 t3 (by omega)
  rw [rd_rep (repI_small (z := B - (S - W) + (A - W)) (by omega)), show B - (S - W) + (A - W) = A + B - S by omega] at r
  exact ⟨fvn s, ⟨fvn bb, fvn t1, fvn t2, fvn t3, fvn r⟩, r⟩
theorem fv_one : FV 4607182418800017408 ((2 ^ 1074 : Nat) : Int) := ⟨by decide, by decide +kernel⟩
theorem fv_c1 : FV 1 ((2 ^ 0 : Nat) : Int) := ⟨by decide, by decide +kernel⟩
theorem fv_c2 : FV 2188749418902061056 ((2 ^ 537 : Nat) : Int) := ⟨by decide, by decide +kernel⟩
theorem fv_c3 : FV 8930638061075693568 ((2 ^ 2034 : Nat) : Int) := ⟨by decide, by decide +kernel⟩
theorem fv_c4 : FV 103582791429521408 ((2 ^ 74 : Nat) : Int) := ⟨by decide, by decide +kernel⟩
theorem fv_int {z : Int64} (h : RepI z.toInt) : FV (l2d z) (z.toInt * ((2 ^ 1074 : Nat) : Int)) := by
  have q := fv_l2d z
  rw [rd_scale, rd_rep h] at q
  exact q
theorem own_lrem {p x : Int64} (h : p % 9007199254740992 = x) : x.toInt.natAbs < 9007199254740992 := by
  have q := Jvm.RoadKit.c_lrem p 9007199254740992 9007199254740992 (by decide)
  rw [Jvm.RoadKit.lrem_mod, h] at q
  omega
theorem own_jr {k j : Int32} (h : (k &&& 15) % 10 = j) : 0 ≤ j.toInt ∧ j.toInt ≤ 9 := by
  have q := Jvm.RoadKit.c_and k 15 (by decide)
  have r := (Jvm.RoadKit.c_irem (k &&& 15) 10 10 (by decide)).1 (by omega)
  rw [h] at r
  omega
theorem own_shl {x A : Int64} {j : Int32} (hx : x.toInt.natAbs < 9007199254740992) (h0 : 0 ≤ j.toInt) (h9 : j.toInt ≤ 9) (h : x <<< (j.toInt64 &&& 63) = A) : A.toInt = x.toInt * ((2 ^ j.toInt.toNat : Nat) : Int) := by
  have hj : j = Int32.ofNat j.toInt.toNat := by
    rw [← Int32.toInt_inj, Int32.toInt_ofNat_of_lt (by omega)]; omega
  obtain ⟨n, hn⟩ : ∃ n, j.toInt.toNat = n := ⟨_, rfl⟩
  rw [hn] at hj ⊢
  have hn9 : n ≤ 9 := by omega
  have key : ∀ n, n ≤ 9 → (Int32.ofNat n).toInt64 &&& 63 = ((Int32.ofNat n) &&& 63).toInt64 ∧ (Int32.ofNat n).toBitVec.toNat % 64 = n ∧ 2 ^ n ≤ 512 := by decide
  obtain ⟨k1, k2, k3⟩ := key n hn9
  have q := Jvm.RoadKit.c_lshl x (Int32.ofNat n) n k2
  rw [hj, k1] at h
  have h' : x <<< (Int32.ofNat n &&& 0x3f).toInt64 = A := h
  rw [h'] at q
  have b : (x.toInt * ((2 ^ n : Nat) : Int)).natAbs ≤ 9007199254740992 * 512 := by
    rw [Int.natAbs_mul]
    exact Nat.mul_le_mul (by omega) k3
  have := A.toInt_lt
  have := A.le_toInt
  omega
theorem own_A {x y A : Int64} {j : Nat} (hA : A.toInt = x.toInt * ((2 ^ j : Nat) : Int)) (hj : j ≤ 9) (hx : x.toInt.natAbs < 9007199254740992) (hy : y.toInt.natAbs < 9007199254740992) : A.toInt.natAbs ≤ 4611686018427387904 ∧ RepI A.toInt ∧ RepI y.toInt := by
  refine ⟨?_, ⟨x.toInt.natAbs, j, by rw [hA, Int.natAbs_mul]; rfl, by omega⟩, repI_small (by omega)⟩
  rw [hA, Int.natAbs_mul]
  have p : 2 ^ j ≤ 2 ^ 9 := Nat.pow_le_pow_right (by decide) hj
  have := Nat.mul_le_mul (show x.toInt.natAbs ≤ 9007199254740992 by omega) p
  show x.toInt.natAbs * 2 ^ j ≤ _
  omega
theorem own_s {x y A : Int64} {j : Nat} (hA : A.toInt = x.toInt * ((2 ^ j : Nat) : Int)) (hj : j ≤ 9) (hx : x.toInt.natAbs < 9007199254740992) (hy : y.toInt.natAbs < 9007199254740992) : FV (dadd (l2d A) (l2d y)) (rd (A.toInt + y.toInt) * ((2 ^ 1074 : Nat) : Int)) := by
  obtain ⟨h1, h2, h3⟩ := own_A hA hj hx hy
  exact addU (by decide) (fv_int h2) (fv_int h3) (by omega)
theorem own_err {x y A : Int64} {j : Nat} (hA : A.toInt = x.toInt * ((2 ^ j : Nat) : Int)) (hj : j ≤ 9) (hx : x.toInt.natAbs < 9007199254740992) (hy : y.toInt.natAbs < 9007199254740992) : (A + y - d2l (dadd (l2d A) (l2d y))).toInt = A.toInt + y.toInt - rd (A.toInt + y.toInt) := by
  obtain ⟨h1, h2, h3⟩ := own_A hA hj hx hy
  have n := rd_near (z := A.toInt + y.toInt) (by omega)
  have d := fv_d2l (own_s hA hj hx hy) (by omega) (by omega)
  have q1 := Jvm.RoadKit.c_ladd A y
  have q2 := Jvm.RoadKit.c_lsub (A + y) (d2l (dadd (l2d A) (l2d y)))
  rw [d] at q2
  generalize (A + y - d2l (dadd (l2d A) (l2d y))) = E at *
  have := E.toInt_lt
  have := E.le_toInt
  have := (A + y).toInt_lt
  have := (A + y).le_toInt
  omega
theorem own_ab {x y A : Int64} {j : Nat} (hA : A.toInt = x.toInt * ((2 ^ j : Nat) : Int)) (hj : j ≤ 9) (hx : x.toInt.natAbs < 9007199254740992) (hy : y.toInt.natAbs < 9007199254740992) {v : UInt64} {u : Nat} (hu : u ≤ 2034) (hv : FV v ((2 ^ u : Nat) : Int)) : FV (dmul (l2d A) v) (A.toInt * ((2 ^ u : Nat) : Int)) ∧ FV (dmul (l2d y) v) (y.toInt * ((2 ^ u : Nat) : Int)) := by
  obtain ⟨h1, h2, h3⟩ := own_A hA hj hx hy
  have a := mulU hu (fv_int h2) hv (by omega)
  have b := mulU hu (fv_int h3) hv (by omega)
  rw [rd_rep h2] at a
  rw [rd_rep h3] at b
  exact ⟨a, b⟩
theorem own_ref {x y A : Int64} {j : Nat} (hA : A.toInt = x.toInt * ((2 ^ j : Nat) : Int)) (hj : j ≤ 9) (hx : x.toInt.natAbs < 9007199254740992) (hy : y.toInt.natAbs < 9007199254740992) {v : UInt64} {u : Nat} (hu : u ≤ 2034) (hv : FV v ((2 ^ u : Nat) : Int)) : FV (dmul (l2d (A + y - d2l (dadd (l2d A) (l2d y)))) v) ((A.toInt + y.toInt - rd (A.toInt + y.toInt)) * ((2 ^ u : Nat) : Int)) := by
  obtain ⟨h1, h2, h3⟩ := own_A hA hj hx hy
  have n := rd_near (z := A.toInt + y.toInt) (by omega)
  have e := own_err hA hj hx hy
  have r : RepI (A + y - d2l (dadd (l2d A) (l2d y))).toInt := by rw [e]; exact repI_small (by omega)
  have a := mulU hu (fv_int r) hv (by rw [e]; omega)
  rw [rd_rep r, e] at a
  exact a
theorem own_g1 {x y A : Int64} {j : Nat} (hA : A.toInt = x.toInt * ((2 ^ j : Nat) : Int)) (hj : j ≤ 9) (hx : x.toInt.natAbs < 9007199254740992) (hy : y.toInt.natAbs < 9007199254740992) {v : UInt64} {u : Nat} (hu : u ≤ 2034) (hv : FV v ((2 ^ u : Nat) : Int)) : Jvm.Free.Fl.NoNaN64 (dadd (dmul (l2d A) v) (dmul (l2d y) v)) ∧ SE (dmul (l2d A) v) (dmul (l2d y) v) (dadd (dmul (l2d A) v) (dmul (l2d y) v)) ∧ dcmp (seV (dmul (l2d A) v) (dmul (l2d y) v) (dadd (dmul (l2d A) v) (dmul (l2d y) v))) (dmul (l2d (A + y - d2l (dadd (l2d A) (l2d y)))) v) = some .eq := by
  obtain ⟨h1, h2, h3⟩ := own_A hA hj hx hy
  obtain ⟨a, b⟩ := own_ab hA hj hx hy hu hv
  obtain ⟨g1, g2, g3⟩ := got1 hu a b hA hx hy h1
  exact ⟨g1, g2, fv_eq g3 (own_ref hA hj hx hy hu hv)⟩
theorem own_g2 {x y A : Int64} {j : Nat} (hA : A.toInt = x.toInt * ((2 ^ j : Nat) : Int)) (hj : j ≤ 9) (hx : x.toInt.natAbs < 9007199254740992) (hy : y.toInt.natAbs < 9007199254740992) {v : UInt64} {u : Nat} (hu : u ≤ 2034) (hv : FV v ((2 ^ u : Nat) : Int)) : Jvm.Free.Fl.NoNaN64 (dadd (dmul (l2d y) v) (dmul (l2d A) v)) ∧ SE (dmul (l2d y) v) (dmul (l2d A) v) (dadd (dmul (l2d y) v) (dmul (l2d A) v)) ∧ dcmp (seV (dmul (l2d y) v) (dmul (l2d A) v) (dadd (dmul (l2d y) v) (dmul (l2d A) v))) (dmul (l2d (A + y - d2l (dadd (l2d A) (l2d y)))) v) = some .eq := by
  obtain ⟨h1, h2, h3⟩ := own_A hA hj hx hy
  obtain ⟨a, b⟩ := own_ab hA hj hx hy hu hv
  obtain ⟨g1, g2, g3⟩ := got2 hu a b hA hx hy h1
  exact ⟨g1, g2, fv_eq g3 (own_ref hA hj hx hy hu hv)⟩
end Jvm.OwnFP
namespace Jvm.Pilot.@@N@@
open Jvm Jvm.ClassFile Sem Op Lib Jvm.Free Jvm.Stand Jvm.LawKit Jvm.RoadKit Bundle Jvm.Pilot.@@N@@.Jvm.D
def QScale (h0 : Heap) (v : Option Value) (h : Heap) : Prop := (∃ (u : Nat) (w : UInt64), v = some (.double w) ∧ u ≤ 2034 ∧ Jvm.OwnFP.FV w ((2 ^ u : Nat) : Int)) ∧ h0 = h
def QSe (a b s : UInt64) (h0 : Heap) (v : Option Value) (h : Heap) : Prop := v = some (.double (Jvm.OwnFP.seV a b s)) ∧ h0 = h
def QLaw (v : Option Value) (h : Heap) : Prop := v = some (.int 1)
theorem own_cmp0 {a b : UInt64} (h : FP.dcmp a b = some .eq) : cmpValue (FP.dcmp a b) .l = (0 : Int32) := by rw [h]; rfl

theorem d_method_2_0 : decode method_2_code 0 = .ok (.iload_n 0, 1) := by decide +kernel
theorem d_method_2_1 : decode method_2_code 1 = .ok (.ifCond .ne 5, 3) := by decide +kernel
theorem d_method_2_4 : decode method_2_code 4 = .ok (.dconst 1, 1) := by decide +kernel
theorem d_method_2_5 : decode method_2_code 5 = .ok (.dreturn, 1) := by decide +kernel
theorem d_method_2_6 : decode method_2_code 6 = .ok (.iload_n 0, 1) := by decide +kernel
theorem d_method_2_7 : decode method_2_code 7 = .ok (.iconst 1, 1) := by decide +kernel
theorem d_method_2_8 : decode method_2_code 8 = .ok (.if_icmp .ne 7, 3) := by decide +kernel
theorem d_method_2_11 : decode method_2_code 11 = .ok (.ldc2_w 7, 3) := by decide +kernel
theorem d_method_2_14 : decode method_2_code 14 = .ok (.dreturn, 1) := by decide +kernel
theorem d_method_2_15 : decode method_2_code 15 = .ok (.iload_n 0, 1) := by decide +kernel
theorem d_method_2_16 : decode method_2_code 16 = .ok (.iconst 2, 1) := by decide +kernel
theorem d_method_2_17 : decode method_2_code 17 = .ok (.if_icmp .ne 7, 3) := by decide +kernel
theorem d_method_2_20 : decode method_2_code 20 = .ok (.ldc2_w 9, 3) := by decide +kernel
theorem d_method_2_23 : decode method_2_code 23 = .ok (.dreturn, 1) := by decide +kernel
theorem d_method_2_24 : decode method_2_code 24 = .ok (.iload_n 0, 1) := by decide +kernel
theorem d_method_2_25 : decode method_2_code 25 = .ok (.iconst 3, 1) := by decide +kernel
theorem d_method_2_26 : decode method_2_code 26 = .ok (.if_icmp .ne 7, 3) := by decide +kernel
theorem d_method_2_29 : decode method_2_code 29 = .ok (.ldc2_w 11, 3) := by decide +kernel
theorem d_method_2_32 : decode method_2_code 32 = .ok (.dreturn, 1) := by decide +kernel
theorem d_method_2_33 : decode method_2_code 33 = .ok (.ldc2_w 13, 3) := by decide +kernel
theorem d_method_2_36 : decode method_2_code 36 = .ok (.dreturn, 1) := by decide +kernel
set_option maxRecDepth 65536 in
set_option maxHeartbeats 40000000 in
theorem c_scale (l : Launch) (Z : State) (a0 : Array Value) (hw : ∀ d ∈ tables_1, d.before a0 Z = true) (n0 : Nat) (h0 : Heap) (c : Int32)  :
    OwnKit.Con false l Z n0 (⟨"com/example/bounds_on_reach/boundsonreach/engine/OutwardSumErrorPinLaw", "scaleOf", "(I)D"⟩ : MethodName) method_2_code 1 (some .double) ({ frames := 0, cells := 0, slots := 0, locals := 0 } : Room) #[.int c] h0 (QScale h0) := by
  refine OwnKit.Con.of (by first | (refine plainFor_of_name ?_; simp [plainName, overriddenIn]; done) | decide +kernel) ?_ ?_
  · intro κ hwd K0
    have K : OwnKit.Ok κ l Z n0 "com/example/bounds_on_reach/boundsonreach/engine/OutwardSumErrorPinLaw" "scaleOf" method_2_code 1 (some .double) ({ frames := 0, cells := 0, slots := 0, locals := 0 } : Room) (QScale h0) := K0
    have ef : (entryFrame κ.m #[.int c] 1).locals = #[.val (.int c)] := by first | (simp [entryFrame, argsToLocals, Value.category]; done) | rfl
    rw [ef]; clear ef K0
    show OwnKit.Go κ h0 0 0 0 #[.val (.int c)] []
    refine OwnKit.iloadN K d_method_2_0 rfl ?_
    show OwnKit.Go κ h0 0 0 1 #[.val (.int c)] [.int c]
    refine OwnKit.ifne K d_method_2_1 (by decide) (pc' := 6) rfl  (fun b1 => ?_) (fun b1 => ?_)
    · show OwnKit.Go κ h0 0 0 6 #[.val (.int c)] []
      refine OwnKit.iloadN K d_method_2_6 rfl ?_
      show OwnKit.Go κ h0 0 0 7 #[.val (.int c)] [.int c]
      refine OwnKit.iconst K d_method_2_7 ?_
      show OwnKit.Go κ h0 0 0 8 #[.val (.int c)] [.int (1 : Int32), .int c]
      refine OwnKit.icmpne K d_method_2_8 (by decide) (pc' := 15) rfl  (fun b2 => ?_) (fun b2 => ?_)
      · show OwnKit.Go κ h0 0 0 15 #[.val (.int c)] []
        refine OwnKit.iloadN K d_method_2_15 rfl ?_
        show OwnKit.Go κ h0 0 0 16 #[.val (.int c)] [.int c]
        refine OwnKit.iconst K d_method_2_16 ?_
        show OwnKit.Go κ h0 0 0 17 #[.val (.int c)] [.int (2 : Int32), .int c]
        refine OwnKit.icmpne K d_method_2_17 (by decide) (pc' := 24) rfl  (fun b3 => ?_) (fun b3 => ?_)
        · show OwnKit.Go κ h0 0 0 24 #[.val (.int c)] []
          refine OwnKit.iloadN K d_method_2_24 rfl ?_
          show OwnKit.Go κ h0 0 0 25 #[.val (.int c)] [.int c]
          refine OwnKit.iconst K d_method_2_25 ?_
          show OwnKit.Go κ h0 0 0 26 #[.val (.int c)] [.int (3 : Int32), .int c]
          refine OwnKit.icmpne K d_method_2_26 (by decide) (pc' := 33) rfl  (fun b4 => ?_) (fun b4 => ?_)
          · show OwnKit.Go κ h0 0 0 33 #[.val (.int c)] []
            refine OwnKit.ldc2D K d_method_2_33 (hw _ (List.mem_of_getElem? (i := 12) rfl)) ?_
            show OwnKit.Go κ h0 0 0 36 #[.val (.int c)] [.double (103582791429521408 : UInt64)]
            refine OwnKit.dreturn K d_method_2_36  ?_ (Nat.le_of_ble_eq_true rfl) (Nat.le_of_ble_eq_true rfl)
            exact ⟨⟨74, _, rfl, by decide, Jvm.OwnFP.fv_c4⟩, rfl⟩
          · show OwnKit.Go κ h0 0 0 29 #[.val (.int c)] []
            refine OwnKit.ldc2D K d_method_2_29 (hw _ (List.mem_of_getElem? (i := 10) rfl)) ?_
            show OwnKit.Go κ h0 0 0 32 #[.val (.int c)] [.double (8930638061075693568 : UInt64)]
            refine OwnKit.dreturn K d_method_2_32  ?_ (Nat.le_of_ble_eq_true rfl) (Nat.le_of_ble_eq_true rfl)
            exact ⟨⟨2034, _, rfl, by decide, Jvm.OwnFP.fv_c3⟩, rfl⟩
        · show OwnKit.Go κ h0 0 0 20 #[.val (.int c)] []
          refine OwnKit.ldc2D K d_method_2_20 (hw _ (List.mem_of_getElem? (i := 9) rfl)) ?_
          show OwnKit.Go κ h0 0 0 23 #[.val (.int c)] [.double (2188749418902061056 : UInt64)]
          refine OwnKit.dreturn K d_method_2_23  ?_ (Nat.le_of_ble_eq_true rfl) (Nat.le_of_ble_eq_true rfl)
          exact ⟨⟨537, _, rfl, by decide, Jvm.OwnFP.fv_c2⟩, rfl⟩
      · show OwnKit.Go κ h0 0 0 11 #[.val (.int c)] []
        refine OwnKit.ldc2D K d_method_2_11 (hw _ (List.mem_of_getElem? (i := 11) rfl)) ?_
        show OwnKit.Go κ h0 0 0 14 #[.val (.int c)] [.double (1 : UInt64)]
        refine OwnKit.dreturn K d_method_2_14  ?_ (Nat.le_of_ble_eq_true rfl) (Nat.le_of_ble_eq_true rfl)
        exact ⟨⟨0, _, rfl, by decide, Jvm.OwnFP.fv_c1⟩, rfl⟩
    · show OwnKit.Go κ h0 0 0 4 #[.val (.int c)] []
      refine OwnKit.dconst1 K d_method_2_4 rfl ?_
      show OwnKit.Go κ h0 0 0 5 #[.val (.int c)] [.double (4607182418800017408 : UInt64)]
      refine OwnKit.dreturn K d_method_2_5  ?_ (Nat.le_of_ble_eq_true rfl) (Nat.le_of_ble_eq_true rfl)
      exact ⟨⟨1074, _, rfl, by decide, Jvm.OwnFP.fv_one⟩, rfl⟩
  · intro m; first | rfl | (simp [entryFrame, mkF, argsToLocals, Value.category]; done)

theorem d_prog_25m16_0 : decode prog_25_method_16_code 0 = .ok (.dload 4, 2) := by decide +kernel
theorem d_prog_25m16_2 : decode prog_25_method_16_code 2 = .ok (.dload_n 0, 1) := by decide +kernel
theorem d_prog_25m16_3 : decode prog_25_method_16_code 3 = .ok (.dsub, 1) := by decide +kernel
theorem d_prog_25m16_4 : decode prog_25_method_16_code 4 = .ok (.dstore 6, 2) := by decide +kernel
theorem d_prog_25m16_6 : decode prog_25_method_16_code 6 = .ok (.dload_n 0, 1) := by decide +kernel
theorem d_prog_25m16_7 : decode prog_25_method_16_code 7 = .ok (.dload 4, 2) := by decide +kernel
theorem d_prog_25m16_9 : decode prog_25_method_16_code 9 = .ok (.dload 6, 2) := by decide +kernel
theorem d_prog_25m16_11 : decode prog_25_method_16_code 11 = .ok (.dsub, 1) := by decide +kernel
theorem d_prog_25m16_12 : decode prog_25_method_16_code 12 = .ok (.dsub, 1) := by decide +kernel
theorem d_prog_25m16_13 : decode prog_25_method_16_code 13 = .ok (.dload_n 2, 1) := by decide +kernel
theorem d_prog_25m16_14 : decode prog_25_method_16_code 14 = .ok (.dload 6, 2) := by decide +kernel
theorem d_prog_25m16_16 : decode prog_25_method_16_code 16 = .ok (.dsub, 1) := by decide +kernel
theorem d_prog_25m16_17 : decode prog_25_method_16_code 17 = .ok (.dadd, 1) := by decide +kernel
theorem d_prog_25m16_18 : decode prog_25_method_16_code 18 = .ok (.dreturn, 1) := by decide +kernel
set_option maxRecDepth 65536 in
set_option maxHeartbeats 40000000 in
theorem c_se (l : Launch) (Z : State) (a0 : Array Value) (hw : ∀ d ∈ tables_1, d.before a0 Z = true) (n0 : Nat) (h0 : Heap) (a b s : UInt64) (hn : Jvm.OwnFP.SE a b s)  :
    OwnKit.Con false l Z n0 (⟨"com/example/bounds_on_reach/boundsonreach/engine/Outward", "sumError", "(DDD)D"⟩ : MethodName) prog_25_method_16_code 8 (some .double) ({ frames := 0, cells := 0, slots := 0, locals := 0 } : Room) #[.double a, .double b, .double s] h0 (QSe a b s h0) := by
  refine OwnKit.Con.of (by first | (refine plainFor_of_name ?_; simp [plainName, overriddenIn]; done) | decide +kernel) ?_ ?_
  · intro κ hwd K0
    have K : OwnKit.Ok κ l Z n0 "com/example/bounds_on_reach/boundsonreach/engine/Outward" "sumError" prog_25_method_16_code 8 (some .double) ({ frames := 0, cells := 0, slots := 0, locals := 0 } : Room) (QSe a b s h0) := K0
    have ef : (entryFrame κ.m #[.double a, .double b, .double s] 8).locals = #[.val (.double a), .second, .val (.double b), .second, .val (.double s), .second, .unset, .unset] := by first | (simp [entryFrame, argsToLocals, Value.category]; done) | rfl
    rw [ef]; clear ef K0
    show OwnKit.Go κ h0 0 0 0 #[.val (.double a), .second, .val (.double b), .second, .val (.double s), .second, .unset, .unset] []
    refine OwnKit.dload K d_prog_25m16_0 rfl ?_
    show OwnKit.Go κ h0 0 0 2 #[.val (.double a), .second, .val (.double b), .second, .val (.double s), .second, .unset, .unset] [.double s]
    refine OwnKit.dloadN K d_prog_25m16_2 rfl ?_
    show OwnKit.Go κ h0 0 0 3 #[.val (.double a), .second, .val (.double b), .second, .val (.double s), .second, .unset, .unset] [.double a, .double s]
    refine OwnKit.dsub K d_prog_25m16_3 hn.1 rfl ?_
    show OwnKit.Go κ h0 0 0 4 #[.val (.double a), .second, .val (.double b), .second, .val (.double s), .second, .unset, .unset] [.double (FP.dsub s a)]
    refine OwnKit.dstore K d_prog_25m16_4 (l' := #[.val (.double a), .second, .val (.double b), .second, .val (.double s), .second, .val (.double (FP.dsub s a)), .second]) rfl ?_
    show OwnKit.Go κ h0 0 0 6 #[.val (.double a), .second, .val (.double b), .second, .val (.double s), .second, .val (.double (FP.dsub s a)), .second] []
    refine OwnKit.dloadN K d_prog_25m16_6 rfl ?_
    show OwnKit.Go κ h0 0 0 7 #[.val (.double a), .second, .val (.double b), .second, .val (.double s), .second, .val (.double (FP.dsub s a)), .second] [.double a]
    refine OwnKit.dload K d_prog_25m16_7 rfl ?_
    show OwnKit.Go κ h0 0 0 9 #[.val (.double a), .second, .val (.double b), .second, .val (.double s), .second, .val (.double (FP.dsub s a)), .second] [.double s, .double a]
    refine OwnKit.dload K d_prog_25m16_9 rfl ?_
    show OwnKit.Go κ h0 0 0 11 #[.val (.double a), .second, .val (.double b), .second, .val (.double s), .second, .val (.double (FP.dsub s a)), .second] [.double (FP.dsub s a), .double s, .double a]
    refine OwnKit.dsub K d_prog_25m16_11 hn.2.1 rfl ?_
    show OwnKit.Go κ h0 0 0 12 #[.val (.double a), .second, .val (.double b), .second, .val (.double s), .second, .val (.double (FP.dsub s a)), .second] [.double (FP.dsub s (FP.dsub s a)), .double a]
    refine OwnKit.dsub K d_prog_25m16_12 hn.2.2.1 rfl ?_
    show OwnKit.Go κ h0 0 0 13 #[.val (.double a), .second, .val (.double b), .second, .val (.double s), .second, .val (.double (FP.dsub s a)), .second] [.double (FP.dsub a (FP.dsub s (FP.dsub s a)))]
    refine OwnKit.dloadN K d_prog_25m16_13 rfl ?_
    show OwnKit.Go κ h0 0 0 14 #[.val (.double a), .second, .val (.double b), .second, .val (.double s), .second, .val (.double (FP.dsub s a)), .second] [.double b, .double (FP.dsub a (FP.dsub s (FP.dsub s a)))]
    refine OwnKit.dload K d_prog_25m16_14 rfl ?_
    show OwnKit.Go κ h0 0 0 16 #[.val (.double a), .second, .val (.double b), .second, .val (.double s), .second, .val (.double (FP.dsub s a)), .second] [.double (FP.dsub s a), .double b, .double (FP.dsub a (FP.dsub s (FP.dsub s a)))]
    refine OwnKit.dsub K d_prog_25m16_16 hn.2.2.2.1 rfl ?_
    show OwnKit.Go κ h0 0 0 17 #[.val (.double a), .second, .val (.double b), .second, .val (.double s), .second, .val (.double (FP.dsub s a)), .second] [.double (FP.dsub b (FP.dsub s a)), .double (FP.dsub a (FP.dsub s (FP.dsub s a)))]
    refine OwnKit.dadd K d_prog_25m16_17 hn.2.2.2.2 rfl ?_
    show OwnKit.Go κ h0 0 0 18 #[.val (.double a), .second, .val (.double b), .second, .val (.double s), .second, .val (.double (FP.dsub s a)), .second] [.double (FP.dadd (FP.dsub a (FP.dsub s (FP.dsub s a))) (FP.dsub b (FP.dsub s a)))]
    refine OwnKit.dreturn K d_prog_25m16_18  ?_ (Nat.le_of_ble_eq_true rfl) (Nat.le_of_ble_eq_true rfl)
    exact ⟨rfl, rfl⟩
  · intro m; first | rfl | (simp [entryFrame, mkF, argsToLocals, Value.category]; done)

set_option maxRecDepth 65536 in
set_option maxHeartbeats 40000000 in
theorem c_law (l : Launch) (Z : State) (a0 : Array Value) (hw : ∀ d ∈ tables_1, d.before a0 Z = true) (n0 : Nat) (h0 : Heap) (p q : Int64) (k : Int32)   :
    OwnKit.Con false l Z n0 x code maxLocals ret room_1 #[.long p, .long q, .int k] h0 QLaw := by
  refine OwnKit.Con.of (by first | (refine plainFor_of_name ?_; simp [plainName, overriddenIn]; done) | decide +kernel) ?_ ?_
  · intro κ hwd K0
    have K : OwnKit.Ok κ l Z n0 "com/example/bounds_on_reach/boundsonreach/engine/OutwardSumErrorPinLaw" "law" code 34 (some .boolean) room_1 QLaw := K0
    have ef : (entryFrame κ.m #[.long p, .long q, .int k] maxLocals).locals = #[.val (.long p), .second, .val (.long q), .second, .val (.int k), .unset, .unset, .unset, .unset, .unset, .unset, .unset, .unset, .unset, .unset, .unset, .unset, .unset, .unset, .unset, .unset, .unset, .unset, .unset, .unset, .unset, .unset, .unset, .unset, .unset, .unset, .unset, .unset, .unset] := by first | (simp [entryFrame, argsToLocals, Value.category, maxLocals]; done) | rfl
    rw [ef]; clear ef K0
    show OwnKit.Go κ h0 0 0 0 #[.val (.long p), .second, .val (.long q), .second, .val (.int k), .unset, .unset, .unset, .unset, .unset, .unset, .unset, .unset, .unset, .unset, .unset, .unset, .unset, .unset, .unset, .unset, .unset, .unset, .unset, .unset, .unset, .unset, .unset, .unset, .unset, .unset, .unset, .unset, .unset] []
    refine OwnKit.lloadN K at_0 rfl ?_
    show OwnKit.Go κ h0 0 0 1 #[.val (.long p), .second, .val (.long q), .second, .val (.int k), .unset, .unset, .unset, .unset, .unset, .unset, .unset, .unset, .unset, .unset, .unset, .unset, .unset, .unset, .unset, .unset, .unset, .unset, .unset, .unset, .unset, .unset, .unset, .unset, .unset, .unset, .unset, .unset, .unset] [.long p]
    refine OwnKit.ldc2J K at_1 (hw _ (List.mem_of_getElem? (i := 0) rfl)) ?_
    show OwnKit.Go κ h0 0 0 4 #[.val (.long p), .second, .val (.long q), .second, .val (.int k), .unset, .unset, .unset, .unset, .unset, .unset, .unset, .unset, .unset, .unset, .unset, .unset, .unset, .unset, .unset, .unset, .unset, .unset, .unset, .unset, .unset, .unset, .unset, .unset, .unset, .unset, .unset, .unset, .unset] [.long (9007199254740992 : Int64), .long p]
    refine OwnKit.lrem K at_4 (by decide) ?_
    show OwnKit.Go κ h0 0 0 5 #[.val (.long p), .second, .val (.long q), .second, .val (.int k), .unset, .unset, .unset, .unset, .unset, .unset, .unset, .unset, .unset, .unset, .unset, .unset, .unset, .unset, .unset, .unset, .unset, .unset, .unset, .unset, .unset, .unset, .unset, .unset, .unset, .unset, .unset, .unset, .unset] [.long (p % (9007199254740992 : Int64))]
    generalize hX : p % (9007199254740992 : Int64) = X
    show OwnKit.Go κ h0 0 0 5 #[.val (.long p), .second, .val (.long q), .second, .val (.int k), .unset, .unset, .unset, .unset, .unset, .unset, .unset, .unset, .unset, .unset, .unset, .unset, .unset, .unset, .unset, .unset, .unset, .unset, .unset, .unset, .unset, .unset, .unset, .unset, .unset, .unset, .unset, .unset, .unset] [.long X]
    have bX := Jvm.OwnFP.own_lrem hX
    refine OwnKit.lstore K at_5 (l' := #[.val (.long p), .second, .val (.long q), .second, .val (.int k), .val (.long X), .second, .unset, .unset, .unset, .unset, .unset, .unset, .unset, .unset, .unset, .unset, .unset, .unset, .unset, .unset, .unset, .unset, .unset, .unset, .unset, .unset, .unset, .unset, .unset, .unset, .unset, .unset, .unset]) rfl ?_
    show OwnKit.Go κ h0 0 0 7 #[.val (.long p), .second, .val (.long q), .second, .val (.int k), .val (.long X), .second, .unset, .unset, .unset, .unset, .unset, .unset, .unset, .unset, .unset, .unset, .unset, .unset, .unset, .unset, .unset, .unset, .unset, .unset, .unset, .unset, .unset, .unset, .unset, .unset, .unset, .unset, .unset] []
    refine OwnKit.lloadN K at_7 rfl ?_
    show OwnKit.Go κ h0 0 0 8 #[.val (.long p), .second, .val (.long q), .second, .val (.int k), .val (.long X), .second, .unset, .unset, .unset, .unset, .unset, .unset, .unset, .unset, .unset, .unset, .unset, .unset, .unset, .unset, .unset, .unset, .unset, .unset, .unset, .unset, .unset, .unset, .unset, .unset, .unset, .unset, .unset] [.long q]
    refine OwnKit.ldc2J K at_8 (hw _ (List.mem_of_getElem? (i := 0) rfl)) ?_
    show OwnKit.Go κ h0 0 0 11 #[.val (.long p), .second, .val (.long q), .second, .val (.int k), .val (.long X), .second, .unset, .unset, .unset, .unset, .unset, .unset, .unset, .unset, .unset, .unset, .unset, .unset, .unset, .unset, .unset, .unset, .unset, .unset, .unset, .unset, .unset, .unset, .unset, .unset, .unset, .unset, .unset] [.long (9007199254740992 : Int64), .long q]
    refine OwnKit.lrem K at_11 (by decide) ?_
    show OwnKit.Go κ h0 0 0 12 #[.val (.long p), .second, .val (.long q), .second, .val (.int k), .val (.long X), .second, .unset, .unset, .unset, .unset, .unset, .unset, .unset, .unset, .unset, .unset, .unset, .unset, .unset, .unset, .unset, .unset, .unset, .unset, .unset, .unset, .unset, .unset, .unset, .unset, .unset, .unset, .unset] [.long (q % (9007199254740992 : Int64))]
    generalize hY : q % (9007199254740992 : Int64) = Y
    show OwnKit.Go κ h0 0 0 12 #[.val (.long p), .second, .val (.long q), .second, .val (.int k), .val (.long X), .second, .unset, .unset, .unset, .unset, .unset, .unset, .unset, .unset, .unset, .unset, .unset, .unset, .unset, .unset, .unset, .unset, .unset, .unset, .unset, .unset, .unset, .unset, .unset, .unset, .unset, .unset, .unset] [.long Y]
    have bY := Jvm.OwnFP.own_lrem hY
    refine OwnKit.lstore K at_12 (l' := #[.val (.long p), .second, .val (.long q), .second, .val (.int k), .val (.long X), .second, .val (.long Y), .second, .unset, .unset, .unset, .unset, .unset, .unset, .unset, .unset, .unset, .unset, .unset, .unset, .unset, .unset, .unset, .unset, .unset, .unset, .unset, .unset, .unset, .unset, .unset, .unset, .unset]) rfl ?_
    show OwnKit.Go κ h0 0 0 14 #[.val (.long p), .second, .val (.long q), .second, .val (.int k), .val (.long X), .second, .val (.long Y), .second, .unset, .unset, .unset, .unset, .unset, .unset, .unset, .unset, .unset, .unset, .unset, .unset, .unset, .unset, .unset, .unset, .unset, .unset, .unset, .unset, .unset, .unset, .unset, .unset, .unset] []
    refine OwnKit.iload K at_14 rfl ?_
    show OwnKit.Go κ h0 0 0 16 #[.val (.long p), .second, .val (.long q), .second, .val (.int k), .val (.long X), .second, .val (.long Y), .second, .unset, .unset, .unset, .unset, .unset, .unset, .unset, .unset, .unset, .unset, .unset, .unset, .unset, .unset, .unset, .unset, .unset, .unset, .unset, .unset, .unset, .unset, .unset, .unset, .unset] [.int k]
    refine OwnKit.bipush K at_16 ?_
    show OwnKit.Go κ h0 0 0 18 #[.val (.long p), .second, .val (.long q), .second, .val (.int k), .val (.long X), .second, .val (.long Y), .second, .unset, .unset, .unset, .unset, .unset, .unset, .unset, .unset, .unset, .unset, .unset, .unset, .unset, .unset, .unset, .unset, .unset, .unset, .unset, .unset, .unset, .unset, .unset, .unset, .unset] [.int (15 : Int32), .int k]
    refine OwnKit.iand K at_18 ?_
    show OwnKit.Go κ h0 0 0 19 #[.val (.long p), .second, .val (.long q), .second, .val (.int k), .val (.long X), .second, .val (.long Y), .second, .unset, .unset, .unset, .unset, .unset, .unset, .unset, .unset, .unset, .unset, .unset, .unset, .unset, .unset, .unset, .unset, .unset, .unset, .unset, .unset, .unset, .unset, .unset, .unset, .unset] [.int (k &&& (15 : Int32))]
    refine OwnKit.bipush K at_19 ?_
    show OwnKit.Go κ h0 0 0 21 #[.val (.long p), .second, .val (.long q), .second, .val (.int k), .val (.long X), .second, .val (.long Y), .second, .unset, .unset, .unset, .unset, .unset, .unset, .unset, .unset, .unset, .unset, .unset, .unset, .unset, .unset, .unset, .unset, .unset, .unset, .unset, .unset, .unset, .unset, .unset, .unset, .unset] [.int (10 : Int32), .int (k &&& (15 : Int32))]
    refine OwnKit.irem K at_21 (by decide) ?_
    show OwnKit.Go κ h0 0 0 22 #[.val (.long p), .second, .val (.long q), .second, .val (.int k), .val (.long X), .second, .val (.long Y), .second, .unset, .unset, .unset, .unset, .unset, .unset, .unset, .unset, .unset, .unset, .unset, .unset, .unset, .unset, .unset, .unset, .unset, .unset, .unset, .unset, .unset, .unset, .unset, .unset, .unset] [.int ((k &&& (15 : Int32)) % (10 : Int32))]
    generalize hjj : (k &&& (15 : Int32)) % (10 : Int32) = jj
    show OwnKit.Go κ h0 0 0 22 #[.val (.long p), .second, .val (.long q), .second, .val (.int k), .val (.long X), .second, .val (.long Y), .second, .unset, .unset, .unset, .unset, .unset, .unset, .unset, .unset, .unset, .unset, .unset, .unset, .unset, .unset, .unset, .unset, .unset, .unset, .unset, .unset, .unset, .unset, .unset, .unset, .unset] [.int jj]
    have bj := Jvm.OwnFP.own_jr hjj
    refine OwnKit.istore K at_22 (l' := #[.val (.long p), .second, .val (.long q), .second, .val (.int k), .val (.long X), .second, .val (.long Y), .second, .val (.int jj), .unset, .unset, .unset, .unset, .unset, .unset, .unset, .unset, .unset, .unset, .unset, .unset, .unset, .unset, .unset, .unset, .unset, .unset, .unset, .unset, .unset, .unset, .unset, .unset]) rfl ?_
    show OwnKit.Go κ h0 0 0 24 #[.val (.long p), .second, .val (.long q), .second, .val (.int k), .val (.long X), .second, .val (.long Y), .second, .val (.int jj), .unset, .unset, .unset, .unset, .unset, .unset, .unset, .unset, .unset, .unset, .unset, .unset, .unset, .unset, .unset, .unset, .unset, .unset, .unset, .unset, .unset, .unset, .unset, .unset] []
    refine OwnKit.iload K at_24 rfl ?_
    show OwnKit.Go κ h0 0 0 26 #[.val (.long p), .second, .val (.long q), .second, .val (.int k), .val (.long X), .second, .val (.long Y), .second, .val (.int jj), .unset, .unset, .unset, .unset, .unset, .unset, .unset, .unset, .unset, .unset, .unset, .unset, .unset, .unset, .unset, .unset, .unset, .unset, .unset, .unset, .unset, .unset, .unset, .unset] [.int k]
    refine OwnKit.iconst K at_26 ?_
    show OwnKit.Go κ h0 0 0 27 #[.val (.long p), .second, .val (.long q), .second, .val (.int k), .val (.long X), .second, .val (.long Y), .second, .val (.int jj), .unset, .unset, .unset, .unset, .unset, .unset, .unset, .unset, .unset, .unset, .unset, .unset, .unset, .unset, .unset, .unset, .unset, .unset, .unset, .unset, .unset, .unset, .unset, .unset] [.int (4 : Int32), .int k]
    refine OwnKit.ishr K at_27 ?_
    show OwnKit.Go κ h0 0 0 28 #[.val (.long p), .second, .val (.long q), .second, .val (.int k), .val (.long X), .second, .val (.long Y), .second, .val (.int jj), .unset, .unset, .unset, .unset, .unset, .unset, .unset, .unset, .unset, .unset, .unset, .unset, .unset, .unset, .unset, .unset, .unset, .unset, .unset, .unset, .unset, .unset, .unset, .unset] [.int (k >>> ((4 : Int32) &&& 31))]
    refine OwnKit.iconst K at_28 ?_
    show OwnKit.Go κ h0 0 0 29 #[.val (.long p), .second, .val (.long q), .second, .val (.int k), .val (.long X), .second, .val (.long Y), .second, .val (.int jj), .unset, .unset, .unset, .unset, .unset, .unset, .unset, .unset, .unset, .unset, .unset, .unset, .unset, .unset, .unset, .unset, .unset, .unset, .unset, .unset, .unset, .unset, .unset, .unset] [.int (1 : Int32), .int (k >>> ((4 : Int32) &&& 31))]
    refine OwnKit.iand K at_29 ?_
    show OwnKit.Go κ h0 0 0 30 #[.val (.long p), .second, .val (.long q), .second, .val (.int k), .val (.long X), .second, .val (.long Y), .second, .val (.int jj), .unset, .unset, .unset, .unset, .unset, .unset, .unset, .unset, .unset, .unset, .unset, .unset, .unset, .unset, .unset, .unset, .unset, .unset, .unset, .unset, .unset, .unset, .unset, .unset] [.int ((k >>> ((4 : Int32) &&& 31)) &&& (1 : Int32))]
    refine OwnKit.ifeq K at_30 (by decide) (pc' := 37) rfl  (fun b1 => ?_) (fun b1 => ?_)
    · show OwnKit.Go κ h0 0 0 37 #[.val (.long p), .second, .val (.long q), .second, .val (.int k), .val (.long X), .second, .val (.long Y), .second, .val (.int jj), .unset, .unset, .unset, .unset, .unset, .unset, .unset, .unset, .unset, .unset, .unset, .unset, .unset, .unset, .unset, .unset, .unset, .unset, .unset, .unset, .unset, .unset, .unset, .unset] []
      refine OwnKit.iconst K at_37 ?_
      show OwnKit.Go κ h0 0 0 38 #[.val (.long p), .second, .val (.long q), .second, .val (.int k), .val (.long X), .second, .val (.long Y), .second, .val (.int jj), .unset, .unset, .unset, .unset, .unset, .unset, .unset, .unset, .unset, .unset, .unset, .unset, .unset, .unset, .unset, .unset, .unset, .unset, .unset, .unset, .unset, .unset, .unset, .unset] [.int (0 : Int32)]
      refine OwnKit.istore K at_38 (l' := #[.val (.long p), .second, .val (.long q), .second, .val (.int k), .val (.long X), .second, .val (.long Y), .second, .val (.int jj), .val (.int (0 : Int32)), .unset, .unset, .unset, .unset, .unset, .unset, .unset, .unset, .unset, .unset, .unset, .unset, .unset, .unset, .unset, .unset, .unset, .unset, .unset, .unset, .unset, .unset, .unset]) rfl ?_
      show OwnKit.Go κ h0 0 0 40 #[.val (.long p), .second, .val (.long q), .second, .val (.int k), .val (.long X), .second, .val (.long Y), .second, .val (.int jj), .val (.int (0 : Int32)), .unset, .unset, .unset, .unset, .unset, .unset, .unset, .unset, .unset, .unset, .unset, .unset, .unset, .unset, .unset, .unset, .unset, .unset, .unset, .unset, .unset, .unset, .unset] []
      refine OwnKit.iload K at_40 rfl ?_
      show OwnKit.Go κ h0 0 0 42 #[.val (.long p), .second, .val (.long q), .second, .val (.int k), .val (.long X), .second, .val (.long Y), .second, .val (.int jj), .val (.int (0 : Int32)), .unset, .unset, .unset, .unset, .unset, .unset, .unset, .unset, .unset, .unset, .unset, .unset, .unset, .unset, .unset, .unset, .unset, .unset, .unset, .unset, .unset, .unset, .unset] [.int k]
      refine OwnKit.iconst K at_42 ?_
      show OwnKit.Go κ h0 0 0 43 #[.val (.long p), .second, .val (.long q), .second, .val (.int k), .val (.long X), .second, .val (.long Y), .second, .val (.int jj), .val (.int (0 : Int32)), .unset, .unset, .unset, .unset, .unset, .unset, .unset, .unset, .unset, .unset, .unset, .unset, .unset, .unset, .unset, .unset, .unset, .unset, .unset, .unset, .unset, .unset, .unset] [.int (5 : Int32), .int k]
      refine OwnKit.iushr K at_43 ?_
      show OwnKit.Go κ h0 0 0 44 #[.val (.long p), .second, .val (.long q), .second, .val (.int k), .val (.long X), .second, .val (.long Y), .second, .val (.int jj), .val (.int (0 : Int32)), .unset, .unset, .unset, .unset, .unset, .unset, .unset, .unset, .unset, .unset, .unset, .unset, .unset, .unset, .unset, .unset, .unset, .unset, .unset, .unset, .unset, .unset, .unset] [.int (XT.ushr k (5 : Int32))]
      refine OwnKit.bipush K at_44 ?_
      show OwnKit.Go κ h0 0 0 46 #[.val (.long p), .second, .val (.long q), .second, .val (.int k), .val (.long X), .second, .val (.long Y), .second, .val (.int jj), .val (.int (0 : Int32)), .unset, .unset, .unset, .unset, .unset, .unset, .unset, .unset, .unset, .unset, .unset, .unset, .unset, .unset, .unset, .unset, .unset, .unset, .unset, .unset, .unset, .unset, .unset] [.int (7 : Int32), .int (XT.ushr k (5 : Int32))]
      refine OwnKit.iand K at_46 ?_
      show OwnKit.Go κ h0 0 0 47 #[.val (.long p), .second, .val (.long q), .second, .val (.int k), .val (.long X), .second, .val (.long Y), .second, .val (.int jj), .val (.int (0 : Int32)), .unset, .unset, .unset, .unset, .unset, .unset, .unset, .unset, .unset, .unset, .unset, .unset, .unset, .unset, .unset, .unset, .unset, .unset, .unset, .unset, .unset, .unset, .unset] [.int ((XT.ushr k (5 : Int32)) &&& (7 : Int32))]
      refine OwnKit.iconst K at_47 ?_
      show OwnKit.Go κ h0 0 0 48 #[.val (.long p), .second, .val (.long q), .second, .val (.int k), .val (.long X), .second, .val (.long Y), .second, .val (.int jj), .val (.int (0 : Int32)), .unset, .unset, .unset, .unset, .unset, .unset, .unset, .unset, .unset, .unset, .unset, .unset, .unset, .unset, .unset, .unset, .unset, .unset, .unset, .unset, .unset, .unset, .unset] [.int (5 : Int32), .int ((XT.ushr k (5 : Int32)) &&& (7 : Int32))]
      refine OwnKit.irem K at_48 (by decide) ?_
      show OwnKit.Go κ h0 0 0 49 #[.val (.long p), .second, .val (.long q), .second, .val (.int k), .val (.long X), .second, .val (.long Y), .second, .val (.int jj), .val (.int (0 : Int32)), .unset, .unset, .unset, .unset, .unset, .unset, .unset, .unset, .unset, .unset, .unset, .unset, .unset, .unset, .unset, .unset, .unset, .unset, .unset, .unset, .unset, .unset, .unset] [.int (((XT.ushr k (5 : Int32)) &&& (7 : Int32)) % (5 : Int32))]
      generalize hcc : ((XT.ushr k (5 : Int32)) &&& (7 : Int32)) % (5 : Int32) = cc
      show OwnKit.Go κ h0 0 0 49 #[.val (.long p), .second, .val (.long q), .second, .val (.int k), .val (.long X), .second, .val (.long Y), .second, .val (.int jj), .val (.int (0 : Int32)), .unset, .unset, .unset, .unset, .unset, .unset, .unset, .unset, .unset, .unset, .unset, .unset, .unset, .unset, .unset, .unset, .unset, .unset, .unset, .unset, .unset, .unset, .unset] [.int cc]
      refine OwnKit.istore K at_49 (l' := #[.val (.long p), .second, .val (.long q), .second, .val (.int k), .val (.long X), .second, .val (.long Y), .second, .val (.int jj), .val (.int (0 : Int32)), .val (.int cc), .unset, .unset, .unset, .unset, .unset, .unset, .unset, .unset, .unset, .unset, .unset, .unset, .unset, .unset, .unset, .unset, .unset, .unset, .unset, .unset, .unset, .unset]) rfl ?_
      show OwnKit.Go κ h0 0 0 51 #[.val (.long p), .second, .val (.long q), .second, .val (.int k), .val (.long X), .second, .val (.long Y), .second, .val (.int jj), .val (.int (0 : Int32)), .val (.int cc), .unset, .unset, .unset, .unset, .unset, .unset, .unset, .unset, .unset, .unset, .unset, .unset, .unset, .unset, .unset, .unset, .unset, .unset, .unset, .unset, .unset, .unset] []
      refine OwnKit.lload K at_51 rfl ?_
      show OwnKit.Go κ h0 0 0 53 #[.val (.long p), .second, .val (.long q), .second, .val (.int k), .val (.long X), .second, .val (.long Y), .second, .val (.int jj), .val (.int (0 : Int32)), .val (.int cc), .unset, .unset, .unset, .unset, .unset, .unset, .unset, .unset, .unset, .unset, .unset, .unset, .unset, .unset, .unset, .unset, .unset, .unset, .unset, .unset, .unset, .unset] [.long X]
      refine OwnKit.iload K at_53 rfl ?_
      show OwnKit.Go κ h0 0 0 55 #[.val (.long p), .second, .val (.long q), .second, .val (.int k), .val (.long X), .second, .val (.long Y), .second, .val (.int jj), .val (.int (0 : Int32)), .val (.int cc), .unset, .unset, .unset, .unset, .unset, .unset, .unset, .unset, .unset, .unset, .unset, .unset, .unset, .unset, .unset, .unset, .unset, .unset, .unset, .unset, .unset, .unset] [.int jj, .long X]
      refine OwnKit.lshl K at_55 ?_
      show OwnKit.Go κ h0 0 0 56 #[.val (.long p), .second, .val (.long q), .second, .val (.int k), .val (.long X), .second, .val (.long Y), .second, .val (.int jj), .val (.int (0 : Int32)), .val (.int cc), .unset, .unset, .unset, .unset, .unset, .unset, .unset, .unset, .unset, .unset, .unset, .unset, .unset, .unset, .unset, .unset, .unset, .unset, .unset, .unset, .unset, .unset] [.long (X <<< (jj.toInt64 &&& 63))]
      generalize hAA : X <<< (jj.toInt64 &&& 63) = AA
      show OwnKit.Go κ h0 0 0 56 #[.val (.long p), .second, .val (.long q), .second, .val (.int k), .val (.long X), .second, .val (.long Y), .second, .val (.int jj), .val (.int (0 : Int32)), .val (.int cc), .unset, .unset, .unset, .unset, .unset, .unset, .unset, .unset, .unset, .unset, .unset, .unset, .unset, .unset, .unset, .unset, .unset, .unset, .unset, .unset, .unset, .unset] [.long AA]
      have hA := Jvm.OwnFP.own_shl bX bj.1 bj.2 hAA
      have hj9 : jj.toInt.toNat ≤ 9 := by have := bj.2; omega
      refine OwnKit.lstore K at_56 (l' := #[.val (.long p), .second, .val (.long q), .second, .val (.int k), .val (.long X), .second, .val (.long Y), .second, .val (.int jj), .val (.int (0 : Int32)), .val (.int cc), .val (.long AA), .second, .unset, .unset, .unset, .unset, .unset, .unset, .unset, .unset, .unset, .unset, .unset, .unset, .unset, .unset, .unset, .unset, .unset, .unset, .unset, .unset]) rfl ?_
      show OwnKit.Go κ h0 0 0 58 #[.val (.long p), .second, .val (.long q), .second, .val (.int k), .val (.long X), .second, .val (.long Y), .second, .val (.int jj), .val (.int (0 : Int32)), .val (.int cc), .val (.long AA), .second, .unset, .unset, .unset, .unset, .unset, .unset, .unset, .unset, .unset, .unset, .unset, .unset, .unset, .unset, .unset, .unset, .unset, .unset, .unset, .unset] []
      refine OwnKit.lload K at_58 rfl ?_
      show OwnKit.Go κ h0 0 0 60 #[.val (.long p), .second, .val (.long q), .second, .val (.int k), .val (.long X), .second, .val (.long Y), .second, .val (.int jj), .val (.int (0 : Int32)), .val (.int cc), .val (.long AA), .second, .unset, .unset, .unset, .unset, .unset, .unset, .unset, .unset, .unset, .unset, .unset, .unset, .unset, .unset, .unset, .unset, .unset, .unset, .unset, .unset] [.long AA]
      refine OwnKit.l2d K at_60 rfl ?_
      show OwnKit.Go κ h0 0 0 61 #[.val (.long p), .second, .val (.long q), .second, .val (.int k), .val (.long X), .second, .val (.long Y), .second, .val (.int jj), .val (.int (0 : Int32)), .val (.int cc), .val (.long AA), .second, .unset, .unset, .unset, .unset, .unset, .unset, .unset, .unset, .unset, .unset, .unset, .unset, .unset, .unset, .unset, .unset, .unset, .unset, .unset, .unset] [.double (FP.l2d AA)]
      refine OwnKit.dstore K at_61 (l' := #[.val (.long p), .second, .val (.long q), .second, .val (.int k), .val (.long X), .second, .val (.long Y), .second, .val (.int jj), .val (.int (0 : Int32)), .val (.int cc), .val (.long AA), .second, .val (.double (FP.l2d AA)), .second, .unset, .unset, .unset, .unset, .unset, .unset, .unset, .unset, .unset, .unset, .unset, .unset, .unset, .unset, .unset, .unset, .unset, .unset]) rfl ?_
      show OwnKit.Go κ h0 0 0 63 #[.val (.long p), .second, .val (.long q), .second, .val (.int k), .val (.long X), .second, .val (.long Y), .second, .val (.int jj), .val (.int (0 : Int32)), .val (.int cc), .val (.long AA), .second, .val (.double (FP.l2d AA)), .second, .unset, .unset, .unset, .unset, .unset, .unset, .unset, .unset, .unset, .unset, .unset, .unset, .unset, .unset, .unset, .unset, .unset, .unset] []
      refine OwnKit.lload K at_63 rfl ?_
      show OwnKit.Go κ h0 0 0 65 #[.val (.long p), .second, .val (.long q), .second, .val (.int k), .val (.long X), .second, .val (.long Y), .second, .val (.int jj), .val (.int (0 : Int32)), .val (.int cc), .val (.long AA), .second, .val (.double (FP.l2d AA)), .second, .unset, .unset, .unset, .unset, .unset, .unset, .unset, .unset, .unset, .unset, .unset, .unset, .unset, .unset, .unset, .unset, .unset, .unset] [.long Y]
      refine OwnKit.l2d K at_65 rfl ?_
      show OwnKit.Go κ h0 0 0 66 #[.val (.long p), .second, .val (.long q), .second, .val (.int k), .val (.long X), .second, .val (.long Y), .second, .val (.int jj), .val (.int (0 : Int32)), .val (.int cc), .val (.long AA), .second, .val (.double (FP.l2d AA)), .second, .unset, .unset, .unset, .unset, .unset, .unset, .unset, .unset, .unset, .unset, .unset, .unset, .unset, .unset, .unset, .unset, .unset, .unset] [.double (FP.l2d Y)]
      refine OwnKit.dstore K at_66 (l' := #[.val (.long p), .second, .val (.long q), .second, .val (.int k), .val (.long X), .second, .val (.long Y), .second, .val (.int jj), .val (.int (0 : Int32)), .val (.int cc), .val (.long AA), .second, .val (.double (FP.l2d AA)), .second, .val (.double (FP.l2d Y)), .second, .unset, .unset, .unset, .unset, .unset, .unset, .unset, .unset, .unset, .unset, .unset, .unset, .unset, .unset, .unset, .unset]) rfl ?_
      show OwnKit.Go κ h0 0 0 68 #[.val (.long p), .second, .val (.long q), .second, .val (.int k), .val (.long X), .second, .val (.long Y), .second, .val (.int jj), .val (.int (0 : Int32)), .val (.int cc), .val (.long AA), .second, .val (.double (FP.l2d AA)), .second, .val (.double (FP.l2d Y)), .second, .unset, .unset, .unset, .unset, .unset, .unset, .unset, .unset, .unset, .unset, .unset, .unset, .unset, .unset, .unset, .unset] []
      refine OwnKit.dload K at_68 rfl ?_
      show OwnKit.Go κ h0 0 0 70 #[.val (.long p), .second, .val (.long q), .second, .val (.int k), .val (.long X), .second, .val (.long Y), .second, .val (.int jj), .val (.int (0 : Int32)), .val (.int cc), .val (.long AA), .second, .val (.double (FP.l2d AA)), .second, .val (.double (FP.l2d Y)), .second, .unset, .unset, .unset, .unset, .unset, .unset, .unset, .unset, .unset, .unset, .unset, .unset, .unset, .unset, .unset, .unset] [.double (FP.l2d AA)]
      refine OwnKit.dload K at_70 rfl ?_
      show OwnKit.Go κ h0 0 0 72 #[.val (.long p), .second, .val (.long q), .second, .val (.int k), .val (.long X), .second, .val (.long Y), .second, .val (.int jj), .val (.int (0 : Int32)), .val (.int cc), .val (.long AA), .second, .val (.double (FP.l2d AA)), .second, .val (.double (FP.l2d Y)), .second, .unset, .unset, .unset, .unset, .unset, .unset, .unset, .unset, .unset, .unset, .unset, .unset, .unset, .unset, .unset, .unset] [.double (FP.l2d Y), .double (FP.l2d AA)]
      refine OwnKit.dadd K at_72 (Jvm.OwnFP.fvn (Jvm.OwnFP.own_s hA hj9 bX bY)) rfl ?_
      show OwnKit.Go κ h0 0 0 73 #[.val (.long p), .second, .val (.long q), .second, .val (.int k), .val (.long X), .second, .val (.long Y), .second, .val (.int jj), .val (.int (0 : Int32)), .val (.int cc), .val (.long AA), .second, .val (.double (FP.l2d AA)), .second, .val (.double (FP.l2d Y)), .second, .unset, .unset, .unset, .unset, .unset, .unset, .unset, .unset, .unset, .unset, .unset, .unset, .unset, .unset, .unset, .unset] [.double (FP.dadd (FP.l2d AA) (FP.l2d Y))]
      refine OwnKit.dstore K at_73 (l' := #[.val (.long p), .second, .val (.long q), .second, .val (.int k), .val (.long X), .second, .val (.long Y), .second, .val (.int jj), .val (.int (0 : Int32)), .val (.int cc), .val (.long AA), .second, .val (.double (FP.l2d AA)), .second, .val (.double (FP.l2d Y)), .second, .val (.double (FP.dadd (FP.l2d AA) (FP.l2d Y))), .second, .unset, .unset, .unset, .unset, .unset, .unset, .unset, .unset, .unset, .unset, .unset, .unset, .unset, .unset]) rfl ?_
      show OwnKit.Go κ h0 0 0 75 #[.val (.long p), .second, .val (.long q), .second, .val (.int k), .val (.long X), .second, .val (.long Y), .second, .val (.int jj), .val (.int (0 : Int32)), .val (.int cc), .val (.long AA), .second, .val (.double (FP.l2d AA)), .second, .val (.double (FP.l2d Y)), .second, .val (.double (FP.dadd (FP.l2d AA) (FP.l2d Y))), .second, .unset, .unset, .unset, .unset, .unset, .unset, .unset, .unset, .unset, .unset, .unset, .unset, .unset, .unset] []
      refine OwnKit.lload K at_75 rfl ?_
      show OwnKit.Go κ h0 0 0 77 #[.val (.long p), .second, .val (.long q), .second, .val (.int k), .val (.long X), .second, .val (.long Y), .second, .val (.int jj), .val (.int (0 : Int32)), .val (.int cc), .val (.long AA), .second, .val (.double (FP.l2d AA)), .second, .val (.double (FP.l2d Y)), .second, .val (.double (FP.dadd (FP.l2d AA) (FP.l2d Y))), .second, .unset, .unset, .unset, .unset, .unset, .unset, .unset, .unset, .unset, .unset, .unset, .unset, .unset, .unset] [.long AA]
      refine OwnKit.lload K at_77 rfl ?_
      show OwnKit.Go κ h0 0 0 79 #[.val (.long p), .second, .val (.long q), .second, .val (.int k), .val (.long X), .second, .val (.long Y), .second, .val (.int jj), .val (.int (0 : Int32)), .val (.int cc), .val (.long AA), .second, .val (.double (FP.l2d AA)), .second, .val (.double (FP.l2d Y)), .second, .val (.double (FP.dadd (FP.l2d AA) (FP.l2d Y))), .second, .unset, .unset, .unset, .unset, .unset, .unset, .unset, .unset, .unset, .unset, .unset, .unset, .unset, .unset] [.long Y, .long AA]
      refine OwnKit.ladd K at_79 ?_
      show OwnKit.Go κ h0 0 0 80 #[.val (.long p), .second, .val (.long q), .second, .val (.int k), .val (.long X), .second, .val (.long Y), .second, .val (.int jj), .val (.int (0 : Int32)), .val (.int cc), .val (.long AA), .second, .val (.double (FP.l2d AA)), .second, .val (.double (FP.l2d Y)), .second, .val (.double (FP.dadd (FP.l2d AA) (FP.l2d Y))), .second, .unset, .unset, .unset, .unset, .unset, .unset, .unset, .unset, .unset, .unset, .unset, .unset, .unset, .unset] [.long (AA + Y)]
      refine OwnKit.lstore K at_80 (l' := #[.val (.long p), .second, .val (.long q), .second, .val (.int k), .val (.long X), .second, .val (.long Y), .second, .val (.int jj), .val (.int (0 : Int32)), .val (.int cc), .val (.long AA), .second, .val (.double (FP.l2d AA)), .second, .val (.double (FP.l2d Y)), .second, .val (.double (FP.dadd (FP.l2d AA) (FP.l2d Y))), .second, .val (.long (AA + Y)), .second, .unset, .unset, .unset, .unset, .unset, .unset, .unset, .unset, .unset, .unset, .unset, .unset]) rfl ?_
      show OwnKit.Go κ h0 0 0 82 #[.val (.long p), .second, .val (.long q), .second, .val (.int k), .val (.long X), .second, .val (.long Y), .second, .val (.int jj), .val (.int (0 : Int32)), .val (.int cc), .val (.long AA), .second, .val (.double (FP.l2d AA)), .second, .val (.double (FP.l2d Y)), .second, .val (.double (FP.dadd (FP.l2d AA) (FP.l2d Y))), .second, .val (.long (AA + Y)), .second, .unset, .unset, .unset, .unset, .unset, .unset, .unset, .unset, .unset, .unset, .unset, .unset] []
      refine OwnKit.lload K at_82 rfl ?_
      show OwnKit.Go κ h0 0 0 84 #[.val (.long p), .second, .val (.long q), .second, .val (.int k), .val (.long X), .second, .val (.long Y), .second, .val (.int jj), .val (.int (0 : Int32)), .val (.int cc), .val (.long AA), .second, .val (.double (FP.l2d AA)), .second, .val (.double (FP.l2d Y)), .second, .val (.double (FP.dadd (FP.l2d AA) (FP.l2d Y))), .second, .val (.long (AA + Y)), .second, .unset, .unset, .unset, .unset, .unset, .unset, .unset, .unset, .unset, .unset, .unset, .unset] [.long (AA + Y)]
      refine OwnKit.dload K at_84 rfl ?_
      show OwnKit.Go κ h0 0 0 86 #[.val (.long p), .second, .val (.long q), .second, .val (.int k), .val (.long X), .second, .val (.long Y), .second, .val (.int jj), .val (.int (0 : Int32)), .val (.int cc), .val (.long AA), .second, .val (.double (FP.l2d AA)), .second, .val (.double (FP.l2d Y)), .second, .val (.double (FP.dadd (FP.l2d AA) (FP.l2d Y))), .second, .val (.long (AA + Y)), .second, .unset, .unset, .unset, .unset, .unset, .unset, .unset, .unset, .unset, .unset, .unset, .unset] [.double (FP.dadd (FP.l2d AA) (FP.l2d Y)), .long (AA + Y)]
      refine OwnKit.d2l K at_86 rfl ?_
      show OwnKit.Go κ h0 0 0 87 #[.val (.long p), .second, .val (.long q), .second, .val (.int k), .val (.long X), .second, .val (.long Y), .second, .val (.int jj), .val (.int (0 : Int32)), .val (.int cc), .val (.long AA), .second, .val (.double (FP.l2d AA)), .second, .val (.double (FP.l2d Y)), .second, .val (.double (FP.dadd (FP.l2d AA) (FP.l2d Y))), .second, .val (.long (AA + Y)), .second, .unset, .unset, .unset, .unset, .unset, .unset, .unset, .unset, .unset, .unset, .unset, .unset] [.long (FP.d2l (FP.dadd (FP.l2d AA) (FP.l2d Y))), .long (AA + Y)]
      refine OwnKit.lsub K at_87 ?_
      show OwnKit.Go κ h0 0 0 88 #[.val (.long p), .second, .val (.long q), .second, .val (.int k), .val (.long X), .second, .val (.long Y), .second, .val (.int jj), .val (.int (0 : Int32)), .val (.int cc), .val (.long AA), .second, .val (.double (FP.l2d AA)), .second, .val (.double (FP.l2d Y)), .second, .val (.double (FP.dadd (FP.l2d AA) (FP.l2d Y))), .second, .val (.long (AA + Y)), .second, .unset, .unset, .unset, .unset, .unset, .unset, .unset, .unset, .unset, .unset, .unset, .unset] [.long ((AA + Y) - (FP.d2l (FP.dadd (FP.l2d AA) (FP.l2d Y))))]
      refine OwnKit.lstore K at_88 (l' := #[.val (.long p), .second, .val (.long q), .second, .val (.int k), .val (.long X), .second, .val (.long Y), .second, .val (.int jj), .val (.int (0 : Int32)), .val (.int cc), .val (.long AA), .second, .val (.double (FP.l2d AA)), .second, .val (.double (FP.l2d Y)), .second, .val (.double (FP.dadd (FP.l2d AA) (FP.l2d Y))), .second, .val (.long (AA + Y)), .second, .val (.long ((AA + Y) - (FP.d2l (FP.dadd (FP.l2d AA) (FP.l2d Y))))), .second, .unset, .unset, .unset, .unset, .unset, .unset, .unset, .unset, .unset, .unset]) rfl ?_
      show OwnKit.Go κ h0 0 0 90 #[.val (.long p), .second, .val (.long q), .second, .val (.int k), .val (.long X), .second, .val (.long Y), .second, .val (.int jj), .val (.int (0 : Int32)), .val (.int cc), .val (.long AA), .second, .val (.double (FP.l2d AA)), .second, .val (.double (FP.l2d Y)), .second, .val (.double (FP.dadd (FP.l2d AA) (FP.l2d Y))), .second, .val (.long (AA + Y)), .second, .val (.long ((AA + Y) - (FP.d2l (FP.dadd (FP.l2d AA) (FP.l2d Y))))), .second, .unset, .unset, .unset, .unset, .unset, .unset, .unset, .unset, .unset, .unset] []
      refine OwnKit.iload K at_90 rfl ?_
      show OwnKit.Go κ h0 0 0 92 #[.val (.long p), .second, .val (.long q), .second, .val (.int k), .val (.long X), .second, .val (.long Y), .second, .val (.int jj), .val (.int (0 : Int32)), .val (.int cc), .val (.long AA), .second, .val (.double (FP.l2d AA)), .second, .val (.double (FP.l2d Y)), .second, .val (.double (FP.dadd (FP.l2d AA) (FP.l2d Y))), .second, .val (.long (AA + Y)), .second, .val (.long ((AA + Y) - (FP.d2l (FP.dadd (FP.l2d AA) (FP.l2d Y))))), .second, .unset, .unset, .unset, .unset, .unset, .unset, .unset, .unset, .unset, .unset] [.int cc]
      refine OwnKit.invS (y := (⟨"com/example/bounds_on_reach/boundsonreach/engine/OutwardSumErrorPinLaw", "scaleOf", "(I)D"⟩ : MethodName)) (argsL := [.int cc]) (rest := []) K (c_scale l Z a0 hw n0 h0 cc) at_92 (hw _ (List.mem_of_getElem? (i := 1) rfl)) (hw _ (List.mem_of_getElem? (i := 2) rfl)) (hw _ (List.mem_of_getElem? (i := 3) rfl)) (hw _ (List.mem_of_getElem? (i := 4) rfl)) (by decide) (lenOf (by decide +kernel : parseMethodDescriptor "(I)D" = some ⟨[.int], some .double⟩) rfl) rfl rfl (W := 0) (Nat.le_of_ble_eq_true rfl) (Nat.le_of_ble_eq_true rfl) (Nat.le_of_ble_eq_true rfl) (Nat.le_of_ble_eq_true rfl) (Nat.le_of_ble_eq_true rfl) ?_
      rintro _ h2 ⟨⟨u, v, rfl, hu, hv⟩, rfl⟩ g3
      show OwnKit.Go κ h0 0 0 95 #[.val (.long p), .second, .val (.long q), .second, .val (.int k), .val (.long X), .second, .val (.long Y), .second, .val (.int jj), .val (.int (0 : Int32)), .val (.int cc), .val (.long AA), .second, .val (.double (FP.l2d AA)), .second, .val (.double (FP.l2d Y)), .second, .val (.double (FP.dadd (FP.l2d AA) (FP.l2d Y))), .second, .val (.long (AA + Y)), .second, .val (.long ((AA + Y) - (FP.d2l (FP.dadd (FP.l2d AA) (FP.l2d Y))))), .second, .unset, .unset, .unset, .unset, .unset, .unset, .unset, .unset, .unset, .unset] [.double v]
      refine OwnKit.dstore K at_95 (l' := #[.val (.long p), .second, .val (.long q), .second, .val (.int k), .val (.long X), .second, .val (.long Y), .second, .val (.int jj), .val (.int (0 : Int32)), .val (.int cc), .val (.long AA), .second, .val (.double (FP.l2d AA)), .second, .val (.double (FP.l2d Y)), .second, .val (.double (FP.dadd (FP.l2d AA) (FP.l2d Y))), .second, .val (.long (AA + Y)), .second, .val (.long ((AA + Y) - (FP.d2l (FP.dadd (FP.l2d AA) (FP.l2d Y))))), .second, .val (.double v), .second, .unset, .unset, .unset, .unset, .unset, .unset, .unset, .unset]) rfl ?_
      show OwnKit.Go κ h0 0 0 97 #[.val (.long p), .second, .val (.long q), .second, .val (.int k), .val (.long X), .second, .val (.long Y), .second, .val (.int jj), .val (.int (0 : Int32)), .val (.int cc), .val (.long AA), .second, .val (.double (FP.l2d AA)), .second, .val (.double (FP.l2d Y)), .second, .val (.double (FP.dadd (FP.l2d AA) (FP.l2d Y))), .second, .val (.long (AA + Y)), .second, .val (.long ((AA + Y) - (FP.d2l (FP.dadd (FP.l2d AA) (FP.l2d Y))))), .second, .val (.double v), .second, .unset, .unset, .unset, .unset, .unset, .unset, .unset, .unset] []
      refine OwnKit.dload K at_97 rfl ?_
      show OwnKit.Go κ h0 0 0 99 #[.val (.long p), .second, .val (.long q), .second, .val (.int k), .val (.long X), .second, .val (.long Y), .second, .val (.int jj), .val (.int (0 : Int32)), .val (.int cc), .val (.long AA), .second, .val (.double (FP.l2d AA)), .second, .val (.double (FP.l2d Y)), .second, .val (.double (FP.dadd (FP.l2d AA) (FP.l2d Y))), .second, .val (.long (AA + Y)), .second, .val (.long ((AA + Y) - (FP.d2l (FP.dadd (FP.l2d AA) (FP.l2d Y))))), .second, .val (.double v), .second, .unset, .unset, .unset, .unset, .unset, .unset, .unset, .unset] [.double (FP.l2d AA)]
      refine OwnKit.dload K at_99 rfl ?_
      show OwnKit.Go κ h0 0 0 101 #[.val (.long p), .second, .val (.long q), .second, .val (.int k), .val (.long X), .second, .val (.long Y), .second, .val (.int jj), .val (.int (0 : Int32)), .val (.int cc), .val (.long AA), .second, .val (.double (FP.l2d AA)), .second, .val (.double (FP.l2d Y)), .second, .val (.double (FP.dadd (FP.l2d AA) (FP.l2d Y))), .second, .val (.long (AA + Y)), .second, .val (.long ((AA + Y) - (FP.d2l (FP.dadd (FP.l2d AA) (FP.l2d Y))))), .second, .val (.double v), .second, .unset, .unset, .unset, .unset, .unset, .unset, .unset, .unset] [.double v, .double (FP.l2d AA)]
      refine OwnKit.dmul K at_101 (Jvm.OwnFP.fvn (Jvm.OwnFP.own_ab hA hj9 bX bY hu hv).1) rfl ?_
      show OwnKit.Go κ h0 0 0 102 #[.val (.long p), .second, .val (.long q), .second, .val (.int k), .val (.long X), .second, .val (.long Y), .second, .val (.int jj), .val (.int (0 : Int32)), .val (.int cc), .val (.long AA), .second, .val (.double (FP.l2d AA)), .second, .val (.double (FP.l2d Y)), .second, .val (.double (FP.dadd (FP.l2d AA) (FP.l2d Y))), .second, .val (.long (AA + Y)), .second, .val (.long ((AA + Y) - (FP.d2l (FP.dadd (FP.l2d AA) (FP.l2d Y))))), .second, .val (.double v), .second, .unset, .unset, .unset, .unset, .unset, .unset, .unset, .unset] [.double (FP.dmul (FP.l2d AA) v)]
      refine OwnKit.dstore K at_102 (l' := #[.val (.long p), .second, .val (.long q), .second, .val (.int k), .val (.long X), .second, .val (.long Y), .second, .val (.int jj), .val (.int (0 : Int32)), .val (.int cc), .val (.long AA), .second, .val (.double (FP.l2d AA)), .second, .val (.double (FP.l2d Y)), .second, .val (.double (FP.dadd (FP.l2d AA) (FP.l2d Y))), .second, .val (.long (AA + Y)), .second, .val (.long ((AA + Y) - (FP.d2l (FP.dadd (FP.l2d AA) (FP.l2d Y))))), .second, .val (.double v), .second, .val (.double (FP.dmul (FP.l2d AA) v)), .second, .unset, .unset, .unset, .unset, .unset, .unset]) rfl ?_
      show OwnKit.Go κ h0 0 0 104 #[.val (.long p), .second, .val (.long q), .second, .val (.int k), .val (.long X), .second, .val (.long Y), .second, .val (.int jj), .val (.int (0 : Int32)), .val (.int cc), .val (.long AA), .second, .val (.double (FP.l2d AA)), .second, .val (.double (FP.l2d Y)), .second, .val (.double (FP.dadd (FP.l2d AA) (FP.l2d Y))), .second, .val (.long (AA + Y)), .second, .val (.long ((AA + Y) - (FP.d2l (FP.dadd (FP.l2d AA) (FP.l2d Y))))), .second, .val (.double v), .second, .val (.double (FP.dmul (FP.l2d AA) v)), .second, .unset, .unset, .unset, .unset, .unset, .unset] []
      refine OwnKit.dload K at_104 rfl ?_
      show OwnKit.Go κ h0 0 0 106 #[.val (.long p), .second, .val (.long q), .second, .val (.int k), .val (.long X), .second, .val (.long Y), .second, .val (.int jj), .val (.int (0 : Int32)), .val (.int cc), .val (.long AA), .second, .val (.double (FP.l2d AA)), .second, .val (.double (FP.l2d Y)), .second, .val (.double (FP.dadd (FP.l2d AA) (FP.l2d Y))), .second, .val (.long (AA + Y)), .second, .val (.long ((AA + Y) - (FP.d2l (FP.dadd (FP.l2d AA) (FP.l2d Y))))), .second, .val (.double v), .second, .val (.double (FP.dmul (FP.l2d AA) v)), .second, .unset, .unset, .unset, .unset, .unset, .unset] [.double (FP.l2d Y)]
      refine OwnKit.dload K at_106 rfl ?_
      show OwnKit.Go κ h0 0 0 108 #[.val (.long p), .second, .val (.long q), .second, .val (.int k), .val (.long X), .second, .val (.long Y), .second, .val (.int jj), .val (.int (0 : Int32)), .val (.int cc), .val (.long AA), .second, .val (.double (FP.l2d AA)), .second, .val (.double (FP.l2d Y)), .second, .val (.double (FP.dadd (FP.l2d AA) (FP.l2d Y))), .second, .val (.long (AA + Y)), .second, .val (.long ((AA + Y) - (FP.d2l (FP.dadd (FP.l2d AA) (FP.l2d Y))))), .second, .val (.double v), .second, .val (.double (FP.dmul (FP.l2d AA) v)), .second, .unset, .unset, .unset, .unset, .unset, .unset] [.double v, .double (FP.l2d Y)]
      refine OwnKit.dmul K at_108 (Jvm.OwnFP.fvn (Jvm.OwnFP.own_ab hA hj9 bX bY hu hv).2) rfl ?_
      show OwnKit.Go κ h0 0 0 109 #[.val (.long p), .second, .val (.long q), .second, .val (.int k), .val (.long X), .second, .val (.long Y), .second, .val (.int jj), .val (.int (0 : Int32)), .val (.int cc), .val (.long AA), .second, .val (.double (FP.l2d AA)), .second, .val (.double (FP.l2d Y)), .second, .val (.double (FP.dadd (FP.l2d AA) (FP.l2d Y))), .second, .val (.long (AA + Y)), .second, .val (.long ((AA + Y) - (FP.d2l (FP.dadd (FP.l2d AA) (FP.l2d Y))))), .second, .val (.double v), .second, .val (.double (FP.dmul (FP.l2d AA) v)), .second, .unset, .unset, .unset, .unset, .unset, .unset] [.double (FP.dmul (FP.l2d Y) v)]
      refine OwnKit.dstore K at_109 (l' := #[.val (.long p), .second, .val (.long q), .second, .val (.int k), .val (.long X), .second, .val (.long Y), .second, .val (.int jj), .val (.int (0 : Int32)), .val (.int cc), .val (.long AA), .second, .val (.double (FP.l2d AA)), .second, .val (.double (FP.l2d Y)), .second, .val (.double (FP.dadd (FP.l2d AA) (FP.l2d Y))), .second, .val (.long (AA + Y)), .second, .val (.long ((AA + Y) - (FP.d2l (FP.dadd (FP.l2d AA) (FP.l2d Y))))), .second, .val (.double v), .second, .val (.double (FP.dmul (FP.l2d AA) v)), .second, .val (.double (FP.dmul (FP.l2d Y) v)), .second, .unset, .unset, .unset, .unset]) rfl ?_
      show OwnKit.Go κ h0 0 0 111 #[.val (.long p), .second, .val (.long q), .second, .val (.int k), .val (.long X), .second, .val (.long Y), .second, .val (.int jj), .val (.int (0 : Int32)), .val (.int cc), .val (.long AA), .second, .val (.double (FP.l2d AA)), .second, .val (.double (FP.l2d Y)), .second, .val (.double (FP.dadd (FP.l2d AA) (FP.l2d Y))), .second, .val (.long (AA + Y)), .second, .val (.long ((AA + Y) - (FP.d2l (FP.dadd (FP.l2d AA) (FP.l2d Y))))), .second, .val (.double v), .second, .val (.double (FP.dmul (FP.l2d AA) v)), .second, .val (.double (FP.dmul (FP.l2d Y) v)), .second, .unset, .unset, .unset, .unset] []
      refine OwnKit.lload K at_111 rfl ?_
      show OwnKit.Go κ h0 0 0 113 #[.val (.long p), .second, .val (.long q), .second, .val (.int k), .val (.long X), .second, .val (.long Y), .second, .val (.int jj), .val (.int (0 : Int32)), .val (.int cc), .val (.long AA), .second, .val (.double (FP.l2d AA)), .second, .val (.double (FP.l2d Y)), .second, .val (.double (FP.dadd (FP.l2d AA) (FP.l2d Y))), .second, .val (.long (AA + Y)), .second, .val (.long ((AA + Y) - (FP.d2l (FP.dadd (FP.l2d AA) (FP.l2d Y))))), .second, .val (.double v), .second, .val (.double (FP.dmul (FP.l2d AA) v)), .second, .val (.double (FP.dmul (FP.l2d Y) v)), .second, .unset, .unset, .unset, .unset] [.long ((AA + Y) - (FP.d2l (FP.dadd (FP.l2d AA) (FP.l2d Y))))]
      refine OwnKit.l2d K at_113 rfl ?_
      show OwnKit.Go κ h0 0 0 114 #[.val (.long p), .second, .val (.long q), .second, .val (.int k), .val (.long X), .second, .val (.long Y), .second, .val (.int jj), .val (.int (0 : Int32)), .val (.int cc), .val (.long AA), .second, .val (.double (FP.l2d AA)), .second, .val (.double (FP.l2d Y)), .second, .val (.double (FP.dadd (FP.l2d AA) (FP.l2d Y))), .second, .val (.long (AA + Y)), .second, .val (.long ((AA + Y) - (FP.d2l (FP.dadd (FP.l2d AA) (FP.l2d Y))))), .second, .val (.double v), .second, .val (.double (FP.dmul (FP.l2d AA) v)), .second, .val (.double (FP.dmul (FP.l2d Y) v)), .second, .unset, .unset, .unset, .unset] [.double (FP.l2d ((AA + Y) - (FP.d2l (FP.dadd (FP.l2d AA) (FP.l2d Y)))))]
      refine OwnKit.dload K at_114 rfl ?_
      show OwnKit.Go κ h0 0 0 116 #[.val (.long p), .second, .val (.long q), .second, .val (.int k), .val (.long X), .second, .val (.long Y), .second, .val (.int jj), .val (.int (0 : Int32)), .val (.int cc), .val (.long AA), .second, .val (.double (FP.l2d AA)), .second, .val (.double (FP.l2d Y)), .second, .val (.double (FP.dadd (FP.l2d AA) (FP.l2d Y))), .second, .val (.long (AA + Y)), .second, .val (.long ((AA + Y) - (FP.d2l (FP.dadd (FP.l2d AA) (FP.l2d Y))))), .second, .val (.double v), .second, .val (.double (FP.dmul (FP.l2d AA) v)), .second, .val (.double (FP.dmul (FP.l2d Y) v)), .second, .unset, .unset, .unset, .unset] [.double v, .double (FP.l2d ((AA + Y) - (FP.d2l (FP.dadd (FP.l2d AA) (FP.l2d Y)))))]
      refine OwnKit.dmul K at_116 (Jvm.OwnFP.fvn (Jvm.OwnFP.own_ref hA hj9 bX bY hu hv)) rfl ?_
      show OwnKit.Go κ h0 0 0 117 #[.val (.long p), .second, .val (.long q), .second, .val (.int k), .val (.long X), .second, .val (.long Y), .second, .val (.int jj), .val (.int (0 : Int32)), .val (.int cc), .val (.long AA), .second, .val (.double (FP.l2d AA)), .second, .val (.double (FP.l2d Y)), .second, .val (.double (FP.dadd (FP.l2d AA) (FP.l2d Y))), .second, .val (.long (AA + Y)), .second, .val (.long ((AA + Y) - (FP.d2l (FP.dadd (FP.l2d AA) (FP.l2d Y))))), .second, .val (.double v), .second, .val (.double (FP.dmul (FP.l2d AA) v)), .second, .val (.double (FP.dmul (FP.l2d Y) v)), .second, .unset, .unset, .unset, .unset] [.double (FP.dmul (FP.l2d ((AA + Y) - (FP.d2l (FP.dadd (FP.l2d AA) (FP.l2d Y))))) v)]
      refine OwnKit.dstore K at_117 (l' := #[.val (.long p), .second, .val (.long q), .second, .val (.int k), .val (.long X), .second, .val (.long Y), .second, .val (.int jj), .val (.int (0 : Int32)), .val (.int cc), .val (.long AA), .second, .val (.double (FP.l2d AA)), .second, .val (.double (FP.l2d Y)), .second, .val (.double (FP.dadd (FP.l2d AA) (FP.l2d Y))), .second, .val (.long (AA + Y)), .second, .val (.long ((AA + Y) - (FP.d2l (FP.dadd (FP.l2d AA) (FP.l2d Y))))), .second, .val (.double v), .second, .val (.double (FP.dmul (FP.l2d AA) v)), .second, .val (.double (FP.dmul (FP.l2d Y) v)), .second, .val (.double (FP.dmul (FP.l2d ((AA + Y) - (FP.d2l (FP.dadd (FP.l2d AA) (FP.l2d Y))))) v)), .second, .unset, .unset]) rfl ?_
      show OwnKit.Go κ h0 0 0 119 #[.val (.long p), .second, .val (.long q), .second, .val (.int k), .val (.long X), .second, .val (.long Y), .second, .val (.int jj), .val (.int (0 : Int32)), .val (.int cc), .val (.long AA), .second, .val (.double (FP.l2d AA)), .second, .val (.double (FP.l2d Y)), .second, .val (.double (FP.dadd (FP.l2d AA) (FP.l2d Y))), .second, .val (.long (AA + Y)), .second, .val (.long ((AA + Y) - (FP.d2l (FP.dadd (FP.l2d AA) (FP.l2d Y))))), .second, .val (.double v), .second, .val (.double (FP.dmul (FP.l2d AA) v)), .second, .val (.double (FP.dmul (FP.l2d Y) v)), .second, .val (.double (FP.dmul (FP.l2d ((AA + Y) - (FP.d2l (FP.dadd (FP.l2d AA) (FP.l2d Y))))) v)), .second, .unset, .unset] []
      refine OwnKit.iload K at_119 rfl ?_
      show OwnKit.Go κ h0 0 0 121 #[.val (.long p), .second, .val (.long q), .second, .val (.int k), .val (.long X), .second, .val (.long Y), .second, .val (.int jj), .val (.int (0 : Int32)), .val (.int cc), .val (.long AA), .second, .val (.double (FP.l2d AA)), .second, .val (.double (FP.l2d Y)), .second, .val (.double (FP.dadd (FP.l2d AA) (FP.l2d Y))), .second, .val (.long (AA + Y)), .second, .val (.long ((AA + Y) - (FP.d2l (FP.dadd (FP.l2d AA) (FP.l2d Y))))), .second, .val (.double v), .second, .val (.double (FP.dmul (FP.l2d AA) v)), .second, .val (.double (FP.dmul (FP.l2d Y) v)), .second, .val (.double (FP.dmul (FP.l2d ((AA + Y) - (FP.d2l (FP.dadd (FP.l2d AA) (FP.l2d Y))))) v)), .second, .unset, .unset] [.int (0 : Int32)]
      refine OwnKit.ifeq K at_121 (by decide) (pc' := 141) rfl  (fun b4 => ?_) (fun b4 => ?_)
      · show OwnKit.Go κ h0 0 0 141 #[.val (.long p), .second, .val (.long q), .second, .val (.int k), .val (.long X), .second, .val (.long Y), .second, .val (.int jj), .val (.int (0 : Int32)), .val (.int cc), .val (.long AA), .second, .val (.double (FP.l2d AA)), .second, .val (.double (FP.l2d Y)), .second, .val (.double (FP.dadd (FP.l2d AA) (FP.l2d Y))), .second, .val (.long (AA + Y)), .second, .val (.long ((AA + Y) - (FP.d2l (FP.dadd (FP.l2d AA) (FP.l2d Y))))), .second, .val (.double v), .second, .val (.double (FP.dmul (FP.l2d AA) v)), .second, .val (.double (FP.dmul (FP.l2d Y) v)), .second, .val (.double (FP.dmul (FP.l2d ((AA + Y) - (FP.d2l (FP.dadd (FP.l2d AA) (FP.l2d Y))))) v)), .second, .unset, .unset] []
        refine OwnKit.dload K at_141 rfl ?_
        show OwnKit.Go κ h0 0 0 143 #[.val (.long p), .second, .val (.long q), .second, .val (.int k), .val (.long X), .second, .val (.long Y), .second, .val (.int jj), .val (.int (0 : Int32)), .val (.int cc), .val (.long AA), .second, .val (.double (FP.l2d AA)), .second, .val (.double (FP.l2d Y)), .second, .val (.double (FP.dadd (FP.l2d AA) (FP.l2d Y))), .second, .val (.long (AA + Y)), .second, .val (.long ((AA + Y) - (FP.d2l (FP.dadd (FP.l2d AA) (FP.l2d Y))))), .second, .val (.double v), .second, .val (.double (FP.dmul (FP.l2d AA) v)), .second, .val (.double (FP.dmul (FP.l2d Y) v)), .second, .val (.double (FP.dmul (FP.l2d ((AA + Y) - (FP.d2l (FP.dadd (FP.l2d AA) (FP.l2d Y))))) v)), .second, .unset, .unset] [.double (FP.dmul (FP.l2d AA) v)]
        refine OwnKit.dload K at_143 rfl ?_
        show OwnKit.Go κ h0 0 0 145 #[.val (.long p), .second, .val (.long q), .second, .val (.int k), .val (.long X), .second, .val (.long Y), .second, .val (.int jj), .val (.int (0 : Int32)), .val (.int cc), .val (.long AA), .second, .val (.double (FP.l2d AA)), .second, .val (.double (FP.l2d Y)), .second, .val (.double (FP.dadd (FP.l2d AA) (FP.l2d Y))), .second, .val (.long (AA + Y)), .second, .val (.long ((AA + Y) - (FP.d2l (FP.dadd (FP.l2d AA) (FP.l2d Y))))), .second, .val (.double v), .second, .val (.double (FP.dmul (FP.l2d AA) v)), .second, .val (.double (FP.dmul (FP.l2d Y) v)), .second, .val (.double (FP.dmul (FP.l2d ((AA + Y) - (FP.d2l (FP.dadd (FP.l2d AA) (FP.l2d Y))))) v)), .second, .unset, .unset] [.double (FP.dmul (FP.l2d Y) v), .double (FP.dmul (FP.l2d AA) v)]
        refine OwnKit.dload K at_145 rfl ?_
        show OwnKit.Go κ h0 0 0 147 #[.val (.long p), .second, .val (.long q), .second, .val (.int k), .val (.long X), .second, .val (.long Y), .second, .val (.int jj), .val (.int (0 : Int32)), .val (.int cc), .val (.long AA), .second, .val (.double (FP.l2d AA)), .second, .val (.double (FP.l2d Y)), .second, .val (.double (FP.dadd (FP.l2d AA) (FP.l2d Y))), .second, .val (.long (AA + Y)), .second, .val (.long ((AA + Y) - (FP.d2l (FP.dadd (FP.l2d AA) (FP.l2d Y))))), .second, .val (.double v), .second, .val (.double (FP.dmul (FP.l2d AA) v)), .second, .val (.double (FP.dmul (FP.l2d Y) v)), .second, .val (.double (FP.dmul (FP.l2d ((AA + Y) - (FP.d2l (FP.dadd (FP.l2d AA) (FP.l2d Y))))) v)), .second, .unset, .unset] [.double (FP.dmul (FP.l2d AA) v), .double (FP.dmul (FP.l2d Y) v), .double (FP.dmul (FP.l2d AA) v)]
        refine OwnKit.dload K at_147 rfl ?_
        show OwnKit.Go κ h0 0 0 149 #[.val (.long p), .second, .val (.long q), .second, .val (.int k), .val (.long X), .second, .val (.long Y), .second, .val (.int jj), .val (.int (0 : Int32)), .val (.int cc), .val (.long AA), .second, .val (.double (FP.l2d AA)), .second, .val (.double (FP.l2d Y)), .second, .val (.double (FP.dadd (FP.l2d AA) (FP.l2d Y))), .second, .val (.long (AA + Y)), .second, .val (.long ((AA + Y) - (FP.d2l (FP.dadd (FP.l2d AA) (FP.l2d Y))))), .second, .val (.double v), .second, .val (.double (FP.dmul (FP.l2d AA) v)), .second, .val (.double (FP.dmul (FP.l2d Y) v)), .second, .val (.double (FP.dmul (FP.l2d ((AA + Y) - (FP.d2l (FP.dadd (FP.l2d AA) (FP.l2d Y))))) v)), .second, .unset, .unset] [.double (FP.dmul (FP.l2d Y) v), .double (FP.dmul (FP.l2d AA) v), .double (FP.dmul (FP.l2d Y) v), .double (FP.dmul (FP.l2d AA) v)]
        refine OwnKit.dadd K at_149 (Jvm.OwnFP.own_g1 hA hj9 bX bY hu hv).1 rfl ?_
        show OwnKit.Go κ h0 0 0 150 #[.val (.long p), .second, .val (.long q), .second, .val (.int k), .val (.long X), .second, .val (.long Y), .second, .val (.int jj), .val (.int (0 : Int32)), .val (.int cc), .val (.long AA), .second, .val (.double (FP.l2d AA)), .second, .val (.double (FP.l2d Y)), .second, .val (.double (FP.dadd (FP.l2d AA) (FP.l2d Y))), .second, .val (.long (AA + Y)), .second, .val (.long ((AA + Y) - (FP.d2l (FP.dadd (FP.l2d AA) (FP.l2d Y))))), .second, .val (.double v), .second, .val (.double (FP.dmul (FP.l2d AA) v)), .second, .val (.double (FP.dmul (FP.l2d Y) v)), .second, .val (.double (FP.dmul (FP.l2d ((AA + Y) - (FP.d2l (FP.dadd (FP.l2d AA) (FP.l2d Y))))) v)), .second, .unset, .unset] [.double (FP.dadd (FP.dmul (FP.l2d AA) v) (FP.dmul (FP.l2d Y) v)), .double (FP.dmul (FP.l2d Y) v), .double (FP.dmul (FP.l2d AA) v)]
        refine OwnKit.invS (y := (⟨"com/example/bounds_on_reach/boundsonreach/engine/Outward", "sumError", "(DDD)D"⟩ : MethodName)) (argsL := [.double (FP.dmul (FP.l2d AA) v), .double (FP.dmul (FP.l2d Y) v), .double (FP.dadd (FP.dmul (FP.l2d AA) v) (FP.dmul (FP.l2d Y) v))]) (rest := []) K (c_se l Z a0 hw n0 h0 (FP.dmul (FP.l2d AA) v) (FP.dmul (FP.l2d Y) v) (FP.dadd (FP.dmul (FP.l2d AA) v) (FP.dmul (FP.l2d Y) v)) (Jvm.OwnFP.own_g1 hA hj9 bX bY hu hv).2.1) at_150 (hw _ (List.mem_of_getElem? (i := 5) rfl)) (hw _ (List.mem_of_getElem? (i := 6) rfl)) (hw _ (List.mem_of_getElem? (i := 7) rfl)) (hw _ (List.mem_of_getElem? (i := 8) rfl)) (by decide) (lenOf (by decide +kernel : parseMethodDescriptor "(DDD)D" = some ⟨[.double, .double, .double], some .double⟩) rfl) rfl rfl (W := 0) (Nat.le_of_ble_eq_true rfl) (Nat.le_of_ble_eq_true rfl) (Nat.le_of_ble_eq_true rfl) (Nat.le_of_ble_eq_true rfl) (Nat.le_of_ble_eq_true rfl) ?_
        rintro _ h5 ⟨rfl, rfl⟩ g6
        show OwnKit.Go κ h0 0 0 153 #[.val (.long p), .second, .val (.long q), .second, .val (.int k), .val (.long X), .second, .val (.long Y), .second, .val (.int jj), .val (.int (0 : Int32)), .val (.int cc), .val (.long AA), .second, .val (.double (FP.l2d AA)), .second, .val (.double (FP.l2d Y)), .second, .val (.double (FP.dadd (FP.l2d AA) (FP.l2d Y))), .second, .val (.long (AA + Y)), .second, .val (.long ((AA + Y) - (FP.d2l (FP.dadd (FP.l2d AA) (FP.l2d Y))))), .second, .val (.double v), .second, .val (.double (FP.dmul (FP.l2d AA) v)), .second, .val (.double (FP.dmul (FP.l2d Y) v)), .second, .val (.double (FP.dmul (FP.l2d ((AA + Y) - (FP.d2l (FP.dadd (FP.l2d AA) (FP.l2d Y))))) v)), .second, .unset, .unset] [.double (Jvm.OwnFP.seV (FP.dmul (FP.l2d AA) v) (FP.dmul (FP.l2d Y) v) (FP.dadd (FP.dmul (FP.l2d AA) v) (FP.dmul (FP.l2d Y) v)))]
        refine OwnKit.dstore K at_153 (l' := #[.val (.long p), .second, .val (.long q), .second, .val (.int k), .val (.long X), .second, .val (.long Y), .second, .val (.int jj), .val (.int (0 : Int32)), .val (.int cc), .val (.long AA), .second, .val (.double (FP.l2d AA)), .second, .val (.double (FP.l2d Y)), .second, .val (.double (FP.dadd (FP.l2d AA) (FP.l2d Y))), .second, .val (.long (AA + Y)), .second, .val (.long ((AA + Y) - (FP.d2l (FP.dadd (FP.l2d AA) (FP.l2d Y))))), .second, .val (.double v), .second, .val (.double (FP.dmul (FP.l2d AA) v)), .second, .val (.double (FP.dmul (FP.l2d Y) v)), .second, .val (.double (FP.dmul (FP.l2d ((AA + Y) - (FP.d2l (FP.dadd (FP.l2d AA) (FP.l2d Y))))) v)), .second, .val (.double (Jvm.OwnFP.seV (FP.dmul (FP.l2d AA) v) (FP.dmul (FP.l2d Y) v) (FP.dadd (FP.dmul (FP.l2d AA) v) (FP.dmul (FP.l2d Y) v)))), .second]) rfl ?_
        show OwnKit.Go κ h0 0 0 155 #[.val (.long p), .second, .val (.long q), .second, .val (.int k), .val (.long X), .second, .val (.long Y), .second, .val (.int jj), .val (.int (0 : Int32)), .val (.int cc), .val (.long AA), .second, .val (.double (FP.l2d AA)), .second, .val (.double (FP.l2d Y)), .second, .val (.double (FP.dadd (FP.l2d AA) (FP.l2d Y))), .second, .val (.long (AA + Y)), .second, .val (.long ((AA + Y) - (FP.d2l (FP.dadd (FP.l2d AA) (FP.l2d Y))))), .second, .val (.double v), .second, .val (.double (FP.dmul (FP.l2d AA) v)), .second, .val (.double (FP.dmul (FP.l2d Y) v)), .second, .val (.double (FP.dmul (FP.l2d ((AA + Y) - (FP.d2l (FP.dadd (FP.l2d AA) (FP.l2d Y))))) v)), .second, .val (.double (Jvm.OwnFP.seV (FP.dmul (FP.l2d AA) v) (FP.dmul (FP.l2d Y) v) (FP.dadd (FP.dmul (FP.l2d AA) v) (FP.dmul (FP.l2d Y) v)))), .second] []
        refine OwnKit.dload K at_155 rfl ?_
        show OwnKit.Go κ h0 0 0 157 #[.val (.long p), .second, .val (.long q), .second, .val (.int k), .val (.long X), .second, .val (.long Y), .second, .val (.int jj), .val (.int (0 : Int32)), .val (.int cc), .val (.long AA), .second, .val (.double (FP.l2d AA)), .second, .val (.double (FP.l2d Y)), .second, .val (.double (FP.dadd (FP.l2d AA) (FP.l2d Y))), .second, .val (.long (AA + Y)), .second, .val (.long ((AA + Y) - (FP.d2l (FP.dadd (FP.l2d AA) (FP.l2d Y))))), .second, .val (.double v), .second, .val (.double (FP.dmul (FP.l2d AA) v)), .second, .val (.double (FP.dmul (FP.l2d Y) v)), .second, .val (.double (FP.dmul (FP.l2d ((AA + Y) - (FP.d2l (FP.dadd (FP.l2d AA) (FP.l2d Y))))) v)), .second, .val (.double (Jvm.OwnFP.seV (FP.dmul (FP.l2d AA) v) (FP.dmul (FP.l2d Y) v) (FP.dadd (FP.dmul (FP.l2d AA) v) (FP.dmul (FP.l2d Y) v)))), .second] [.double (Jvm.OwnFP.seV (FP.dmul (FP.l2d AA) v) (FP.dmul (FP.l2d Y) v) (FP.dadd (FP.dmul (FP.l2d AA) v) (FP.dmul (FP.l2d Y) v)))]
        refine OwnKit.dload K at_157 rfl ?_
        show OwnKit.Go κ h0 0 0 159 #[.val (.long p), .second, .val (.long q), .second, .val (.int k), .val (.long X), .second, .val (.long Y), .second, .val (.int jj), .val (.int (0 : Int32)), .val (.int cc), .val (.long AA), .second, .val (.double (FP.l2d AA)), .second, .val (.double (FP.l2d Y)), .second, .val (.double (FP.dadd (FP.l2d AA) (FP.l2d Y))), .second, .val (.long (AA + Y)), .second, .val (.long ((AA + Y) - (FP.d2l (FP.dadd (FP.l2d AA) (FP.l2d Y))))), .second, .val (.double v), .second, .val (.double (FP.dmul (FP.l2d AA) v)), .second, .val (.double (FP.dmul (FP.l2d Y) v)), .second, .val (.double (FP.dmul (FP.l2d ((AA + Y) - (FP.d2l (FP.dadd (FP.l2d AA) (FP.l2d Y))))) v)), .second, .val (.double (Jvm.OwnFP.seV (FP.dmul (FP.l2d AA) v) (FP.dmul (FP.l2d Y) v) (FP.dadd (FP.dmul (FP.l2d AA) v) (FP.dmul (FP.l2d Y) v)))), .second] [.double (FP.dmul (FP.l2d ((AA + Y) - (FP.d2l (FP.dadd (FP.l2d AA) (FP.l2d Y))))) v), .double (Jvm.OwnFP.seV (FP.dmul (FP.l2d AA) v) (FP.dmul (FP.l2d Y) v) (FP.dadd (FP.dmul (FP.l2d AA) v) (FP.dmul (FP.l2d Y) v)))]
        refine OwnKit.dcmp K at_159 (own_cmp0 (Jvm.OwnFP.own_g1 hA hj9 bX bY hu hv).2.2) ?_
        show OwnKit.Go κ h0 0 0 160 #[.val (.long p), .second, .val (.long q), .second, .val (.int k), .val (.long X), .second, .val (.long Y), .second, .val (.int jj), .val (.int (0 : Int32)), .val (.int cc), .val (.long AA), .second, .val (.double (FP.l2d AA)), .second, .val (.double (FP.l2d Y)), .second, .val (.double (FP.dadd (FP.l2d AA) (FP.l2d Y))), .second, .val (.long (AA + Y)), .second, .val (.long ((AA + Y) - (FP.d2l (FP.dadd (FP.l2d AA) (FP.l2d Y))))), .second, .val (.double v), .second, .val (.double (FP.dmul (FP.l2d AA) v)), .second, .val (.double (FP.dmul (FP.l2d Y) v)), .second, .val (.double (FP.dmul (FP.l2d ((AA + Y) - (FP.d2l (FP.dadd (FP.l2d AA) (FP.l2d Y))))) v)), .second, .val (.double (Jvm.OwnFP.seV (FP.dmul (FP.l2d AA) v) (FP.dmul (FP.l2d Y) v) (FP.dadd (FP.dmul (FP.l2d AA) v) (FP.dmul (FP.l2d Y) v)))), .second] [.int (0 : Int32)]
        refine OwnKit.ifne K at_160 (by decide) (pc' := 167) rfl  (fun b7 => ?_) (fun b7 => ?_)
        · exact absurd b7 (by decide)
        · show OwnKit.Go κ h0 0 0 163 #[.val (.long p), .second, .val (.long q), .second, .val (.int k), .val (.long X), .second, .val (.long Y), .second, .val (.int jj), .val (.int (0 : Int32)), .val (.int cc), .val (.long AA), .second, .val (.double (FP.l2d AA)), .second, .val (.double (FP.l2d Y)), .second, .val (.double (FP.dadd (FP.l2d AA) (FP.l2d Y))), .second, .val (.long (AA + Y)), .second, .val (.long ((AA + Y) - (FP.d2l (FP.dadd (FP.l2d AA) (FP.l2d Y))))), .second, .val (.double v), .second, .val (.double (FP.dmul (FP.l2d AA) v)), .second, .val (.double (FP.dmul (FP.l2d Y) v)), .second, .val (.double (FP.dmul (FP.l2d ((AA + Y) - (FP.d2l (FP.dadd (FP.l2d AA) (FP.l2d Y))))) v)), .second, .val (.double (Jvm.OwnFP.seV (FP.dmul (FP.l2d AA) v) (FP.dmul (FP.l2d Y) v) (FP.dadd (FP.dmul (FP.l2d AA) v) (FP.dmul (FP.l2d Y) v)))), .second] []
          refine OwnKit.iconst K at_163 ?_
          show OwnKit.Go κ h0 0 0 164 #[.val (.long p), .second, .val (.long q), .second, .val (.int k), .val (.long X), .second, .val (.long Y), .second, .val (.int jj), .val (.int (0 : Int32)), .val (.int cc), .val (.long AA), .second, .val (.double (FP.l2d AA)), .second, .val (.double (FP.l2d Y)), .second, .val (.double (FP.dadd (FP.l2d AA) (FP.l2d Y))), .second, .val (.long (AA + Y)), .second, .val (.long ((AA + Y) - (FP.d2l (FP.dadd (FP.l2d AA) (FP.l2d Y))))), .second, .val (.double v), .second, .val (.double (FP.dmul (FP.l2d AA) v)), .second, .val (.double (FP.dmul (FP.l2d Y) v)), .second, .val (.double (FP.dmul (FP.l2d ((AA + Y) - (FP.d2l (FP.dadd (FP.l2d AA) (FP.l2d Y))))) v)), .second, .val (.double (Jvm.OwnFP.seV (FP.dmul (FP.l2d AA) v) (FP.dmul (FP.l2d Y) v) (FP.dadd (FP.dmul (FP.l2d AA) v) (FP.dmul (FP.l2d Y) v)))), .second] [.int (1 : Int32)]
          refine OwnKit.goto K at_164 (by decide) (pc' := 168) rfl ?_
          show OwnKit.Go κ h0 0 0 168 #[.val (.long p), .second, .val (.long q), .second, .val (.int k), .val (.long X), .second, .val (.long Y), .second, .val (.int jj), .val (.int (0 : Int32)), .val (.int cc), .val (.long AA), .second, .val (.double (FP.l2d AA)), .second, .val (.double (FP.l2d Y)), .second, .val (.double (FP.dadd (FP.l2d AA) (FP.l2d Y))), .second, .val (.long (AA + Y)), .second, .val (.long ((AA + Y) - (FP.d2l (FP.dadd (FP.l2d AA) (FP.l2d Y))))), .second, .val (.double v), .second, .val (.double (FP.dmul (FP.l2d AA) v)), .second, .val (.double (FP.dmul (FP.l2d Y) v)), .second, .val (.double (FP.dmul (FP.l2d ((AA + Y) - (FP.d2l (FP.dadd (FP.l2d AA) (FP.l2d Y))))) v)), .second, .val (.double (Jvm.OwnFP.seV (FP.dmul (FP.l2d AA) v) (FP.dmul (FP.l2d Y) v) (FP.dadd (FP.dmul (FP.l2d AA) v) (FP.dmul (FP.l2d Y) v)))), .second] [.int (1 : Int32)]
          refine OwnKit.ireturn K at_168 (Or.inr (Or.inl rfl)) rfl ?_ (Nat.le_of_ble_eq_true rfl) (Nat.le_of_ble_eq_true rfl)
          exact rfl
      · exact absurd b4 (by decide)
    · show OwnKit.Go κ h0 0 0 33 #[.val (.long p), .second, .val (.long q), .second, .val (.int k), .val (.long X), .second, .val (.long Y), .second, .val (.int jj), .unset, .unset, .unset, .unset, .unset, .unset, .unset, .unset, .unset, .unset, .unset, .unset, .unset, .unset, .unset, .unset, .unset, .unset, .unset, .unset, .unset, .unset, .unset, .unset] []
      refine OwnKit.iconst K at_33 ?_
      show OwnKit.Go κ h0 0 0 34 #[.val (.long p), .second, .val (.long q), .second, .val (.int k), .val (.long X), .second, .val (.long Y), .second, .val (.int jj), .unset, .unset, .unset, .unset, .unset, .unset, .unset, .unset, .unset, .unset, .unset, .unset, .unset, .unset, .unset, .unset, .unset, .unset, .unset, .unset, .unset, .unset, .unset, .unset] [.int (1 : Int32)]
      refine OwnKit.goto K at_34 (by decide) (pc' := 38) rfl ?_
      show OwnKit.Go κ h0 0 0 38 #[.val (.long p), .second, .val (.long q), .second, .val (.int k), .val (.long X), .second, .val (.long Y), .second, .val (.int jj), .unset, .unset, .unset, .unset, .unset, .unset, .unset, .unset, .unset, .unset, .unset, .unset, .unset, .unset, .unset, .unset, .unset, .unset, .unset, .unset, .unset, .unset, .unset, .unset] [.int (1 : Int32)]
      refine OwnKit.istore K at_38 (l' := #[.val (.long p), .second, .val (.long q), .second, .val (.int k), .val (.long X), .second, .val (.long Y), .second, .val (.int jj), .val (.int (1 : Int32)), .unset, .unset, .unset, .unset, .unset, .unset, .unset, .unset, .unset, .unset, .unset, .unset, .unset, .unset, .unset, .unset, .unset, .unset, .unset, .unset, .unset, .unset, .unset]) rfl ?_
      show OwnKit.Go κ h0 0 0 40 #[.val (.long p), .second, .val (.long q), .second, .val (.int k), .val (.long X), .second, .val (.long Y), .second, .val (.int jj), .val (.int (1 : Int32)), .unset, .unset, .unset, .unset, .unset, .unset, .unset, .unset, .unset, .unset, .unset, .unset, .unset, .unset, .unset, .unset, .unset, .unset, .unset, .unset, .unset, .unset, .unset] []
      refine OwnKit.iload K at_40 rfl ?_
      show OwnKit.Go κ h0 0 0 42 #[.val (.long p), .second, .val (.long q), .second, .val (.int k), .val (.long X), .second, .val (.long Y), .second, .val (.int jj), .val (.int (1 : Int32)), .unset, .unset, .unset, .unset, .unset, .unset, .unset, .unset, .unset, .unset, .unset, .unset, .unset, .unset, .unset, .unset, .unset, .unset, .unset, .unset, .unset, .unset, .unset] [.int k]
      refine OwnKit.iconst K at_42 ?_
      show OwnKit.Go κ h0 0 0 43 #[.val (.long p), .second, .val (.long q), .second, .val (.int k), .val (.long X), .second, .val (.long Y), .second, .val (.int jj), .val (.int (1 : Int32)), .unset, .unset, .unset, .unset, .unset, .unset, .unset, .unset, .unset, .unset, .unset, .unset, .unset, .unset, .unset, .unset, .unset, .unset, .unset, .unset, .unset, .unset, .unset] [.int (5 : Int32), .int k]
      refine OwnKit.iushr K at_43 ?_
      show OwnKit.Go κ h0 0 0 44 #[.val (.long p), .second, .val (.long q), .second, .val (.int k), .val (.long X), .second, .val (.long Y), .second, .val (.int jj), .val (.int (1 : Int32)), .unset, .unset, .unset, .unset, .unset, .unset, .unset, .unset, .unset, .unset, .unset, .unset, .unset, .unset, .unset, .unset, .unset, .unset, .unset, .unset, .unset, .unset, .unset] [.int (XT.ushr k (5 : Int32))]
      refine OwnKit.bipush K at_44 ?_
      show OwnKit.Go κ h0 0 0 46 #[.val (.long p), .second, .val (.long q), .second, .val (.int k), .val (.long X), .second, .val (.long Y), .second, .val (.int jj), .val (.int (1 : Int32)), .unset, .unset, .unset, .unset, .unset, .unset, .unset, .unset, .unset, .unset, .unset, .unset, .unset, .unset, .unset, .unset, .unset, .unset, .unset, .unset, .unset, .unset, .unset] [.int (7 : Int32), .int (XT.ushr k (5 : Int32))]
      refine OwnKit.iand K at_46 ?_
      show OwnKit.Go κ h0 0 0 47 #[.val (.long p), .second, .val (.long q), .second, .val (.int k), .val (.long X), .second, .val (.long Y), .second, .val (.int jj), .val (.int (1 : Int32)), .unset, .unset, .unset, .unset, .unset, .unset, .unset, .unset, .unset, .unset, .unset, .unset, .unset, .unset, .unset, .unset, .unset, .unset, .unset, .unset, .unset, .unset, .unset] [.int ((XT.ushr k (5 : Int32)) &&& (7 : Int32))]
      refine OwnKit.iconst K at_47 ?_
      show OwnKit.Go κ h0 0 0 48 #[.val (.long p), .second, .val (.long q), .second, .val (.int k), .val (.long X), .second, .val (.long Y), .second, .val (.int jj), .val (.int (1 : Int32)), .unset, .unset, .unset, .unset, .unset, .unset, .unset, .unset, .unset, .unset, .unset, .unset, .unset, .unset, .unset, .unset, .unset, .unset, .unset, .unset, .unset, .unset, .unset] [.int (5 : Int32), .int ((XT.ushr k (5 : Int32)) &&& (7 : Int32))]
      refine OwnKit.irem K at_48 (by decide) ?_
      show OwnKit.Go κ h0 0 0 49 #[.val (.long p), .second, .val (.long q), .second, .val (.int k), .val (.long X), .second, .val (.long Y), .second, .val (.int jj), .val (.int (1 : Int32)), .unset, .unset, .unset, .unset, .unset, .unset, .unset, .unset, .unset, .unset, .unset, .unset, .unset, .unset, .unset, .unset, .unset, .unset, .unset, .unset, .unset, .unset, .unset] [.int (((XT.ushr k (5 : Int32)) &&& (7 : Int32)) % (5 : Int32))]
      generalize hcc : ((XT.ushr k (5 : Int32)) &&& (7 : Int32)) % (5 : Int32) = cc
      show OwnKit.Go κ h0 0 0 49 #[.val (.long p), .second, .val (.long q), .second, .val (.int k), .val (.long X), .second, .val (.long Y), .second, .val (.int jj), .val (.int (1 : Int32)), .unset, .unset, .unset, .unset, .unset, .unset, .unset, .unset, .unset, .unset, .unset, .unset, .unset, .unset, .unset, .unset, .unset, .unset, .unset, .unset, .unset, .unset, .unset] [.int cc]
      refine OwnKit.istore K at_49 (l' := #[.val (.long p), .second, .val (.long q), .second, .val (.int k), .val (.long X), .second, .val (.long Y), .second, .val (.int jj), .val (.int (1 : Int32)), .val (.int cc), .unset, .unset, .unset, .unset, .unset, .unset, .unset, .unset, .unset, .unset, .unset, .unset, .unset, .unset, .unset, .unset, .unset, .unset, .unset, .unset, .unset, .unset]) rfl ?_
      show OwnKit.Go κ h0 0 0 51 #[.val (.long p), .second, .val (.long q), .second, .val (.int k), .val (.long X), .second, .val (.long Y), .second, .val (.int jj), .val (.int (1 : Int32)), .val (.int cc), .unset, .unset, .unset, .unset, .unset, .unset, .unset, .unset, .unset, .unset, .unset, .unset, .unset, .unset, .unset, .unset, .unset, .unset, .unset, .unset, .unset, .unset] []
      refine OwnKit.lload K at_51 rfl ?_
      show OwnKit.Go κ h0 0 0 53 #[.val (.long p), .second, .val (.long q), .second, .val (.int k), .val (.long X), .second, .val (.long Y), .second, .val (.int jj), .val (.int (1 : Int32)), .val (.int cc), .unset, .unset, .unset, .unset, .unset, .unset, .unset, .unset, .unset, .unset, .unset, .unset, .unset, .unset, .unset, .unset, .unset, .unset, .unset, .unset, .unset, .unset] [.long X]
      refine OwnKit.iload K at_53 rfl ?_
      show OwnKit.Go κ h0 0 0 55 #[.val (.long p), .second, .val (.long q), .second, .val (.int k), .val (.long X), .second, .val (.long Y), .second, .val (.int jj), .val (.int (1 : Int32)), .val (.int cc), .unset, .unset, .unset, .unset, .unset, .unset, .unset, .unset, .unset, .unset, .unset, .unset, .unset, .unset, .unset, .unset, .unset, .unset, .unset, .unset, .unset, .unset] [.int jj, .long X]
      refine OwnKit.lshl K at_55 ?_
      show OwnKit.Go κ h0 0 0 56 #[.val (.long p), .second, .val (.long q), .second, .val (.int k), .val (.long X), .second, .val (.long Y), .second, .val (.int jj), .val (.int (1 : Int32)), .val (.int cc), .unset, .unset, .unset, .unset, .unset, .unset, .unset, .unset, .unset, .unset, .unset, .unset, .unset, .unset, .unset, .unset, .unset, .unset, .unset, .unset, .unset, .unset] [.long (X <<< (jj.toInt64 &&& 63))]
      generalize hAA : X <<< (jj.toInt64 &&& 63) = AA
      show OwnKit.Go κ h0 0 0 56 #[.val (.long p), .second, .val (.long q), .second, .val (.int k), .val (.long X), .second, .val (.long Y), .second, .val (.int jj), .val (.int (1 : Int32)), .val (.int cc), .unset, .unset, .unset, .unset, .unset, .unset, .unset, .unset, .unset, .unset, .unset, .unset, .unset, .unset, .unset, .unset, .unset, .unset, .unset, .unset, .unset, .unset] [.long AA]
      have hA := Jvm.OwnFP.own_shl bX bj.1 bj.2 hAA
      have hj9 : jj.toInt.toNat ≤ 9 := by have := bj.2; omega
      refine OwnKit.lstore K at_56 (l' := #[.val (.long p), .second, .val (.long q), .second, .val (.int k), .val (.long X), .second, .val (.long Y), .second, .val (.int jj), .val (.int (1 : Int32)), .val (.int cc), .val (.long AA), .second, .unset, .unset, .unset, .unset, .unset, .unset, .unset, .unset, .unset, .unset, .unset, .unset, .unset, .unset, .unset, .unset, .unset, .unset, .unset, .unset]) rfl ?_
      show OwnKit.Go κ h0 0 0 58 #[.val (.long p), .second, .val (.long q), .second, .val (.int k), .val (.long X), .second, .val (.long Y), .second, .val (.int jj), .val (.int (1 : Int32)), .val (.int cc), .val (.long AA), .second, .unset, .unset, .unset, .unset, .unset, .unset, .unset, .unset, .unset, .unset, .unset, .unset, .unset, .unset, .unset, .unset, .unset, .unset, .unset, .unset] []
      refine OwnKit.lload K at_58 rfl ?_
      show OwnKit.Go κ h0 0 0 60 #[.val (.long p), .second, .val (.long q), .second, .val (.int k), .val (.long X), .second, .val (.long Y), .second, .val (.int jj), .val (.int (1 : Int32)), .val (.int cc), .val (.long AA), .second, .unset, .unset, .unset, .unset, .unset, .unset, .unset, .unset, .unset, .unset, .unset, .unset, .unset, .unset, .unset, .unset, .unset, .unset, .unset, .unset] [.long AA]
      refine OwnKit.l2d K at_60 rfl ?_
      show OwnKit.Go κ h0 0 0 61 #[.val (.long p), .second, .val (.long q), .second, .val (.int k), .val (.long X), .second, .val (.long Y), .second, .val (.int jj), .val (.int (1 : Int32)), .val (.int cc), .val (.long AA), .second, .unset, .unset, .unset, .unset, .unset, .unset, .unset, .unset, .unset, .unset, .unset, .unset, .unset, .unset, .unset, .unset, .unset, .unset, .unset, .unset] [.double (FP.l2d AA)]
      refine OwnKit.dstore K at_61 (l' := #[.val (.long p), .second, .val (.long q), .second, .val (.int k), .val (.long X), .second, .val (.long Y), .second, .val (.int jj), .val (.int (1 : Int32)), .val (.int cc), .val (.long AA), .second, .val (.double (FP.l2d AA)), .second, .unset, .unset, .unset, .unset, .unset, .unset, .unset, .unset, .unset, .unset, .unset, .unset, .unset, .unset, .unset, .unset, .unset, .unset]) rfl ?_
      show OwnKit.Go κ h0 0 0 63 #[.val (.long p), .second, .val (.long q), .second, .val (.int k), .val (.long X), .second, .val (.long Y), .second, .val (.int jj), .val (.int (1 : Int32)), .val (.int cc), .val (.long AA), .second, .val (.double (FP.l2d AA)), .second, .unset, .unset, .unset, .unset, .unset, .unset, .unset, .unset, .unset, .unset, .unset, .unset, .unset, .unset, .unset, .unset, .unset, .unset] []
      refine OwnKit.lload K at_63 rfl ?_
      show OwnKit.Go κ h0 0 0 65 #[.val (.long p), .second, .val (.long q), .second, .val (.int k), .val (.long X), .second, .val (.long Y), .second, .val (.int jj), .val (.int (1 : Int32)), .val (.int cc), .val (.long AA), .second, .val (.double (FP.l2d AA)), .second, .unset, .unset, .unset, .unset, .unset, .unset, .unset, .unset, .unset, .unset, .unset, .unset, .unset, .unset, .unset, .unset, .unset, .unset] [.long Y]
      refine OwnKit.l2d K at_65 rfl ?_
      show OwnKit.Go κ h0 0 0 66 #[.val (.long p), .second, .val (.long q), .second, .val (.int k), .val (.long X), .second, .val (.long Y), .second, .val (.int jj), .val (.int (1 : Int32)), .val (.int cc), .val (.long AA), .second, .val (.double (FP.l2d AA)), .second, .unset, .unset, .unset, .unset, .unset, .unset, .unset, .unset, .unset, .unset, .unset, .unset, .unset, .unset, .unset, .unset, .unset, .unset] [.double (FP.l2d Y)]
      refine OwnKit.dstore K at_66 (l' := #[.val (.long p), .second, .val (.long q), .second, .val (.int k), .val (.long X), .second, .val (.long Y), .second, .val (.int jj), .val (.int (1 : Int32)), .val (.int cc), .val (.long AA), .second, .val (.double (FP.l2d AA)), .second, .val (.double (FP.l2d Y)), .second, .unset, .unset, .unset, .unset, .unset, .unset, .unset, .unset, .unset, .unset, .unset, .unset, .unset, .unset, .unset, .unset]) rfl ?_
      show OwnKit.Go κ h0 0 0 68 #[.val (.long p), .second, .val (.long q), .second, .val (.int k), .val (.long X), .second, .val (.long Y), .second, .val (.int jj), .val (.int (1 : Int32)), .val (.int cc), .val (.long AA), .second, .val (.double (FP.l2d AA)), .second, .val (.double (FP.l2d Y)), .second, .unset, .unset, .unset, .unset, .unset, .unset, .unset, .unset, .unset, .unset, .unset, .unset, .unset, .unset, .unset, .unset] []
      refine OwnKit.dload K at_68 rfl ?_
      show OwnKit.Go κ h0 0 0 70 #[.val (.long p), .second, .val (.long q), .second, .val (.int k), .val (.long X), .second, .val (.long Y), .second, .val (.int jj), .val (.int (1 : Int32)), .val (.int cc), .val (.long AA), .second, .val (.double (FP.l2d AA)), .second, .val (.double (FP.l2d Y)), .second, .unset, .unset, .unset, .unset, .unset, .unset, .unset, .unset, .unset, .unset, .unset, .unset, .unset, .unset, .unset, .unset] [.double (FP.l2d AA)]
      refine OwnKit.dload K at_70 rfl ?_
      show OwnKit.Go κ h0 0 0 72 #[.val (.long p), .second, .val (.long q), .second, .val (.int k), .val (.long X), .second, .val (.long Y), .second, .val (.int jj), .val (.int (1 : Int32)), .val (.int cc), .val (.long AA), .second, .val (.double (FP.l2d AA)), .second, .val (.double (FP.l2d Y)), .second, .unset, .unset, .unset, .unset, .unset, .unset, .unset, .unset, .unset, .unset, .unset, .unset, .unset, .unset, .unset, .unset] [.double (FP.l2d Y), .double (FP.l2d AA)]
      refine OwnKit.dadd K at_72 (Jvm.OwnFP.fvn (Jvm.OwnFP.own_s hA hj9 bX bY)) rfl ?_
      show OwnKit.Go κ h0 0 0 73 #[.val (.long p), .second, .val (.long q), .second, .val (.int k), .val (.long X), .second, .val (.long Y), .second, .val (.int jj), .val (.int (1 : Int32)), .val (.int cc), .val (.long AA), .second, .val (.double (FP.l2d AA)), .second, .val (.double (FP.l2d Y)), .second, .unset, .unset, .unset, .unset, .unset, .unset, .unset, .unset, .unset, .unset, .unset, .unset, .unset, .unset, .unset, .unset] [.double (FP.dadd (FP.l2d AA) (FP.l2d Y))]
      refine OwnKit.dstore K at_73 (l' := #[.val (.long p), .second, .val (.long q), .second, .val (.int k), .val (.long X), .second, .val (.long Y), .second, .val (.int jj), .val (.int (1 : Int32)), .val (.int cc), .val (.long AA), .second, .val (.double (FP.l2d AA)), .second, .val (.double (FP.l2d Y)), .second, .val (.double (FP.dadd (FP.l2d AA) (FP.l2d Y))), .second, .unset, .unset, .unset, .unset, .unset, .unset, .unset, .unset, .unset, .unset, .unset, .unset, .unset, .unset]) rfl ?_
      show OwnKit.Go κ h0 0 0 75 #[.val (.long p), .second, .val (.long q), .second, .val (.int k), .val (.long X), .second, .val (.long Y), .second, .val (.int jj), .val (.int (1 : Int32)), .val (.int cc), .val (.long AA), .second, .val (.double (FP.l2d AA)), .second, .val (.double (FP.l2d Y)), .second, .val (.double (FP.dadd (FP.l2d AA) (FP.l2d Y))), .second, .unset, .unset, .unset, .unset, .unset, .unset, .unset, .unset, .unset, .unset, .unset, .unset, .unset, .unset] []
      refine OwnKit.lload K at_75 rfl ?_
      show OwnKit.Go κ h0 0 0 77 #[.val (.long p), .second, .val (.long q), .second, .val (.int k), .val (.long X), .second, .val (.long Y), .second, .val (.int jj), .val (.int (1 : Int32)), .val (.int cc), .val (.long AA), .second, .val (.double (FP.l2d AA)), .second, .val (.double (FP.l2d Y)), .second, .val (.double (FP.dadd (FP.l2d AA) (FP.l2d Y))), .second, .unset, .unset, .unset, .unset, .unset, .unset, .unset, .unset, .unset, .unset, .unset, .unset, .unset, .unset] [.long AA]
      refine OwnKit.lload K at_77 rfl ?_
      show OwnKit.Go κ h0 0 0 79 #[.val (.long p), .second, .val (.long q), .second, .val (.int k), .val (.long X), .second, .val (.long Y), .second, .val (.int jj), .val (.int (1 : Int32)), .val (.int cc), .val (.long AA), .second, .val (.double (FP.l2d AA)), .second, .val (.double (FP.l2d Y)), .second, .val (.double (FP.dadd (FP.l2d AA) (FP.l2d Y))), .second, .unset, .unset, .unset, .unset, .unset, .unset, .unset, .unset, .unset, .unset, .unset, .unset, .unset, .unset] [.long Y, .long AA]
      refine OwnKit.ladd K at_79 ?_
      show OwnKit.Go κ h0 0 0 80 #[.val (.long p), .second, .val (.long q), .second, .val (.int k), .val (.long X), .second, .val (.long Y), .second, .val (.int jj), .val (.int (1 : Int32)), .val (.int cc), .val (.long AA), .second, .val (.double (FP.l2d AA)), .second, .val (.double (FP.l2d Y)), .second, .val (.double (FP.dadd (FP.l2d AA) (FP.l2d Y))), .second, .unset, .unset, .unset, .unset, .unset, .unset, .unset, .unset, .unset, .unset, .unset, .unset, .unset, .unset] [.long (AA + Y)]
      refine OwnKit.lstore K at_80 (l' := #[.val (.long p), .second, .val (.long q), .second, .val (.int k), .val (.long X), .second, .val (.long Y), .second, .val (.int jj), .val (.int (1 : Int32)), .val (.int cc), .val (.long AA), .second, .val (.double (FP.l2d AA)), .second, .val (.double (FP.l2d Y)), .second, .val (.double (FP.dadd (FP.l2d AA) (FP.l2d Y))), .second, .val (.long (AA + Y)), .second, .unset, .unset, .unset, .unset, .unset, .unset, .unset, .unset, .unset, .unset, .unset, .unset]) rfl ?_
      show OwnKit.Go κ h0 0 0 82 #[.val (.long p), .second, .val (.long q), .second, .val (.int k), .val (.long X), .second, .val (.long Y), .second, .val (.int jj), .val (.int (1 : Int32)), .val (.int cc), .val (.long AA), .second, .val (.double (FP.l2d AA)), .second, .val (.double (FP.l2d Y)), .second, .val (.double (FP.dadd (FP.l2d AA) (FP.l2d Y))), .second, .val (.long (AA + Y)), .second, .unset, .unset, .unset, .unset, .unset, .unset, .unset, .unset, .unset, .unset, .unset, .unset] []
      refine OwnKit.lload K at_82 rfl ?_
      show OwnKit.Go κ h0 0 0 84 #[.val (.long p), .second, .val (.long q), .second, .val (.int k), .val (.long X), .second, .val (.long Y), .second, .val (.int jj), .val (.int (1 : Int32)), .val (.int cc), .val (.long AA), .second, .val (.double (FP.l2d AA)), .second, .val (.double (FP.l2d Y)), .second, .val (.double (FP.dadd (FP.l2d AA) (FP.l2d Y))), .second, .val (.long (AA + Y)), .second, .unset, .unset, .unset, .unset, .unset, .unset, .unset, .unset, .unset, .unset, .unset, .unset] [.long (AA + Y)]
      refine OwnKit.dload K at_84 rfl ?_
      show OwnKit.Go κ h0 0 0 86 #[.val (.long p), .second, .val (.long q), .second, .val (.int k), .val (.long X), .second, .val (.long Y), .second, .val (.int jj), .val (.int (1 : Int32)), .val (.int cc), .val (.long AA), .second, .val (.double (FP.l2d AA)), .second, .val (.double (FP.l2d Y)), .second, .val (.double (FP.dadd (FP.l2d AA) (FP.l2d Y))), .second, .val (.long (AA + Y)), .second, .unset, .unset, .unset, .unset, .unset, .unset, .unset, .unset, .unset, .unset, .unset, .unset] [.double (FP.dadd (FP.l2d AA) (FP.l2d Y)), .long (AA + Y)]
      refine OwnKit.d2l K at_86 rfl ?_
      show OwnKit.Go κ h0 0 0 87 #[.val (.long p), .second, .val (.long q), .second, .val (.int k), .val (.long X), .second, .val (.long Y), .second, .val (.int jj), .val (.int (1 : Int32)), .val (.int cc), .val (.long AA), .second, .val (.double (FP.l2d AA)), .second, .val (.double (FP.l2d Y)), .second, .val (.double (FP.dadd (FP.l2d AA) (FP.l2d Y))), .second, .val (.long (AA + Y)), .second, .unset, .unset, .unset, .unset, .unset, .unset, .unset, .unset, .unset, .unset, .unset, .unset] [.long (FP.d2l (FP.dadd (FP.l2d AA) (FP.l2d Y))), .long (AA + Y)]
      refine OwnKit.lsub K at_87 ?_
      show OwnKit.Go κ h0 0 0 88 #[.val (.long p), .second, .val (.long q), .second, .val (.int k), .val (.long X), .second, .val (.long Y), .second, .val (.int jj), .val (.int (1 : Int32)), .val (.int cc), .val (.long AA), .second, .val (.double (FP.l2d AA)), .second, .val (.double (FP.l2d Y)), .second, .val (.double (FP.dadd (FP.l2d AA) (FP.l2d Y))), .second, .val (.long (AA + Y)), .second, .unset, .unset, .unset, .unset, .unset, .unset, .unset, .unset, .unset, .unset, .unset, .unset] [.long ((AA + Y) - (FP.d2l (FP.dadd (FP.l2d AA) (FP.l2d Y))))]
      refine OwnKit.lstore K at_88 (l' := #[.val (.long p), .second, .val (.long q), .second, .val (.int k), .val (.long X), .second, .val (.long Y), .second, .val (.int jj), .val (.int (1 : Int32)), .val (.int cc), .val (.long AA), .second, .val (.double (FP.l2d AA)), .second, .val (.double (FP.l2d Y)), .second, .val (.double (FP.dadd (FP.l2d AA) (FP.l2d Y))), .second, .val (.long (AA + Y)), .second, .val (.long ((AA + Y) - (FP.d2l (FP.dadd (FP.l2d AA) (FP.l2d Y))))), .second, .unset, .unset, .unset, .unset, .unset, .unset, .unset, .unset, .unset, .unset]) rfl ?_
      show OwnKit.Go κ h0 0 0 90 #[.val (.long p), .second, .val (.long q), .second, .val (.int k), .val (.long X), .second, .val (.long Y), .second, .val (.int jj), .val (.int (1 : Int32)), .val (.int cc), .val (.long AA), .second, .val (.double (FP.l2d AA)), .second, .val (.double (FP.l2d Y)), .second, .val (.double (FP.dadd (FP.l2d AA) (FP.l2d Y))), .second, .val (.long (AA + Y)), .second, .val (.long ((AA + Y) - (FP.d2l (FP.dadd (FP.l2d AA) (FP.l2d Y))))), .second, .unset, .unset, .unset, .unset, .unset, .unset, .unset, .unset, .unset, .unset] []
      refine OwnKit.iload K at_90 rfl ?_
      show OwnKit.Go κ h0 0 0 92 #[.val (.long p), .second, .val (.long q), .second, .val (.int k), .val (.long X), .second, .val (.long Y), .second, .val (.int jj), .val (.int (1 : Int32)), .val (.int cc), .val (.long AA), .second, .val (.double (FP.l2d AA)), .second, .val (.double (FP.l2d Y)), .second, .val (.double (FP.dadd (FP.l2d AA) (FP.l2d Y))), .second, .val (.long (AA + Y)), .second, .val (.long ((AA + Y) - (FP.d2l (FP.dadd (FP.l2d AA) (FP.l2d Y))))), .second, .unset, .unset, .unset, .unset, .unset, .unset, .unset, .unset, .unset, .unset] [.int cc]
      refine OwnKit.invS (y := (⟨"com/example/bounds_on_reach/boundsonreach/engine/OutwardSumErrorPinLaw", "scaleOf", "(I)D"⟩ : MethodName)) (argsL := [.int cc]) (rest := []) K (c_scale l Z a0 hw n0 h0 cc) at_92 (hw _ (List.mem_of_getElem? (i := 1) rfl)) (hw _ (List.mem_of_getElem? (i := 2) rfl)) (hw _ (List.mem_of_getElem? (i := 3) rfl)) (hw _ (List.mem_of_getElem? (i := 4) rfl)) (by decide) (lenOf (by decide +kernel : parseMethodDescriptor "(I)D" = some ⟨[.int], some .double⟩) rfl) rfl rfl (W := 0) (Nat.le_of_ble_eq_true rfl) (Nat.le_of_ble_eq_true rfl) (Nat.le_of_ble_eq_true rfl) (Nat.le_of_ble_eq_true rfl) (Nat.le_of_ble_eq_true rfl) ?_
      rintro _ h8 ⟨⟨u, v, rfl, hu, hv⟩, rfl⟩ g9
      show OwnKit.Go κ h0 0 0 95 #[.val (.long p), .second, .val (.long q), .second, .val (.int k), .val (.long X), .second, .val (.long Y), .second, .val (.int jj), .val (.int (1 : Int32)), .val (.int cc), .val (.long AA), .second, .val (.double (FP.l2d AA)), .second, .val (.double (FP.l2d Y)), .second, .val (.double (FP.dadd (FP.l2d AA) (FP.l2d Y))), .second, .val (.long (AA + Y)), .second, .val (.long ((AA + Y) - (FP.d2l (FP.dadd (FP.l2d AA) (FP.l2d Y))))), .second, .unset, .unset, .unset, .unset, .unset, .unset, .unset, .unset, .unset, .unset] [.double v]
      refine OwnKit.dstore K at_95 (l' := #[.val (.long p), .second, .val (.long q), .second, .val (.int k), .val (.long X), .second, .val (.long Y), .second, .val (.int jj), .val (.int (1 : Int32)), .val (.int cc), .val (.long AA), .second, .val (.double (FP.l2d AA)), .second, .val (.double (FP.l2d Y)), .second, .val (.double (FP.dadd (FP.l2d AA) (FP.l2d Y))), .second, .val (.long (AA + Y)), .second, .val (.long ((AA + Y) - (FP.d2l (FP.dadd (FP.l2d AA) (FP.l2d Y))))), .second, .val (.double v), .second, .unset, .unset, .unset, .unset, .unset, .unset, .unset, .unset]) rfl ?_
      show OwnKit.Go κ h0 0 0 97 #[.val (.long p), .second, .val (.long q), .second, .val (.int k), .val (.long X), .second, .val (.long Y), .second, .val (.int jj), .val (.int (1 : Int32)), .val (.int cc), .val (.long AA), .second, .val (.double (FP.l2d AA)), .second, .val (.double (FP.l2d Y)), .second, .val (.double (FP.dadd (FP.l2d AA) (FP.l2d Y))), .second, .val (.long (AA + Y)), .second, .val (.long ((AA + Y) - (FP.d2l (FP.dadd (FP.l2d AA) (FP.l2d Y))))), .second, .val (.double v), .second, .unset, .unset, .unset, .unset, .unset, .unset, .unset, .unset] []
      refine OwnKit.dload K at_97 rfl ?_
      show OwnKit.Go κ h0 0 0 99 #[.val (.long p), .second, .val (.long q), .second, .val (.int k), .val (.long X), .second, .val (.long Y), .second, .val (.int jj), .val (.int (1 : Int32)), .val (.int cc), .val (.long AA), .second, .val (.double (FP.l2d AA)), .second, .val (.double (FP.l2d Y)), .second, .val (.double (FP.dadd (FP.l2d AA) (FP.l2d Y))), .second, .val (.long (AA + Y)), .second, .val (.long ((AA + Y) - (FP.d2l (FP.dadd (FP.l2d AA) (FP.l2d Y))))), .second, .val (.double v), .second, .unset, .unset, .unset, .unset, .unset, .unset, .unset, .unset] [.double (FP.l2d AA)]
      refine OwnKit.dload K at_99 rfl ?_
      show OwnKit.Go κ h0 0 0 101 #[.val (.long p), .second, .val (.long q), .second, .val (.int k), .val (.long X), .second, .val (.long Y), .second, .val (.int jj), .val (.int (1 : Int32)), .val (.int cc), .val (.long AA), .second, .val (.double (FP.l2d AA)), .second, .val (.double (FP.l2d Y)), .second, .val (.double (FP.dadd (FP.l2d AA) (FP.l2d Y))), .second, .val (.long (AA + Y)), .second, .val (.long ((AA + Y) - (FP.d2l (FP.dadd (FP.l2d AA) (FP.l2d Y))))), .second, .val (.double v), .second, .unset, .unset, .unset, .unset, .unset, .unset, .unset, .unset] [.double v, .double (FP.l2d AA)]
      refine OwnKit.dmul K at_101 (Jvm.OwnFP.fvn (Jvm.OwnFP.own_ab hA hj9 bX bY hu hv).1) rfl ?_
      show OwnKit.Go κ h0 0 0 102 #[.val (.long p), .second, .val (.long q), .second, .val (.int k), .val (.long X), .second, .val (.long Y), .second, .val (.int jj), .val (.int (1 : Int32)), .val (.int cc), .val (.long AA), .second, .val (.double (FP.l2d AA)), .second, .val (.double (FP.l2d Y)), .second, .val (.double (FP.dadd (FP.l2d AA) (FP.l2d Y))), .second, .val (.long (AA + Y)), .second, .val (.long ((AA + Y) - (FP.d2l (FP.dadd (FP.l2d AA) (FP.l2d Y))))), .second, .val (.double v), .second, .unset, .unset, .unset, .unset, .unset, .unset, .unset, .unset] [.double (FP.dmul (FP.l2d AA) v)]
      refine OwnKit.dstore K at_102 (l' := #[.val (.long p), .second, .val (.long q), .second, .val (.int k), .val (.long X), .second, .val (.long Y), .second, .val (.int jj), .val (.int (1 : Int32)), .val (.int cc), .val (.long AA), .second, .val (.double (FP.l2d AA)), .second, .val (.double (FP.l2d Y)), .second, .val (.double (FP.dadd (FP.l2d AA) (FP.l2d Y))), .second, .val (.long (AA + Y)), .second, .val (.long ((AA + Y) - (FP.d2l (FP.dadd (FP.l2d AA) (FP.l2d Y))))), .second, .val (.double v), .second, .val (.double (FP.dmul (FP.l2d AA) v)), .second, .unset, .unset, .unset, .unset, .unset, .unset]) rfl ?_
      show OwnKit.Go κ h0 0 0 104 #[.val (.long p), .second, .val (.long q), .second, .val (.int k), .val (.long X), .second, .val (.long Y), .second, .val (.int jj), .val (.int (1 : Int32)), .val (.int cc), .val (.long AA), .second, .val (.double (FP.l2d AA)), .second, .val (.double (FP.l2d Y)), .second, .val (.double (FP.dadd (FP.l2d AA) (FP.l2d Y))), .second, .val (.long (AA + Y)), .second, .val (.long ((AA + Y) - (FP.d2l (FP.dadd (FP.l2d AA) (FP.l2d Y))))), .second, .val (.double v), .second, .val (.double (FP.dmul (FP.l2d AA) v)), .second, .unset, .unset, .unset, .unset, .unset, .unset] []
      refine OwnKit.dload K at_104 rfl ?_
      show OwnKit.Go κ h0 0 0 106 #[.val (.long p), .second, .val (.long q), .second, .val (.int k), .val (.long X), .second, .val (.long Y), .second, .val (.int jj), .val (.int (1 : Int32)), .val (.int cc), .val (.long AA), .second, .val (.double (FP.l2d AA)), .second, .val (.double (FP.l2d Y)), .second, .val (.double (FP.dadd (FP.l2d AA) (FP.l2d Y))), .second, .val (.long (AA + Y)), .second, .val (.long ((AA + Y) - (FP.d2l (FP.dadd (FP.l2d AA) (FP.l2d Y))))), .second, .val (.double v), .second, .val (.double (FP.dmul (FP.l2d AA) v)), .second, .unset, .unset, .unset, .unset, .unset, .unset] [.double (FP.l2d Y)]
      refine OwnKit.dload K at_106 rfl ?_
      show OwnKit.Go κ h0 0 0 108 #[.val (.long p), .second, .val (.long q), .second, .val (.int k), .val (.long X), .second, .val (.long Y), .second, .val (.int jj), .val (.int (1 : Int32)), .val (.int cc), .val (.long AA), .second, .val (.double (FP.l2d AA)), .second, .val (.double (FP.l2d Y)), .second, .val (.double (FP.dadd (FP.l2d AA) (FP.l2d Y))), .second, .val (.long (AA + Y)), .second, .val (.long ((AA + Y) - (FP.d2l (FP.dadd (FP.l2d AA) (FP.l2d Y))))), .second, .val (.double v), .second, .val (.double (FP.dmul (FP.l2d AA) v)), .second, .unset, .unset, .unset, .unset, .unset, .unset] [.double v, .double (FP.l2d Y)]
      refine OwnKit.dmul K at_108 (Jvm.OwnFP.fvn (Jvm.OwnFP.own_ab hA hj9 bX bY hu hv).2) rfl ?_
      show OwnKit.Go κ h0 0 0 109 #[.val (.long p), .second, .val (.long q), .second, .val (.int k), .val (.long X), .second, .val (.long Y), .second, .val (.int jj), .val (.int (1 : Int32)), .val (.int cc), .val (.long AA), .second, .val (.double (FP.l2d AA)), .second, .val (.double (FP.l2d Y)), .second, .val (.double (FP.dadd (FP.l2d AA) (FP.l2d Y))), .second, .val (.long (AA + Y)), .second, .val (.long ((AA + Y) - (FP.d2l (FP.dadd (FP.l2d AA) (FP.l2d Y))))), .second, .val (.double v), .second, .val (.double (FP.dmul (FP.l2d AA) v)), .second, .unset, .unset, .unset, .unset, .unset, .unset] [.double (FP.dmul (FP.l2d Y) v)]
      refine OwnKit.dstore K at_109 (l' := #[.val (.long p), .second, .val (.long q), .second, .val (.int k), .val (.long X), .second, .val (.long Y), .second, .val (.int jj), .val (.int (1 : Int32)), .val (.int cc), .val (.long AA), .second, .val (.double (FP.l2d AA)), .second, .val (.double (FP.l2d Y)), .second, .val (.double (FP.dadd (FP.l2d AA) (FP.l2d Y))), .second, .val (.long (AA + Y)), .second, .val (.long ((AA + Y) - (FP.d2l (FP.dadd (FP.l2d AA) (FP.l2d Y))))), .second, .val (.double v), .second, .val (.double (FP.dmul (FP.l2d AA) v)), .second, .val (.double (FP.dmul (FP.l2d Y) v)), .second, .unset, .unset, .unset, .unset]) rfl ?_
      show OwnKit.Go κ h0 0 0 111 #[.val (.long p), .second, .val (.long q), .second, .val (.int k), .val (.long X), .second, .val (.long Y), .second, .val (.int jj), .val (.int (1 : Int32)), .val (.int cc), .val (.long AA), .second, .val (.double (FP.l2d AA)), .second, .val (.double (FP.l2d Y)), .second, .val (.double (FP.dadd (FP.l2d AA) (FP.l2d Y))), .second, .val (.long (AA + Y)), .second, .val (.long ((AA + Y) - (FP.d2l (FP.dadd (FP.l2d AA) (FP.l2d Y))))), .second, .val (.double v), .second, .val (.double (FP.dmul (FP.l2d AA) v)), .second, .val (.double (FP.dmul (FP.l2d Y) v)), .second, .unset, .unset, .unset, .unset] []
      refine OwnKit.lload K at_111 rfl ?_
      show OwnKit.Go κ h0 0 0 113 #[.val (.long p), .second, .val (.long q), .second, .val (.int k), .val (.long X), .second, .val (.long Y), .second, .val (.int jj), .val (.int (1 : Int32)), .val (.int cc), .val (.long AA), .second, .val (.double (FP.l2d AA)), .second, .val (.double (FP.l2d Y)), .second, .val (.double (FP.dadd (FP.l2d AA) (FP.l2d Y))), .second, .val (.long (AA + Y)), .second, .val (.long ((AA + Y) - (FP.d2l (FP.dadd (FP.l2d AA) (FP.l2d Y))))), .second, .val (.double v), .second, .val (.double (FP.dmul (FP.l2d AA) v)), .second, .val (.double (FP.dmul (FP.l2d Y) v)), .second, .unset, .unset, .unset, .unset] [.long ((AA + Y) - (FP.d2l (FP.dadd (FP.l2d AA) (FP.l2d Y))))]
      refine OwnKit.l2d K at_113 rfl ?_
      show OwnKit.Go κ h0 0 0 114 #[.val (.long p), .second, .val (.long q), .second, .val (.int k), .val (.long X), .second, .val (.long Y), .second, .val (.int jj), .val (.int (1 : Int32)), .val (.int cc), .val (.long AA), .second, .val (.double (FP.l2d AA)), .second, .val (.double (FP.l2d Y)), .second, .val (.double (FP.dadd (FP.l2d AA) (FP.l2d Y))), .second, .val (.long (AA + Y)), .second, .val (.long ((AA + Y) - (FP.d2l (FP.dadd (FP.l2d AA) (FP.l2d Y))))), .second, .val (.double v), .second, .val (.double (FP.dmul (FP.l2d AA) v)), .second, .val (.double (FP.dmul (FP.l2d Y) v)), .second, .unset, .unset, .unset, .unset] [.double (FP.l2d ((AA + Y) - (FP.d2l (FP.dadd (FP.l2d AA) (FP.l2d Y)))))]
      refine OwnKit.dload K at_114 rfl ?_
      show OwnKit.Go κ h0 0 0 116 #[.val (.long p), .second, .val (.long q), .second, .val (.int k), .val (.long X), .second, .val (.long Y), .second, .val (.int jj), .val (.int (1 : Int32)), .val (.int cc), .val (.long AA), .second, .val (.double (FP.l2d AA)), .second, .val (.double (FP.l2d Y)), .second, .val (.double (FP.dadd (FP.l2d AA) (FP.l2d Y))), .second, .val (.long (AA + Y)), .second, .val (.long ((AA + Y) - (FP.d2l (FP.dadd (FP.l2d AA) (FP.l2d Y))))), .second, .val (.double v), .second, .val (.double (FP.dmul (FP.l2d AA) v)), .second, .val (.double (FP.dmul (FP.l2d Y) v)), .second, .unset, .unset, .unset, .unset] [.double v, .double (FP.l2d ((AA + Y) - (FP.d2l (FP.dadd (FP.l2d AA) (FP.l2d Y)))))]
      refine OwnKit.dmul K at_116 (Jvm.OwnFP.fvn (Jvm.OwnFP.own_ref hA hj9 bX bY hu hv)) rfl ?_
      show OwnKit.Go κ h0 0 0 117 #[.val (.long p), .second, .val (.long q), .second, .val (.int k), .val (.long X), .second, .val (.long Y), .second, .val (.int jj), .val (.int (1 : Int32)), .val (.int cc), .val (.long AA), .second, .val (.double (FP.l2d AA)), .second, .val (.double (FP.l2d Y)), .second, .val (.double (FP.dadd (FP.l2d AA) (FP.l2d Y))), .second, .val (.long (AA + Y)), .second, .val (.long ((AA + Y) - (FP.d2l (FP.dadd (FP.l2d AA) (FP.l2d Y))))), .second, .val (.double v), .second, .val (.double (FP.dmul (FP.l2d AA) v)), .second, .val (.double (FP.dmul (FP.l2d Y) v)), .second, .unset, .unset, .unset, .unset] [.double (FP.dmul (FP.l2d ((AA + Y) - (FP.d2l (FP.dadd (FP.l2d AA) (FP.l2d Y))))) v)]
      refine OwnKit.dstore K at_117 (l' := #[.val (.long p), .second, .val (.long q), .second, .val (.int k), .val (.long X), .second, .val (.long Y), .second, .val (.int jj), .val (.int (1 : Int32)), .val (.int cc), .val (.long AA), .second, .val (.double (FP.l2d AA)), .second, .val (.double (FP.l2d Y)), .second, .val (.double (FP.dadd (FP.l2d AA) (FP.l2d Y))), .second, .val (.long (AA + Y)), .second, .val (.long ((AA + Y) - (FP.d2l (FP.dadd (FP.l2d AA) (FP.l2d Y))))), .second, .val (.double v), .second, .val (.double (FP.dmul (FP.l2d AA) v)), .second, .val (.double (FP.dmul (FP.l2d Y) v)), .second, .val (.double (FP.dmul (FP.l2d ((AA + Y) - (FP.d2l (FP.dadd (FP.l2d AA) (FP.l2d Y))))) v)), .second, .unset, .unset]) rfl ?_
      show OwnKit.Go κ h0 0 0 119 #[.val (.long p), .second, .val (.long q), .second, .val (.int k), .val (.long X), .second, .val (.long Y), .second, .val (.int jj), .val (.int (1 : Int32)), .val (.int cc), .val (.long AA), .second, .val (.double (FP.l2d AA)), .second, .val (.double (FP.l2d Y)), .second, .val (.double (FP.dadd (FP.l2d AA) (FP.l2d Y))), .second, .val (.long (AA + Y)), .second, .val (.long ((AA + Y) - (FP.d2l (FP.dadd (FP.l2d AA) (FP.l2d Y))))), .second, .val (.double v), .second, .val (.double (FP.dmul (FP.l2d AA) v)), .second, .val (.double (FP.dmul (FP.l2d Y) v)), .second, .val (.double (FP.dmul (FP.l2d ((AA + Y) - (FP.d2l (FP.dadd (FP.l2d AA) (FP.l2d Y))))) v)), .second, .unset, .unset] []
      refine OwnKit.iload K at_119 rfl ?_
      show OwnKit.Go κ h0 0 0 121 #[.val (.long p), .second, .val (.long q), .second, .val (.int k), .val (.long X), .second, .val (.long Y), .second, .val (.int jj), .val (.int (1 : Int32)), .val (.int cc), .val (.long AA), .second, .val (.double (FP.l2d AA)), .second, .val (.double (FP.l2d Y)), .second, .val (.double (FP.dadd (FP.l2d AA) (FP.l2d Y))), .second, .val (.long (AA + Y)), .second, .val (.long ((AA + Y) - (FP.d2l (FP.dadd (FP.l2d AA) (FP.l2d Y))))), .second, .val (.double v), .second, .val (.double (FP.dmul (FP.l2d AA) v)), .second, .val (.double (FP.dmul (FP.l2d Y) v)), .second, .val (.double (FP.dmul (FP.l2d ((AA + Y) - (FP.d2l (FP.dadd (FP.l2d AA) (FP.l2d Y))))) v)), .second, .unset, .unset] [.int (1 : Int32)]
      refine OwnKit.ifeq K at_121 (by decide) (pc' := 141) rfl  (fun b10 => ?_) (fun b10 => ?_)
      · exact absurd b10 (by decide)
      · show OwnKit.Go κ h0 0 0 124 #[.val (.long p), .second, .val (.long q), .second, .val (.int k), .val (.long X), .second, .val (.long Y), .second, .val (.int jj), .val (.int (1 : Int32)), .val (.int cc), .val (.long AA), .second, .val (.double (FP.l2d AA)), .second, .val (.double (FP.l2d Y)), .second, .val (.double (FP.dadd (FP.l2d AA) (FP.l2d Y))), .second, .val (.long (AA + Y)), .second, .val (.long ((AA + Y) - (FP.d2l (FP.dadd (FP.l2d AA) (FP.l2d Y))))), .second, .val (.double v), .second, .val (.double (FP.dmul (FP.l2d AA) v)), .second, .val (.double (FP.dmul (FP.l2d Y) v)), .second, .val (.double (FP.dmul (FP.l2d ((AA + Y) - (FP.d2l (FP.dadd (FP.l2d AA) (FP.l2d Y))))) v)), .second, .unset, .unset] []
        refine OwnKit.dload K at_124 rfl ?_
        show OwnKit.Go κ h0 0 0 126 #[.val (.long p), .second, .val (.long q), .second, .val (.int k), .val (.long X), .second, .val (.long Y), .second, .val (.int jj), .val (.int (1 : Int32)), .val (.int cc), .val (.long AA), .second, .val (.double (FP.l2d AA)), .second, .val (.double (FP.l2d Y)), .second, .val (.double (FP.dadd (FP.l2d AA) (FP.l2d Y))), .second, .val (.long (AA + Y)), .second, .val (.long ((AA + Y) - (FP.d2l (FP.dadd (FP.l2d AA) (FP.l2d Y))))), .second, .val (.double v), .second, .val (.double (FP.dmul (FP.l2d AA) v)), .second, .val (.double (FP.dmul (FP.l2d Y) v)), .second, .val (.double (FP.dmul (FP.l2d ((AA + Y) - (FP.d2l (FP.dadd (FP.l2d AA) (FP.l2d Y))))) v)), .second, .unset, .unset] [.double (FP.dmul (FP.l2d Y) v)]
        refine OwnKit.dload K at_126 rfl ?_
        show OwnKit.Go κ h0 0 0 128 #[.val (.long p), .second, .val (.long q), .second, .val (.int k), .val (.long X), .second, .val (.long Y), .second, .val (.int jj), .val (.int (1 : Int32)), .val (.int cc), .val (.long AA), .second, .val (.double (FP.l2d AA)), .second, .val (.double (FP.l2d Y)), .second, .val (.double (FP.dadd (FP.l2d AA) (FP.l2d Y))), .second, .val (.long (AA + Y)), .second, .val (.long ((AA + Y) - (FP.d2l (FP.dadd (FP.l2d AA) (FP.l2d Y))))), .second, .val (.double v), .second, .val (.double (FP.dmul (FP.l2d AA) v)), .second, .val (.double (FP.dmul (FP.l2d Y) v)), .second, .val (.double (FP.dmul (FP.l2d ((AA + Y) - (FP.d2l (FP.dadd (FP.l2d AA) (FP.l2d Y))))) v)), .second, .unset, .unset] [.double (FP.dmul (FP.l2d AA) v), .double (FP.dmul (FP.l2d Y) v)]
        refine OwnKit.dload K at_128 rfl ?_
        show OwnKit.Go κ h0 0 0 130 #[.val (.long p), .second, .val (.long q), .second, .val (.int k), .val (.long X), .second, .val (.long Y), .second, .val (.int jj), .val (.int (1 : Int32)), .val (.int cc), .val (.long AA), .second, .val (.double (FP.l2d AA)), .second, .val (.double (FP.l2d Y)), .second, .val (.double (FP.dadd (FP.l2d AA) (FP.l2d Y))), .second, .val (.long (AA + Y)), .second, .val (.long ((AA + Y) - (FP.d2l (FP.dadd (FP.l2d AA) (FP.l2d Y))))), .second, .val (.double v), .second, .val (.double (FP.dmul (FP.l2d AA) v)), .second, .val (.double (FP.dmul (FP.l2d Y) v)), .second, .val (.double (FP.dmul (FP.l2d ((AA + Y) - (FP.d2l (FP.dadd (FP.l2d AA) (FP.l2d Y))))) v)), .second, .unset, .unset] [.double (FP.dmul (FP.l2d Y) v), .double (FP.dmul (FP.l2d AA) v), .double (FP.dmul (FP.l2d Y) v)]
        refine OwnKit.dload K at_130 rfl ?_
        show OwnKit.Go κ h0 0 0 132 #[.val (.long p), .second, .val (.long q), .second, .val (.int k), .val (.long X), .second, .val (.long Y), .second, .val (.int jj), .val (.int (1 : Int32)), .val (.int cc), .val (.long AA), .second, .val (.double (FP.l2d AA)), .second, .val (.double (FP.l2d Y)), .second, .val (.double (FP.dadd (FP.l2d AA) (FP.l2d Y))), .second, .val (.long (AA + Y)), .second, .val (.long ((AA + Y) - (FP.d2l (FP.dadd (FP.l2d AA) (FP.l2d Y))))), .second, .val (.double v), .second, .val (.double (FP.dmul (FP.l2d AA) v)), .second, .val (.double (FP.dmul (FP.l2d Y) v)), .second, .val (.double (FP.dmul (FP.l2d ((AA + Y) - (FP.d2l (FP.dadd (FP.l2d AA) (FP.l2d Y))))) v)), .second, .unset, .unset] [.double (FP.dmul (FP.l2d AA) v), .double (FP.dmul (FP.l2d Y) v), .double (FP.dmul (FP.l2d AA) v), .double (FP.dmul (FP.l2d Y) v)]
        refine OwnKit.dadd K at_132 (Jvm.OwnFP.own_g2 hA hj9 bX bY hu hv).1 rfl ?_
        show OwnKit.Go κ h0 0 0 133 #[.val (.long p), .second, .val (.long q), .second, .val (.int k), .val (.long X), .second, .val (.long Y), .second, .val (.int jj), .val (.int (1 : Int32)), .val (.int cc), .val (.long AA), .second, .val (.double (FP.l2d AA)), .second, .val (.double (FP.l2d Y)), .second, .val (.double (FP.dadd (FP.l2d AA) (FP.l2d Y))), .second, .val (.long (AA + Y)), .second, .val (.long ((AA + Y) - (FP.d2l (FP.dadd (FP.l2d AA) (FP.l2d Y))))), .second, .val (.double v), .second, .val (.double (FP.dmul (FP.l2d AA) v)), .second, .val (.double (FP.dmul (FP.l2d Y) v)), .second, .val (.double (FP.dmul (FP.l2d ((AA + Y) - (FP.d2l (FP.dadd (FP.l2d AA) (FP.l2d Y))))) v)), .second, .unset, .unset] [.double (FP.dadd (FP.dmul (FP.l2d Y) v) (FP.dmul (FP.l2d AA) v)), .double (FP.dmul (FP.l2d AA) v), .double (FP.dmul (FP.l2d Y) v)]
        refine OwnKit.invS (y := (⟨"com/example/bounds_on_reach/boundsonreach/engine/Outward", "sumError", "(DDD)D"⟩ : MethodName)) (argsL := [.double (FP.dmul (FP.l2d Y) v), .double (FP.dmul (FP.l2d AA) v), .double (FP.dadd (FP.dmul (FP.l2d Y) v) (FP.dmul (FP.l2d AA) v))]) (rest := []) K (c_se l Z a0 hw n0 h0 (FP.dmul (FP.l2d Y) v) (FP.dmul (FP.l2d AA) v) (FP.dadd (FP.dmul (FP.l2d Y) v) (FP.dmul (FP.l2d AA) v)) (Jvm.OwnFP.own_g2 hA hj9 bX bY hu hv).2.1) at_133 (hw _ (List.mem_of_getElem? (i := 5) rfl)) (hw _ (List.mem_of_getElem? (i := 6) rfl)) (hw _ (List.mem_of_getElem? (i := 7) rfl)) (hw _ (List.mem_of_getElem? (i := 8) rfl)) (by decide) (lenOf (by decide +kernel : parseMethodDescriptor "(DDD)D" = some ⟨[.double, .double, .double], some .double⟩) rfl) rfl rfl (W := 0) (Nat.le_of_ble_eq_true rfl) (Nat.le_of_ble_eq_true rfl) (Nat.le_of_ble_eq_true rfl) (Nat.le_of_ble_eq_true rfl) (Nat.le_of_ble_eq_true rfl) ?_
        rintro _ h11 ⟨rfl, rfl⟩ g12
        show OwnKit.Go κ h0 0 0 136 #[.val (.long p), .second, .val (.long q), .second, .val (.int k), .val (.long X), .second, .val (.long Y), .second, .val (.int jj), .val (.int (1 : Int32)), .val (.int cc), .val (.long AA), .second, .val (.double (FP.l2d AA)), .second, .val (.double (FP.l2d Y)), .second, .val (.double (FP.dadd (FP.l2d AA) (FP.l2d Y))), .second, .val (.long (AA + Y)), .second, .val (.long ((AA + Y) - (FP.d2l (FP.dadd (FP.l2d AA) (FP.l2d Y))))), .second, .val (.double v), .second, .val (.double (FP.dmul (FP.l2d AA) v)), .second, .val (.double (FP.dmul (FP.l2d Y) v)), .second, .val (.double (FP.dmul (FP.l2d ((AA + Y) - (FP.d2l (FP.dadd (FP.l2d AA) (FP.l2d Y))))) v)), .second, .unset, .unset] [.double (Jvm.OwnFP.seV (FP.dmul (FP.l2d Y) v) (FP.dmul (FP.l2d AA) v) (FP.dadd (FP.dmul (FP.l2d Y) v) (FP.dmul (FP.l2d AA) v)))]
        refine OwnKit.dstore K at_136 (l' := #[.val (.long p), .second, .val (.long q), .second, .val (.int k), .val (.long X), .second, .val (.long Y), .second, .val (.int jj), .val (.int (1 : Int32)), .val (.int cc), .val (.long AA), .second, .val (.double (FP.l2d AA)), .second, .val (.double (FP.l2d Y)), .second, .val (.double (FP.dadd (FP.l2d AA) (FP.l2d Y))), .second, .val (.long (AA + Y)), .second, .val (.long ((AA + Y) - (FP.d2l (FP.dadd (FP.l2d AA) (FP.l2d Y))))), .second, .val (.double v), .second, .val (.double (FP.dmul (FP.l2d AA) v)), .second, .val (.double (FP.dmul (FP.l2d Y) v)), .second, .val (.double (FP.dmul (FP.l2d ((AA + Y) - (FP.d2l (FP.dadd (FP.l2d AA) (FP.l2d Y))))) v)), .second, .val (.double (Jvm.OwnFP.seV (FP.dmul (FP.l2d Y) v) (FP.dmul (FP.l2d AA) v) (FP.dadd (FP.dmul (FP.l2d Y) v) (FP.dmul (FP.l2d AA) v)))), .second]) rfl ?_
        show OwnKit.Go κ h0 0 0 138 #[.val (.long p), .second, .val (.long q), .second, .val (.int k), .val (.long X), .second, .val (.long Y), .second, .val (.int jj), .val (.int (1 : Int32)), .val (.int cc), .val (.long AA), .second, .val (.double (FP.l2d AA)), .second, .val (.double (FP.l2d Y)), .second, .val (.double (FP.dadd (FP.l2d AA) (FP.l2d Y))), .second, .val (.long (AA + Y)), .second, .val (.long ((AA + Y) - (FP.d2l (FP.dadd (FP.l2d AA) (FP.l2d Y))))), .second, .val (.double v), .second, .val (.double (FP.dmul (FP.l2d AA) v)), .second, .val (.double (FP.dmul (FP.l2d Y) v)), .second, .val (.double (FP.dmul (FP.l2d ((AA + Y) - (FP.d2l (FP.dadd (FP.l2d AA) (FP.l2d Y))))) v)), .second, .val (.double (Jvm.OwnFP.seV (FP.dmul (FP.l2d Y) v) (FP.dmul (FP.l2d AA) v) (FP.dadd (FP.dmul (FP.l2d Y) v) (FP.dmul (FP.l2d AA) v)))), .second] []
        refine OwnKit.goto K at_138 (by decide) (pc' := 155) rfl ?_
        show OwnKit.Go κ h0 0 0 155 #[.val (.long p), .second, .val (.long q), .second, .val (.int k), .val (.long X), .second, .val (.long Y), .second, .val (.int jj), .val (.int (1 : Int32)), .val (.int cc), .val (.long AA), .second, .val (.double (FP.l2d AA)), .second, .val (.double (FP.l2d Y)), .second, .val (.double (FP.dadd (FP.l2d AA) (FP.l2d Y))), .second, .val (.long (AA + Y)), .second, .val (.long ((AA + Y) - (FP.d2l (FP.dadd (FP.l2d AA) (FP.l2d Y))))), .second, .val (.double v), .second, .val (.double (FP.dmul (FP.l2d AA) v)), .second, .val (.double (FP.dmul (FP.l2d Y) v)), .second, .val (.double (FP.dmul (FP.l2d ((AA + Y) - (FP.d2l (FP.dadd (FP.l2d AA) (FP.l2d Y))))) v)), .second, .val (.double (Jvm.OwnFP.seV (FP.dmul (FP.l2d Y) v) (FP.dmul (FP.l2d AA) v) (FP.dadd (FP.dmul (FP.l2d Y) v) (FP.dmul (FP.l2d AA) v)))), .second] []
        refine OwnKit.dload K at_155 rfl ?_
        show OwnKit.Go κ h0 0 0 157 #[.val (.long p), .second, .val (.long q), .second, .val (.int k), .val (.long X), .second, .val (.long Y), .second, .val (.int jj), .val (.int (1 : Int32)), .val (.int cc), .val (.long AA), .second, .val (.double (FP.l2d AA)), .second, .val (.double (FP.l2d Y)), .second, .val (.double (FP.dadd (FP.l2d AA) (FP.l2d Y))), .second, .val (.long (AA + Y)), .second, .val (.long ((AA + Y) - (FP.d2l (FP.dadd (FP.l2d AA) (FP.l2d Y))))), .second, .val (.double v), .second, .val (.double (FP.dmul (FP.l2d AA) v)), .second, .val (.double (FP.dmul (FP.l2d Y) v)), .second, .val (.double (FP.dmul (FP.l2d ((AA + Y) - (FP.d2l (FP.dadd (FP.l2d AA) (FP.l2d Y))))) v)), .second, .val (.double (Jvm.OwnFP.seV (FP.dmul (FP.l2d Y) v) (FP.dmul (FP.l2d AA) v) (FP.dadd (FP.dmul (FP.l2d Y) v) (FP.dmul (FP.l2d AA) v)))), .second] [.double (Jvm.OwnFP.seV (FP.dmul (FP.l2d Y) v) (FP.dmul (FP.l2d AA) v) (FP.dadd (FP.dmul (FP.l2d Y) v) (FP.dmul (FP.l2d AA) v)))]
        refine OwnKit.dload K at_157 rfl ?_
        show OwnKit.Go κ h0 0 0 159 #[.val (.long p), .second, .val (.long q), .second, .val (.int k), .val (.long X), .second, .val (.long Y), .second, .val (.int jj), .val (.int (1 : Int32)), .val (.int cc), .val (.long AA), .second, .val (.double (FP.l2d AA)), .second, .val (.double (FP.l2d Y)), .second, .val (.double (FP.dadd (FP.l2d AA) (FP.l2d Y))), .second, .val (.long (AA + Y)), .second, .val (.long ((AA + Y) - (FP.d2l (FP.dadd (FP.l2d AA) (FP.l2d Y))))), .second, .val (.double v), .second, .val (.double (FP.dmul (FP.l2d AA) v)), .second, .val (.double (FP.dmul (FP.l2d Y) v)), .second, .val (.double (FP.dmul (FP.l2d ((AA + Y) - (FP.d2l (FP.dadd (FP.l2d AA) (FP.l2d Y))))) v)), .second, .val (.double (Jvm.OwnFP.seV (FP.dmul (FP.l2d Y) v) (FP.dmul (FP.l2d AA) v) (FP.dadd (FP.dmul (FP.l2d Y) v) (FP.dmul (FP.l2d AA) v)))), .second] [.double (FP.dmul (FP.l2d ((AA + Y) - (FP.d2l (FP.dadd (FP.l2d AA) (FP.l2d Y))))) v), .double (Jvm.OwnFP.seV (FP.dmul (FP.l2d Y) v) (FP.dmul (FP.l2d AA) v) (FP.dadd (FP.dmul (FP.l2d Y) v) (FP.dmul (FP.l2d AA) v)))]
        refine OwnKit.dcmp K at_159 (own_cmp0 (Jvm.OwnFP.own_g2 hA hj9 bX bY hu hv).2.2) ?_
        show OwnKit.Go κ h0 0 0 160 #[.val (.long p), .second, .val (.long q), .second, .val (.int k), .val (.long X), .second, .val (.long Y), .second, .val (.int jj), .val (.int (1 : Int32)), .val (.int cc), .val (.long AA), .second, .val (.double (FP.l2d AA)), .second, .val (.double (FP.l2d Y)), .second, .val (.double (FP.dadd (FP.l2d AA) (FP.l2d Y))), .second, .val (.long (AA + Y)), .second, .val (.long ((AA + Y) - (FP.d2l (FP.dadd (FP.l2d AA) (FP.l2d Y))))), .second, .val (.double v), .second, .val (.double (FP.dmul (FP.l2d AA) v)), .second, .val (.double (FP.dmul (FP.l2d Y) v)), .second, .val (.double (FP.dmul (FP.l2d ((AA + Y) - (FP.d2l (FP.dadd (FP.l2d AA) (FP.l2d Y))))) v)), .second, .val (.double (Jvm.OwnFP.seV (FP.dmul (FP.l2d Y) v) (FP.dmul (FP.l2d AA) v) (FP.dadd (FP.dmul (FP.l2d Y) v) (FP.dmul (FP.l2d AA) v)))), .second] [.int (0 : Int32)]
        refine OwnKit.ifne K at_160 (by decide) (pc' := 167) rfl  (fun b13 => ?_) (fun b13 => ?_)
        · exact absurd b13 (by decide)
        · show OwnKit.Go κ h0 0 0 163 #[.val (.long p), .second, .val (.long q), .second, .val (.int k), .val (.long X), .second, .val (.long Y), .second, .val (.int jj), .val (.int (1 : Int32)), .val (.int cc), .val (.long AA), .second, .val (.double (FP.l2d AA)), .second, .val (.double (FP.l2d Y)), .second, .val (.double (FP.dadd (FP.l2d AA) (FP.l2d Y))), .second, .val (.long (AA + Y)), .second, .val (.long ((AA + Y) - (FP.d2l (FP.dadd (FP.l2d AA) (FP.l2d Y))))), .second, .val (.double v), .second, .val (.double (FP.dmul (FP.l2d AA) v)), .second, .val (.double (FP.dmul (FP.l2d Y) v)), .second, .val (.double (FP.dmul (FP.l2d ((AA + Y) - (FP.d2l (FP.dadd (FP.l2d AA) (FP.l2d Y))))) v)), .second, .val (.double (Jvm.OwnFP.seV (FP.dmul (FP.l2d Y) v) (FP.dmul (FP.l2d AA) v) (FP.dadd (FP.dmul (FP.l2d Y) v) (FP.dmul (FP.l2d AA) v)))), .second] []
          refine OwnKit.iconst K at_163 ?_
          show OwnKit.Go κ h0 0 0 164 #[.val (.long p), .second, .val (.long q), .second, .val (.int k), .val (.long X), .second, .val (.long Y), .second, .val (.int jj), .val (.int (1 : Int32)), .val (.int cc), .val (.long AA), .second, .val (.double (FP.l2d AA)), .second, .val (.double (FP.l2d Y)), .second, .val (.double (FP.dadd (FP.l2d AA) (FP.l2d Y))), .second, .val (.long (AA + Y)), .second, .val (.long ((AA + Y) - (FP.d2l (FP.dadd (FP.l2d AA) (FP.l2d Y))))), .second, .val (.double v), .second, .val (.double (FP.dmul (FP.l2d AA) v)), .second, .val (.double (FP.dmul (FP.l2d Y) v)), .second, .val (.double (FP.dmul (FP.l2d ((AA + Y) - (FP.d2l (FP.dadd (FP.l2d AA) (FP.l2d Y))))) v)), .second, .val (.double (Jvm.OwnFP.seV (FP.dmul (FP.l2d Y) v) (FP.dmul (FP.l2d AA) v) (FP.dadd (FP.dmul (FP.l2d Y) v) (FP.dmul (FP.l2d AA) v)))), .second] [.int (1 : Int32)]
          refine OwnKit.goto K at_164 (by decide) (pc' := 168) rfl ?_
          show OwnKit.Go κ h0 0 0 168 #[.val (.long p), .second, .val (.long q), .second, .val (.int k), .val (.long X), .second, .val (.long Y), .second, .val (.int jj), .val (.int (1 : Int32)), .val (.int cc), .val (.long AA), .second, .val (.double (FP.l2d AA)), .second, .val (.double (FP.l2d Y)), .second, .val (.double (FP.dadd (FP.l2d AA) (FP.l2d Y))), .second, .val (.long (AA + Y)), .second, .val (.long ((AA + Y) - (FP.d2l (FP.dadd (FP.l2d AA) (FP.l2d Y))))), .second, .val (.double v), .second, .val (.double (FP.dmul (FP.l2d AA) v)), .second, .val (.double (FP.dmul (FP.l2d Y) v)), .second, .val (.double (FP.dmul (FP.l2d ((AA + Y) - (FP.d2l (FP.dadd (FP.l2d AA) (FP.l2d Y))))) v)), .second, .val (.double (Jvm.OwnFP.seV (FP.dmul (FP.l2d Y) v) (FP.dmul (FP.l2d AA) v) (FP.dadd (FP.dmul (FP.l2d Y) v) (FP.dmul (FP.l2d AA) v)))), .second] [.int (1 : Int32)]
          refine OwnKit.ireturn K at_168 (Or.inr (Or.inl rfl)) rfl ?_ (Nat.le_of_ble_eq_true rfl) (Nat.le_of_ble_eq_true rfl)
          exact rfl
  · intro m; first | rfl | (simp [entryFrame, mkF, argsToLocals, Value.category, maxLocals]; done)

set_option maxRecDepth 65536 in
set_option maxHeartbeats 40000000 in
theorem comes_1 {Post : Tables → Env → Array Value → State → Outcome → State → Prop} (hpost : ∀ tb e args s v u, (limb_1_1.after args s (.returned v) u = true ∧ limb_1_2.after args s (.returned v) u = true ∧ True) → FrameEnd s (.returned v) u (Jvm.fieldLocs frame_1_writes args s ++ Jvm.arrayLocs frame_1_arrays args s ++ Jvm.staticLocs frame_1_statics s) 0 0 → Post tb e args s (.returned v) u) :
    ArmFor flags0 classFile x code maxLocals ret World_1 tables_1 room_1 Calls_1 rest_1 Pre_1 Post := by
  intro l hfl _ _ p e ha hc hk s m args below hf hA hF happ hP
  obtain ⟨hcalls, hrest, hpre⟩ := hP
  obtain ⟨-, -, -, hnamed, -, -, -, hat⟩ := (Spec.applies_iff hf).mp happ
  obtain ⟨hg, hn⟩ := and_e (Cond.before_iff.mp (show (Jvm.Cond.and given_1 narrow_1).before args s = true from hpre))
  obtain ⟨hg0, hg1⟩ := and_e hg
  obtain ⟨hk1, hg2⟩ := and_e hg1
  obtain ⟨hk2, hg3⟩ := and_e hg2
  obtain ⟨w0, w1, w2, rfl⟩ : ∃ w0 w1 w2 : Value, args = #[w0, w1, w2] := by
    have hs : args.size = 3 := by simpa [Cond.value, given_1] using hg0
    obtain ⟨L⟩ := args
    match L, hs with
    | [w0, w1, w2], _ => exact ⟨w0, w1, w2, rfl⟩
  have hw := fun d (hd : d ∈ tables_1) => atoms_spec (ws := Jvm.Cond.code x code maxLocals ret :: tables_1) hat d (List.mem_cons_of_mem _ hd)
  have hfit : Fit s := fun {y c} hc i hi => by
    obtain ⟨ha, rfl⟩ := Array.getElem?_eq_some_iff.mp hc
    have q := List.all_eq_true.mp ((Array.all_eq_true_iff_forall_mem.mp hF) _ (Array.getElem_mem ha)) i (List.mem_range.mpr hi)
    simpa [Array.getElem?_eq_getElem hi] using q
  obtain ⟨p0, ep0⟩ := isL_v hk1
  obtain rfl : w0 = (.long p0) := Option.some.inj ep0
  obtain ⟨p1, ep1⟩ := isL_v hk2
  obtain rfl : w1 = (.long p1) := Option.some.inj ep1
  obtain ⟨p2, ep2⟩ := is_v hg3
  obtain rfl : w2 = (.int p2) := Option.some.inj ep2
  obtain ⟨n, o, h1, h2, h3, v, L, rfl, ⟨q1, N, -, -⟩, hq⟩ := (c_law l s _ hw _ s.heap p0 p1 p2  ) (Old.start s) tables_1 p e ha hc hk s m _ below hf ((Spec.applies_iff_loose hf).mp happ).1 ⟨rfl, State.Warmed39.refl s, rfl⟩ trivial
  obtain rfl : v = some (.int 1) := q1
  refine ⟨n, _, h1, h2, h3, hpost _ _ _ _ _ _ ⟨Cond.after_iff.mpr rfl, Cond.after_iff.mpr (eq_i res_at (Term.int_eval (1)) rfl), trivial⟩ ⟨(hq.1 rfl).1, (hq.1 rfl).2.1, ((hq.1 rfl).2.2.sift fun y hy => Or.inr (N y hy)).mono (by decide) (by decide)⟩⟩
theorem main_1_1 : Claimed_1_1 := comes_1 fun _ _ _ _ _ _ h hF => ⟨h.1, hF⟩
theorem main_1_2 : Claimed_1_2 := comes_1 fun _ _ _ _ _ _ h hF => ⟨h.2.1, hF⟩
end Jvm.Pilot.@@N@@
namespace Jvm.Pilot.@@N@@
open Jvm Jvm.ClassFile Sem Op Lib Jvm.Free Jvm.Stand Jvm.Pilot.@@N@@.Jvm.D
/-! MADE BY PROGRAM (witnessworld.py) out of the Statement's table words and the real class files: 9 classes; the members and pool entries that the words name. The judged class is class 1, her method 2. -/
namespace start1
open Jvm.ClassFile
def u (s : String) : CpInfo := .utf8 (stringToUtf16 s)
/-- a pool by its gaps: so many unusable entries, then the entry; so many at the end -/
def gap : Nat → List CpInfo → List CpInfo
  | 0, r => r
  | n + 1, r => .unusable :: gap n r
def poolList (es : List (Nat × CpInfo)) (last : Nat) : List CpInfo := es.foldr (fun e r => gap e.1 (e.2 :: r)) (gap last [])
def pool (es : List (Nat × CpInfo)) (last : Nat) : Array CpInfo := ⟨poolList es last⟩
def fileOf (pool : Array CpInfo) (this : Nat) (attrs : Array Attribute := #[]) (ms : Array MethodInfo := #[]) (fl : Nat := 33) (sup : Nat := 0) (ifs : Array Nat := #[]) (fds : Array FieldInfo := #[]) : ClassFile where
  minorVersion := 0
  majorVersion := 65
  constantPool := pool
  accessFlags := fl
  thisClass := this
  superClass := sup
  interfaces := ifs
  fields := fds
  methods := ms
  attributes := attrs
def plain (name : String) (sup : Option ClassId) : Class where
  name := name
  kind := .ordinary
  loader := none
  accessFlags := 33
  super := sup
  interfaces := #[]
  cf := none
  fields := #[]
  methods := #[]
  instanceTypes := #[]
  staticTypes := #[]
  resolved := #[]
  callSites := []
  init := .initialized
  statics := none
  mirror := none

def pool0 : Array CpInfo := pool [(5, u "<init>"), (0, u "()V"), (1, .class_ 10), (1, u "java/lang/Object")] 113

def k0m0 : Method := { name := "<init>", desc := "()V", sig := { parameters := [], returnType := none }, accessFlags := 1, code := none }
/-- java/lang/Object -/
def k0 : Class := { plain "java/lang/Object" none with
  accessFlags := 33
  interfaces := #[]
  cf := some (fileOf pool0 8 #[] #[{ accessFlags := 1, nameIndex := 5, descriptorIndex := 6, attributes := #[] }] 33 0 #[] #[])
  fields := #[]
  methods := #[k0m0]
  instanceTypes := #[]
  staticTypes := #[]
  resolved := Array.replicate 124 none
  statics := none }

def pool1 : Array CpInfo := pool [(2, .class_ 4), (1, u "java/lang/Object"), (0, u "<init>"), (0, u "()V"), (0, .double 1), (1, .double 2188749418902061056), (1, .double 8930638061075693568), (1, .double 103582791429521408), (1, .long 9007199254740992), (1, .methodref 18 19), (0, .class_ 20), (0, .nameAndType 21 22), (0, u "com/example/bounds_on_reach/boundsonreach/engine/OutwardSumErrorPinLaw"), (0, u "scaleOf"), (0, u "(I)D"), (0, .methodref 24 25), (0, .class_ 26), (0, .nameAndType 27 28), (0, u "com/example/bounds_on_reach/boundsonreach/engine/Outward"), (0, u "sumError"), (0, u "(DDD)D"), (3, u "law"), (0, u "(JJI)Z")] 2

def k1m0 : Method := { name := "<init>", desc := "()V", sig := { parameters := [], returnType := none }, accessFlags := 2, code := none }
def k1c1 : Code := { maxStack := 2, maxLocals := 1, code := method_2_code, exceptionTable := #[], attributes := #[] }
def k1m1 : Method := { name := "scaleOf", desc := "(I)D", sig := { parameters := [.int], returnType := some .double }, accessFlags := 10, code := some k1c1 }
def k1c2 : Code := { maxStack := 8, maxLocals := 34, code := code, exceptionTable := #[], attributes := #[] }
def k1m2 : Method := { name := "law", desc := "(JJI)Z", sig := { parameters := [.long, .long, .int], returnType := some .boolean }, accessFlags := 9, code := some k1c2 }
/-- com/example/bounds_on_reach/boundsonreach/engine/OutwardSumErrorPinLaw -/
def k1 : Class := { plain "com/example/bounds_on_reach/boundsonreach/engine/OutwardSumErrorPinLaw" (some 0) with
  accessFlags := 49
  interfaces := #[]
  cf := some (fileOf pool1 18 #[] #[{ accessFlags := 2, nameIndex := 5, descriptorIndex := 6, attributes := #[] }, { accessFlags := 10, nameIndex := 21, descriptorIndex := 22, attributes := #[] }, { accessFlags := 9, nameIndex := 32, descriptorIndex := 33, attributes := #[] }] 49 2 #[] #[])
  fields := #[]
  methods := #[k1m0, k1m1, k1m2]
  instanceTypes := #[]
  staticTypes := #[]
  resolved := Array.replicate 36 none
  statics := none }

def pool2 : Array CpInfo := pool [(2, .class_ 4), (1, u "java/lang/Object"), (0, u "<init>"), (0, u "()V"), (7, .class_ 16), (1, u "com/example/bounds_on_reach/boundsonreach/engine/Outward"), (6, u "sumError"), (0, u "(DDD)D"), (60, .class_ 87), (1, u "com/example/bounds_on_reach/boundsonreach/engine/Outward$Sum"), (11, u "TINY"), (0, u "D"), (1, u "EXACT_LONG"), (0, u "J")] 19

def k2m0 : Method := { name := "<init>", desc := "()V", sig := { parameters := [], returnType := none }, accessFlags := 2, code := none }
def k2c1 : Code := { maxStack := 6, maxLocals := 8, code := prog_25_method_16_code, exceptionTable := #[], attributes := #[] }
def k2m1 : Method := { name := "sumError", desc := "(DDD)D", sig := { parameters := [.double, .double, .double], returnType := some .double }, accessFlags := 8, code := some k2c1 }
/-- com/example/bounds_on_reach/boundsonreach/engine/Outward -/
def k2 : Class := { plain "com/example/bounds_on_reach/boundsonreach/engine/Outward" (some 0) with
  accessFlags := 49
  interfaces := #[]
  cf := some (fileOf pool2 14 #[.nestMembers #[85]] #[{ accessFlags := 2, nameIndex := 5, descriptorIndex := 6, attributes := #[] }, { accessFlags := 8, nameIndex := 23, descriptorIndex := 24, attributes := #[] }] 49 2 #[] #[{ accessFlags := 26, nameIndex := 99, descriptorIndex := 100, attributes := #[] }, { accessFlags := 26, nameIndex := 102, descriptorIndex := 103, attributes := #[] }])
  fields := #[{ name := "TINY", type := .double, accessFlags := 26, slot := 0, constantValue := 0 }, { name := "EXACT_LONG", type := .long, accessFlags := 26, slot := 1, constantValue := 0 }]
  methods := #[k2m0, k2m1]
  instanceTypes := #[]
  staticTypes := #[.double, .long]
  resolved := Array.replicate 123 none
  statics := none }

def pool3 : Array CpInfo := pool [(1, u "java/lang/Cloneable"), (0, .class_ 1), (0, u "java/lang/Object"), (0, .class_ 3)] 3

/-- java/lang/Cloneable -/
def k3 : Class := { plain "java/lang/Cloneable" (some 0) with
  accessFlags := 1537
  interfaces := #[]
  cf := some (fileOf pool3 2 #[] #[] 1537 4 #[] #[])
  fields := #[]
  methods := #[]
  instanceTypes := #[]
  staticTypes := #[]
  resolved := Array.replicate 8 none
  statics := none }

def pool4 : Array CpInfo := pool [(1, u "java/io/Serializable"), (0, .class_ 1), (0, u "java/lang/Object"), (0, .class_ 3)] 3

/-- java/io/Serializable -/
def k4 : Class := { plain "java/io/Serializable" (some 0) with
  accessFlags := 1537
  interfaces := #[]
  cf := some (fileOf pool4 2 #[] #[] 1537 4 #[] #[])
  fields := #[]
  methods := #[]
  instanceTypes := #[]
  staticTypes := #[]
  resolved := Array.replicate 8 none
  statics := none }

/-- the primitive byte -/
def k5 : Class := { plain "byte" none with kind := .primitive 'B', accessFlags := 0x411 }
/-- [B -/
def k6 : Class := { plain "[B" (some 0) with kind := .array 5 .byte, interfaces := #[3, 4], accessFlags := 1041 }

/-- the primitive int -/
def k7 : Class := { plain "int" none with kind := .primitive 'I', accessFlags := 0x411 }
/-- [I -/
def k8 : Class := { plain "[I" (some 0) with kind := .array 7 .int, interfaces := #[3, 4], accessFlags := 1041 }

def heap : Heap := #[]
def classes : Array Class := #[k0, k1, k2, k3, k4, k5, k6, k7, k8]
def interned : List (Array UInt16 × Addr) := []
def slotsUsed : Nat := 0
def theMethod : MethodId := ⟨1, 2⟩
def args0 : Array Value := #[.long 5, .long 5, .int 5]
def aboutOver (below : List Frame) : State where
  vm := { classes := classes, interned := interned.toArray }
  heap := heap
  slotsUsed := slotsUsed
  threads := #[{ frames := .invoking theMethod args0 :: below }]
def below0 : List Frame := [.native { method := ⟨0, 0⟩, args := #[] }]
def about1 : State := aboutOver below0
def p0 : Program := .bare "" "" ""
def e0 : Env := launch0.env 0 0 0
theorem w_frames : about1.frames = Frame.invoking theMethod args0 :: below0 := rfl
set_option maxRecDepth 65536 in
theorem w_args : argsFit about1.vm theMethod args0 = true := by decide +kernel
set_option maxRecDepth 65536 in
theorem w_heap : heapFits about1 = true := by decide +kernel
set_option maxRecDepth 65536 in
theorem w_runnable : about1.curStatus? = some .runnable := by decide +kernel
set_option maxRecDepth 65536 in
theorem w_alone : about1.alone = true := by decide +kernel
set_option maxRecDepth 65536 in
theorem w_named : about1.methodNamed? x = some theMethod := by decide +kernel
set_option maxRecDepth 65536 in
theorem w_hears : about1.hears theMethod below0 = true := by decide +kernel
set_option maxRecDepth 65536 in
theorem w_ripe : about1.ripe theMethod args0 below0 = true := by decide +kernel
theorem w_running : about1.status = .running := rfl
set_option maxRecDepth 65536 in
theorem w_room : about1.hasRoom e0.platform room_1 = true :=
  launch0.hasRoom_least _ room_1 (by decide +kernel) (by decide +kernel) (by decide +kernel) (by decide +kernel) (by decide +kernel) (by decide +kernel)
theorem allAtoms_all (ts : List Jvm.Cond) (a : Array Jvm.Value) (st : Jvm.State) : (allAtoms ts).before a st = ts.all (fun c => c.before a st) := by
  induction ts with
  | nil => rfl
  | cons c t ih =>
    show (Jvm.Cond.and c (allAtoms t)).before a st = _
    rw [Jvm.Cond.before_and, ih, List.all_cons]
def words1 : List Jvm.Cond := Jvm.Cond.code x code maxLocals ret :: tables_1
/-- a 'code' word, met by the world's own term for the bytes: nothing is compared byte by byte -/
theorem code_word {y : MethodName} {bytes : ByteArray} {mx : Nat} {rt : Option FieldType} {a : Array Value} {s : State} {m : MethodId} {meth : Method} {c : Code} (h1 : s.methodNamed? y = some m) (h2 : s.vm.method? m = some meth) (h3 : meth.code = some c) (h4 : c.code = bytes)
    (h5 : (c.maxLocals == mx && c.exceptionTable.isEmpty && decide (c.maxStack ≤ mostOperands) && decide (meth.sig.returnType = rt) && !meth.locks && decide (parseMethodDescriptor y.desc = some meth.sig)) = true) : (Jvm.Cond.code y bytes mx rt).before a s = true := by
  simp only [Bool.and_eq_true, beq_iff_eq, Bool.not_eq_true', decide_eq_true_eq] at h5
  obtain ⟨⟨⟨⟨⟨g1, g2⟩, g3⟩, g4⟩, g5⟩, g6⟩ := h5
  simp [Cond.before, Cond.holds, Cond.value, h1, h2, h3, h4, g1, g2, g3, g4, g5, g6]
def isCode : Jvm.Cond → Bool
  | .code _ _ _ _ => true
  | _ => false
theorem all_split {L : List Jvm.Cond} {P : Jvm.Cond → Bool} (h1 : L.all (fun c => isCode c || P c) = true) (h2 : ∀ c ∈ L.filter isCode, P c = true) : L.all P = true := by
  refine List.all_eq_true.mpr fun c hc => ?_
  have h := List.all_eq_true.mp h1 c hc
  rcases Bool.eq_false_or_eq_true (isCode c) with hi | hi
  · exact h2 c (List.mem_filter.mpr ⟨hc, hi⟩)
  · simpa [hi] using h
set_option maxRecDepth 65536 in
theorem w_c0 : (Jvm.Cond.code x code maxLocals ret).before args0 about1 = true := code_word (m := ⟨1, 2⟩) (meth := k1m2) (c := k1c2) (by decide +kernel) rfl rfl rfl (by decide +kernel)
set_option maxRecDepth 65536 in
theorem w_c1 : (Jvm.Cond.code ({ cls := "com/example/bounds_on_reach/boundsonreach/engine/OutwardSumErrorPinLaw", name := "scaleOf", desc := "(I)D" } : Jvm.MethodName) method_2_code (1 : Nat) (Option.some Jvm.ClassFile.FieldType.double)).before args0 about1 = true := code_word (m := ⟨1, 1⟩) (meth := k1m1) (c := k1c1) (by decide +kernel) rfl rfl rfl (by decide +kernel)
set_option maxRecDepth 65536 in
theorem w_c2 : (Jvm.Cond.code ({ cls := "com/example/bounds_on_reach/boundsonreach/engine/Outward", name := "sumError", desc := "(DDD)D" } : Jvm.MethodName) prog_25_method_16_code (8 : Nat) (Option.some Jvm.ClassFile.FieldType.double)).before args0 about1 = true := code_word (m := ⟨2, 1⟩) (meth := k2m1) (c := k2c1) (by decide +kernel) rfl rfl rfl (by decide +kernel)
def codes1 : List Jvm.Cond := [Jvm.Cond.code x code maxLocals ret, Jvm.Cond.code ({ cls := "com/example/bounds_on_reach/boundsonreach/engine/OutwardSumErrorPinLaw", name := "scaleOf", desc := "(I)D" } : Jvm.MethodName) method_2_code (1 : Nat) (Option.some Jvm.ClassFile.FieldType.double), Jvm.Cond.code ({ cls := "com/example/bounds_on_reach/boundsonreach/engine/Outward", name := "sumError", desc := "(DDD)D" } : Jvm.MethodName) prog_25_method_16_code (8 : Nat) (Option.some Jvm.ClassFile.FieldType.double)]
set_option maxRecDepth 65536 in
theorem codes_eq : words1.filter isCode = codes1 := rfl
theorem w_codes : ∀ c ∈ words1.filter isCode, c.before args0 about1 = true := by
  rw [codes_eq]
  intro c hc
  simp only [codes1, List.mem_cons, List.not_mem_nil, or_false] at hc
  rcases hc with rfl | rfl | rfl
  · exact w_c0
  · exact w_c1
  · exact w_c2
set_option maxRecDepth 65536 in
theorem w_t1 : words1.all (fun c => isCode c || c.before args0 about1) = true := by decide +kernel
theorem w_tables : (allAtoms (Jvm.Cond.code x code maxLocals ret :: tables_1)).before args0 about1 = true := by
  rw [allAtoms_all]
  show words1.all (fun c => c.before args0 about1) = true
  refine all_split ?_ w_codes
  rw [w_t1]
set_option maxRecDepth 65536 in
theorem w_case : (Jvm.Cond.and given_1 narrow_1).before args0 about1 = true := by decide +kernel
theorem w_applies : (headSpec (Jvm.Cond.code x code maxLocals ret :: tables_1) room_1).applies x e0.platform about1 = true :=
  (Spec.applies_iff w_frames).mpr ⟨w_running, w_runnable, w_alone, w_named, w_hears, w_ripe, w_room, w_tables⟩
theorem atStart : AtStart classFile x code maxLocals ret World_1 tables_1 room_1 Calls_1 rest_1 Pre_1 launch0 p0 e0 about1 theMethod args0 below0 :=
  ⟨lists_1, trivial, launch0.admits_env _ _ _, launch0.least_env, fairChoices_fair.cas, fairChoices_fair.clock, w_frames, w_args, w_heap, w_applies, trivial, trivial, w_case⟩
end start1
theorem witness_1 : WitnessClaimed_1 := ⟨start1.p0, start1.e0, start1.about1, start1.theMethod, start1.args0, start1.below0, start1.atStart⟩
end Jvm.Pilot.@@N@@
