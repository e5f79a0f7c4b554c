import JvmDerived
import JvmDerived.Pilot.@@N@@Statement
import JvmDerived.Pilot.@@N@@Code
set_option linter.unusedVariables false
set_option linter.unusedSimpArgs false
namespace Jvm.OwnKit
open Sem ClassFile Op Lib Jvm.Stand Jvm.Free Jvm.LawKit Jvm.RoadKit
/-! A WALK THAT IS DIRECTED BY ITS GOAL. Cx: what one invocation holds fixed. Go κ h cells slots pc Ls st: from the place pc, with these variables and this operand stack, over the heap h, the invocation returns as κ promises. -/
abbrev Cx : Type := (Program × Launch × Env × Room × State × MethodId × Array Value × List Frame × Method × Code) × (Bool × State × Nat × (Option Value → Heap → Prop))
abbrev Cx.p (κ : Cx) : Program := κ.1.1
abbrev Cx.l (κ : Cx) : Launch := κ.1.2.1
abbrev Cx.e (κ : Cx) : Env := κ.1.2.2.1
abbrev Cx.R (κ : Cx) : Room := κ.1.2.2.2.1
abbrev Cx.s (κ : Cx) : State := κ.1.2.2.2.2.1
abbrev Cx.m (κ : Cx) : MethodId := κ.1.2.2.2.2.2.1
abbrev Cx.args (κ : Cx) : Array Value := κ.1.2.2.2.2.2.2.1
abbrev Cx.below (κ : Cx) : List Frame := κ.1.2.2.2.2.2.2.2.1
abbrev Cx.meth (κ : Cx) : Method := κ.1.2.2.2.2.2.2.2.2.1
abbrev Cx.c (κ : Cx) : Code := κ.1.2.2.2.2.2.2.2.2.2
/-- may string constants be resolved on the way? -/
abbrev Cx.wide (κ : Cx) : Bool := κ.2.1
abbrev Cx.Z (κ : Cx) : State := κ.2.2.1
abbrev Cx.n0 (κ : Cx) : Nat := κ.2.2.2.1
abbrev Cx.Q (κ : Cx) : Option Value → Heap → Prop := κ.2.2.2.2
/-- the tables over which the walk stands now -/
def Cx.adm (κ : Cx) (vm0 : Vm) (n : Nat) : Prop := (∃ k0, κ.s.Since vm0 k0 ∧ k0 ≤ n) ∧ (κ.wide = false → vm0 = κ.s.vm)
/-- how an invocation ends -/
def Ends (wide : Bool) (s : State) (o : Outcome) (t : State) (L : List Loc) (k n : Nat) : Prop := (wide = false → FrameEnd s o t L k n) ∧ ReturnedEndW s o t L k n
def Go (κ : Cx) (h : Heap) (cells slots pc : Nat) (Ls : Array Slot) (st : List Value) : Prop :=
  ∀ (T : State) (locs : List Loc) (vm0 : Vm), Stand κ.p κ.l κ.e κ.R (κ.s.setVm vm0) κ.m κ.args κ.below κ.meth κ.c T locs cells slots → κ.adm vm0 h.size → κ.Z.Warmed39 vm0 → Fr κ.n0 locs → Old κ.Z κ.n0 h → T.heap = h →
    ∃ s₂ o, Steps κ.p.tables κ.e κ.below (T.setTop (mkF κ.m pc Ls st)) s₂ ∧ s₂.status = .running ∧ Ended s₂ κ.below o ∧ ∃ v L, o = .returned v ∧ (κ.Q v s₂.heap ∧ Fr κ.n0 L ∧ κ.s.heap.size ≤ s₂.heap.size ∧ Old κ.Z κ.n0 s₂.heap) ∧ Ends κ.wide κ.s o s₂ L κ.R.cells κ.R.slots
def Ok (κ : Cx) (l : Launch) (Z : State) (n0 : Nat) (own nm : String) (bytes : ByteArray) (maxL : Nat) (ret : Option FieldType) (rm : Room) (Q : Option Value → Heap → Prop) : Prop :=
  κ.l = l ∧ κ.Z = Z ∧ κ.n0 = n0 ∧ κ.R = rm ∧ κ.p.tables.exec = Jvm.exec ∧ κ.s.vm.findClass own = some κ.m.cls ∧ κ.c.code = bytes ∧ κ.c.maxLocals = maxL ∧ κ.meth.sig.returnType = ret ∧ κ.meth.name = nm ∧ κ.meth.locks = false ∧ κ.Q = Q
/-- a callee's contract: called with these arguments over the heap h0 it returns, and Q holds of what it returns and of the heap that it leaves; what it wrote lies at or above n0 -/
def Con (wide : Bool) (l : Launch) (Z : State) (n0 : Nat) (y : MethodName) (bytes : ByteArray) (maxL : Nat) (ret : Option FieldType) (rm : Room) (as' : Array Value) (h0 : Heap) (Q : Option Value → Heap → Prop) : Prop :=
  Old Z n0 h0 → ∀ ws : List Cond, MetFree l y (head1 (Cond.code y bytes maxL ret :: ws) rm) (fun a U => a = as' ∧ Z.Warmed39 U.vm ∧ U.heap = h0) (fun _ _ _ _ _ => True)
    (fun _ U o U' => ∃ v L, o = .returned v ∧ (Q v U'.heap ∧ Fr n0 L ∧ U.heap.size ≤ U'.heap.size ∧ Old Z n0 U'.heap) ∧ Ends wide U o U' L rm.cells rm.slots)
section Laws
variable {κ : Cx} {t : FieldType} {l : Launch} {Z : State} {n0 : Nat} {own nm : String} {bytes : ByteArray} {maxL : Nat} {ret : Option FieldType} {rm : Room} {Q : Option Value → Heap → Prop} {h : Heap} {cells slots pc : Nat} {Ls : Array Slot} {st : List Value}
theorem Ok.exec (K : Ok κ l Z n0 own nm bytes maxL ret rm Q) : κ.p.tables.exec = Jvm.exec := K.2.2.2.2.1
theorem Ok.kb (K : Ok κ l Z n0 own nm bytes maxL ret rm Q) : κ.c.code = bytes := K.2.2.2.2.2.2.1
theorem Ok.kl (K : Ok κ l Z n0 own nm bytes maxL ret rm Q) : κ.c.maxLocals = maxL := K.2.2.2.2.2.2.2.1
theorem Ok.kr (K : Ok κ l Z n0 own nm bytes maxL ret rm Q) : κ.meth.sig.returnType = ret := K.2.2.2.2.2.2.2.2.1
theorem Ok.name (K : Ok κ l Z n0 own nm bytes maxL ret rm Q) : κ.meth.name = nm := K.2.2.2.2.2.2.2.2.2.1
theorem Ok.locks (K : Ok κ l Z n0 own nm bytes maxL ret rm Q) : κ.meth.locks = false := K.2.2.2.2.2.2.2.2.2.2.1
theorem Ok.eQ (K : Ok κ l Z n0 own nm bytes maxL ret rm Q) : κ.Q = Q := K.2.2.2.2.2.2.2.2.2.2.2
theorem Ok.eZ (K : Ok κ l Z n0 own nm bytes maxL ret rm Q) : κ.Z = Z := K.2.1
theorem Ok.en (K : Ok κ l Z n0 own nm bytes maxL ret rm Q) : κ.n0 = n0 := K.2.2.1
theorem Ok.eR (K : Ok κ l Z n0 own nm bytes maxL ret rm Q) : κ.R = rm := K.2.2.2.1
theorem Ok.el (K : Ok κ l Z n0 own nm bytes maxL ret rm Q) : κ.l = l := K.1
theorem Ok.ko (K : Ok κ l Z n0 own nm bytes maxL ret rm Q) {vm0 : Vm} {n : Nat} (A : κ.adm vm0 n) : (κ.s.setVm vm0).vm.findClass own = some κ.m.cls := by
  obtain ⟨⟨k0, hS, -⟩, -⟩ := A
  show vm0.findClass own = _
  rw [hS.1.alike.findClass]; exact K.2.2.2.2.2.1
theorem Ok.warm (K : Ok κ l Z n0 own nm bytes maxL ret rm Q) {vm0 : Vm} (hZ : κ.Z.Warmed39 vm0) : Z.Warmed39 (κ.s.setVm vm0).vm := by rw [← K.eZ]; exact hZ
theorem Cx.adm.mono {vm0 : Vm} {n n' : Nat} (A : κ.adm vm0 n) (q : n ≤ n') : κ.adm vm0 n' := by
  obtain ⟨⟨k0, hS, hk⟩, w⟩ := A
  exact ⟨⟨k0, hS, Nat.le_trans hk q⟩, w⟩
theorem Ok.old (K : Ok κ l Z n0 own nm bytes maxL ret rm Q) (B : Old κ.Z κ.n0 h) : Old Z n0 h := by rw [← K.eZ, ← K.en]; exact B
theorem Ok.oldS (K : Ok κ l Z n0 own nm bytes maxL ret rm Q) (B : Old Z n0 h) : Old κ.Z κ.n0 h := by rw [K.eZ, K.en]; exact B
theorem low_of (B : Old Z n0 h) : n0 ≤ h.size := B.1 ▸ B.2.1
/-- what was there at the law's start is there still -/
theorem old (K : Ok κ l Z n0 own nm bytes maxL ret rm Q) (hr : Old Z n0 h → Go κ h cells slots pc Ls st) : Go κ h cells slots pc Ls st := fun T locs vm0 X A hZ N B eT =>
  hr (K.old B) T locs vm0 X A hZ N B eT
theorem more {cells' slots' : Nat} (hc : cells ≤ cells') (hs : slots ≤ slots') (hr : Go κ h cells' slots' pc Ls st) : Go κ h cells slots pc Ls st := fun T locs vm0 X A hZ N B eT =>
  hr T locs vm0 (X.mono hc hs) A hZ N B eT
theorem Ends.mono {wide : Bool} {s t : State} {o : Outcome} {L : List Loc} {k n k' n' : Nat} (E : Ends wide s o t L k n) (hk : k ≤ k') (hn : n ≤ n') : Ends wide s o t L k' n' :=
  ⟨fun w => ⟨(E.1 w).1, (E.1 w).2.1, (E.1 w).2.2.mono hk hn⟩, E.2.1, E.2.2.1, E.2.2.2.1, E.2.2.2.2.mono hk hn⟩
/-! ## the end of a walk -/
theorem out (K : Ok κ l Z n0 own nm bytes maxL ret rm Q) {v : Option Value} (hv : ret = none → v = none) (hq : Q v h) (hc : cells ≤ rm.cells) (hs : slots ≤ rm.slots)
    (st1 : ∀ (T : State) (locs : List Loc) (vm0 : Vm) (fs : List Frame), Stand κ.p κ.l κ.e κ.R (κ.s.setVm vm0) κ.m κ.args κ.below κ.meth κ.c T locs cells slots → (∀ (f : JFrame) (acts : List Action), f.method = κ.m → f.locked = none → f.entered = [] → (doReturn κ.e (T.setTop f) acts v).1 = T.setFrames fs) →
      Steps κ.p.tables κ.e κ.below (T.setTop (mkF κ.m pc Ls st)) (T.setFrames fs)) : Go κ h cells slots pc Ls st := fun T locs vm0 X A hZ N B eT => by
  obtain ⟨⟨k0, hS, hk⟩, hw⟩ := A
  have hlk := K.locks
  obtain ⟨fs, hr, hrun, hended, hW, hsame⟩ := X.leave (v := v) (fun q => hv (K.kr ▸ q))
  have hR : ReturnedEndW κ.s (.returned v) (T.setFrames fs) locs cells slots := by
    obtain ⟨a, b, c'⟩ := hS.ended (U := T.setFrames fs) hW (by show k0 ≤ T.heap.size; rw [eT]; exact hk) hsame
    exact ⟨⟨v, rfl⟩, a, b, c'⟩
  refine ⟨_, _, st1 T locs vm0 fs X hr, hrun, hended, v, locs, rfl, ⟨?_, N, hR.2.2.2.2.1, by show Old κ.Z κ.n0 T.heap; rw [eT]; exact B⟩, Ends.mono ⟨fun w => ?_, hR⟩ (by rw [K.eR]; exact hc) (by rw [K.eR]; exact hs)⟩
  · show κ.Q v T.heap
    rw [K.eQ, eT]; exact hq
  · have e0 := hw w
    subst e0
    exact ⟨⟨v, rfl⟩, hW, hsame⟩
theorem retOf (K : Ok κ l Z n0 own nm bytes maxL (some t) rm Q) {w : Value} {i : Instr} (hd : decode bytes pc = .ok (i, 1)) (hn : narrow t w = w)
    (hi : (i = .ireturn ∧ (t = .int ∨ t = .boolean ∨ t = .byte ∨ t = .char ∨ t = .short) ∧ ∃ z, w = .int z) ∨ (i = .lreturn ∧ t = .long ∧ ∃ z, w = .long z) ∨ (i = .dreturn ∧ t = .double ∧ ∃ z, w = .double z) ∨ (i = .freturn ∧ t = .float ∧ ∃ z, w = .float z) ∨ (i = .areturn ∧ t.isReference = true ∧ w.isRef = true))
    (hq : Q (some w) h) (hc : cells ≤ rm.cells) (hs : slots ≤ rm.slots) : Go κ h cells slots pc Ls (w :: st) :=
  out K (fun q => nomatch q) hq hc hs fun T locs vm0 fs X hr => retOut X K.exec K.kr hn hi (hb K.kb hd) hr
theorem ireturn (K : Ok κ l Z n0 own nm bytes maxL (some t) rm Q) {z : Int32} (hd : decode bytes pc = .ok (.ireturn, 1)) (ht : t = .int ∨ t = .boolean ∨ t = .byte ∨ t = .char ∨ t = .short) (hn : narrow t (.int z) = .int z)
    (hq : Q (some (.int z)) h) (hc : cells ≤ rm.cells) (hs : slots ≤ rm.slots) : Go κ h cells slots pc Ls (.int z :: st) := retOf K hd hn (Or.inl ⟨rfl, ht, z, rfl⟩) hq hc hs
theorem lreturn (K : Ok κ l Z n0 own nm bytes maxL (some .long) rm Q) {z : Int64} (hd : decode bytes pc = .ok (.lreturn, 1)) (hq : Q (some (.long z)) h) (hc : cells ≤ rm.cells) (hs : slots ≤ rm.slots) : Go κ h cells slots pc Ls (.long z :: st) :=
  retOf K hd rfl (Or.inr (Or.inl ⟨rfl, rfl, z, rfl⟩)) hq hc hs
theorem areturn (K : Ok κ l Z n0 own nm bytes maxL (some t) rm Q) {w : Value} (hd : decode bytes pc = .ok (.areturn, 1)) (ht : t.isReference = true) (hw : w.isRef = true) (hq : Q (some w) h) (hc : cells ≤ rm.cells) (hs : slots ≤ rm.slots) : Go κ h cells slots pc Ls (w :: st) := by
  refine retOf K hd ?_ (Or.inr (Or.inr (Or.inr (Or.inr ⟨rfl, ht, hw⟩)))) hq hc hs
  cases t <;> first | (exact Bool.noConfusion ht; done) | (rcases ref_cases hw with rfl | ⟨a, rfl⟩ <;> rfl)
theorem return0 (K : Ok κ l Z n0 own nm bytes maxL none rm Q) (hd : decode bytes pc = .ok (.return_, 1)) (hq : Q none h) (hc : cells ≤ rm.cells) (hs : slots ≤ rm.slots) : Go κ h cells slots pc Ls [] :=
  out K (fun _ => rfl) hq hc hs fun T locs vm0 fs X hr => X.returnOut K.exec K.kr (hb K.kb hd) hr

theorem iloadN {k : Fin 4} {v : Int32} (K : Ok κ l Z n0 own nm bytes maxL ret rm Q) (hd : decode bytes pc = .ok (.iload_n k, 1)) (hl : Ls[k.val]? = some (.val (.int v))) (hr : Go κ h cells slots (pc + 1) Ls ((.int v) :: st)) : Go κ h cells slots pc Ls (st) := fun T locs vm0 X A hZ N B eT => by
  obtain ⟨s₂, o, hs, r⟩ := hr T locs vm0 X A hZ N B eT
  exact ⟨s₂, o, XS.iloadN X.here K.exec rfl (hb K.kb hd) hl hs, r⟩
theorem iload {k : Nat} {v : Int32} (K : Ok κ l Z n0 own nm bytes maxL ret rm Q) (hd : decode bytes pc = .ok (.iload k, 2)) (hl : Ls[k]? = some (.val (.int v))) (hr : Go κ h cells slots (pc + 2) Ls ((.int v) :: st)) : Go κ h cells slots pc Ls (st) := fun T locs vm0 X A hZ N B eT => by
  obtain ⟨s₂, o, hs, r⟩ := hr T locs vm0 X A hZ N B eT
  exact ⟨s₂, o, XS.iload X.here K.exec rfl (hb K.kb hd) hl hs, r⟩
theorem lloadN {k : Fin 4} {v : Int64} (K : Ok κ l Z n0 own nm bytes maxL ret rm Q) (hd : decode bytes pc = .ok (.lload_n k, 1)) (hl : Ls[k.val]? = some (.val (.long v))) (hr : Go κ h cells slots (pc + 1) Ls ((.long v) :: st)) : Go κ h cells slots pc Ls (st) := fun T locs vm0 X A hZ N B eT => by
  obtain ⟨s₂, o, hs, r⟩ := hr T locs vm0 X A hZ N B eT
  exact ⟨s₂, o, XT.lloadN X.here K.exec rfl (hb K.kb hd) hl hs, r⟩
theorem lload {k : Nat} {v : Int64} (K : Ok κ l Z n0 own nm bytes maxL ret rm Q) (hd : decode bytes pc = .ok (.lload k, 2)) (hl : Ls[k]? = some (.val (.long v))) (hr : Go κ h cells slots (pc + 2) Ls ((.long v) :: st)) : Go κ h cells slots pc Ls (st) := fun T locs vm0 X A hZ N B eT => by
  obtain ⟨s₂, o, hs, r⟩ := hr T locs vm0 X A hZ N B eT
  exact ⟨s₂, o, XT.lload X.here K.exec rfl (hb K.kb hd) hl hs, r⟩
theorem aloadN {k : Fin 4} {v : Value} (K : Ok κ l Z n0 own nm bytes maxL ret rm Q) (hd : decode bytes pc = .ok (.aload_n k, 1)) (hl : Ls[k.val]? = some (.val v)) (hv : v.isRef = true) (hr : Go κ h cells slots (pc + 1) Ls (v :: st)) : Go κ h cells slots pc Ls (st) := fun T locs vm0 X A hZ N B eT => by
  obtain ⟨s₂, o, hs, r⟩ := hr T locs vm0 X A hZ N B eT
  exact ⟨s₂, o, XS.aloadN X.here K.exec rfl (hb K.kb hd) hl hv hs, r⟩
theorem aload {k : Nat} {v : Value} (K : Ok κ l Z n0 own nm bytes maxL ret rm Q) (hd : decode bytes pc = .ok (.aload k, 2)) (hl : Ls[k]? = some (.val v)) (hv : v.isRef = true) (hr : Go κ h cells slots (pc + 2) Ls (v :: st)) : Go κ h cells slots pc Ls (st) := fun T locs vm0 X A hZ N B eT => by
  obtain ⟨s₂, o, hs, r⟩ := hr T locs vm0 X A hZ N B eT
  exact ⟨s₂, o, XS.aload X.here K.exec rfl (hb K.kb hd) hl hv hs, r⟩
theorem istoreN {k : Fin 4} {x : Int32} {l' : Array Slot} (K : Ok κ l Z n0 own nm bytes maxL ret rm Q) (hd : decode bytes pc = .ok (.istore_n k, 1)) (hl : storeLocals Ls k.val (.int x) = some l') (hr : Go κ h cells slots (pc + 1) l' (st)) : Go κ h cells slots pc Ls ((.int x) :: st) := fun T locs vm0 X A hZ N B eT => by
  obtain ⟨s₂, o, hs, r⟩ := hr T locs vm0 X A hZ N B eT
  exact ⟨s₂, o, XS.istoreN X.here K.exec rfl (hb K.kb hd) rfl hl hs, r⟩
theorem istore {k : Nat} {x : Int32} {l' : Array Slot} (K : Ok κ l Z n0 own nm bytes maxL ret rm Q) (hd : decode bytes pc = .ok (.istore k, 2)) (hl : storeLocals Ls k (.int x) = some l') (hr : Go κ h cells slots (pc + 2) l' (st)) : Go κ h cells slots pc Ls ((.int x) :: st) := fun T locs vm0 X A hZ N B eT => by
  obtain ⟨s₂, o, hs, r⟩ := hr T locs vm0 X A hZ N B eT
  exact ⟨s₂, o, XS.istore X.here K.exec rfl (hb K.kb hd) rfl hl hs, r⟩
theorem lstoreN {k : Fin 4} {x : Int64} {l' : Array Slot} (K : Ok κ l Z n0 own nm bytes maxL ret rm Q) (hd : decode bytes pc = .ok (.lstore_n k, 1)) (hl : storeLocals Ls k.val (.long x) = some l') (hr : Go κ h cells slots (pc + 1) l' (st)) : Go κ h cells slots pc Ls ((.long x) :: st) := fun T locs vm0 X A hZ N B eT => by
  obtain ⟨s₂, o, hs, r⟩ := hr T locs vm0 X A hZ N B eT
  exact ⟨s₂, o, XT.lstoreN X.here K.exec rfl (hb K.kb hd) rfl hl hs, r⟩
theorem lstore {k : Nat} {x : Int64} {l' : Array Slot} (K : Ok κ l Z n0 own nm bytes maxL ret rm Q) (hd : decode bytes pc = .ok (.lstore k, 2)) (hl : storeLocals Ls k (.long x) = some l') (hr : Go κ h cells slots (pc + 2) l' (st)) : Go κ h cells slots pc Ls ((.long x) :: st) := fun T locs vm0 X A hZ N B eT => by
  obtain ⟨s₂, o, hs, r⟩ := hr T locs vm0 X A hZ N B eT
  exact ⟨s₂, o, XT.lstore X.here K.exec rfl (hb K.kb hd) rfl hl hs, r⟩
theorem astoreN {k : Fin 4} {x : Value} {l' : Array Slot} (K : Ok κ l Z n0 own nm bytes maxL ret rm Q) (hd : decode bytes pc = .ok (.astore_n k, 1)) (hv : x.isRef = true) (hl : storeLocals Ls k.val x = some l') (hr : Go κ h cells slots (pc + 1) l' (st)) : Go κ h cells slots pc Ls (x :: st) := fun T locs vm0 X A hZ N B eT => by
  obtain ⟨s₂, o, hs, r⟩ := hr T locs vm0 X A hZ N B eT
  exact ⟨s₂, o, XS.astoreN X.here K.exec rfl (hb K.kb hd) rfl hv hl hs, r⟩
theorem astore {k : Nat} {x : Value} {l' : Array Slot} (K : Ok κ l Z n0 own nm bytes maxL ret rm Q) (hd : decode bytes pc = .ok (.astore k, 2)) (hv : x.isRef = true) (hl : storeLocals Ls k x = some l') (hr : Go κ h cells slots (pc + 2) l' (st)) : Go κ h cells slots pc Ls (x :: st) := fun T locs vm0 X A hZ N B eT => by
  obtain ⟨s₂, o, hs, r⟩ := hr T locs vm0 X A hZ N B eT
  exact ⟨s₂, o, XS.astore X.here K.exec rfl (hb K.kb hd) rfl hv hl hs, r⟩
theorem iconst {i : Int} (K : Ok κ l Z n0 own nm bytes maxL ret rm Q) (hd : decode bytes pc = .ok (.iconst i, 1))  (hr : Go κ h cells slots (pc + 1) Ls (.int (Int32.ofInt i) :: st)) : Go κ h cells slots pc Ls (st) := fun T locs vm0 X A hZ N B eT => by
  obtain ⟨s₂, o, hs, r⟩ := hr T locs vm0 X A hZ N B eT
  exact ⟨s₂, o, XS.iconst X.here K.exec rfl (hb K.kb hd)  hs, r⟩
theorem bipush {i : Int} (K : Ok κ l Z n0 own nm bytes maxL ret rm Q) (hd : decode bytes pc = .ok (.bipush i, 2))  (hr : Go κ h cells slots (pc + 2) Ls (.int (Int8.ofInt i).toInt32 :: st)) : Go κ h cells slots pc Ls (st) := fun T locs vm0 X A hZ N B eT => by
  obtain ⟨s₂, o, hs, r⟩ := hr T locs vm0 X A hZ N B eT
  exact ⟨s₂, o, XS.bipush X.here K.exec rfl (hb K.kb hd)  hs, r⟩
theorem sipush {i : Int} (K : Ok κ l Z n0 own nm bytes maxL ret rm Q) (hd : decode bytes pc = .ok (.sipush i, 3))  (hr : Go κ h cells slots (pc + 3) Ls (.int (Int16.ofInt i).toInt32 :: st)) : Go κ h cells slots pc Ls (st) := fun T locs vm0 X A hZ N B eT => by
  obtain ⟨s₂, o, hs, r⟩ := hr T locs vm0 X A hZ N B eT
  exact ⟨s₂, o, XS.sipush X.here K.exec rfl (hb K.kb hd)  hs, r⟩
theorem lconst {k : Fin 2} (K : Ok κ l Z n0 own nm bytes maxL ret rm Q) (hd : decode bytes pc = .ok (.lconst k, 1))  (hr : Go κ h cells slots (pc + 1) Ls (.long (Int64.ofNat k) :: st)) : Go κ h cells slots pc Ls (st) := fun T locs vm0 X A hZ N B eT => by
  obtain ⟨s₂, o, hs, r⟩ := hr T locs vm0 X A hZ N B eT
  exact ⟨s₂, o, XT.lconst X.here K.exec rfl (hb K.kb hd)  hs, r⟩
theorem aconstNull  (K : Ok κ l Z n0 own nm bytes maxL ret rm Q) (hd : decode bytes pc = .ok (.aconst_null, 1))  (hr : Go κ h cells slots (pc + 1) Ls (.null :: st)) : Go κ h cells slots pc Ls (st) := fun T locs vm0 X A hZ N B eT => by
  obtain ⟨s₂, o, hs, r⟩ := hr T locs vm0 X A hZ N B eT
  exact ⟨s₂, o, XS.aconstNull X.here K.exec rfl (hb K.kb hd)  hs, r⟩
theorem iadd {x y : Int32} (K : Ok κ l Z n0 own nm bytes maxL ret rm Q) (hd : decode bytes pc = .ok (.iadd, 1))  (hr : Go κ h cells slots (pc + 1) Ls (.int (x + y) :: st)) : Go κ h cells slots pc Ls (.int y :: .int x :: st) := fun T locs vm0 X A hZ N B eT => by
  obtain ⟨s₂, o, hs, r⟩ := hr T locs vm0 X A hZ N B eT
  exact ⟨s₂, o, XS.iadd X.here K.exec rfl (hb K.kb hd) rfl hs, r⟩
theorem isub {x y : Int32} (K : Ok κ l Z n0 own nm bytes maxL ret rm Q) (hd : decode bytes pc = .ok (.isub, 1))  (hr : Go κ h cells slots (pc + 1) Ls (.int (x - y) :: st)) : Go κ h cells slots pc Ls (.int y :: .int x :: st) := fun T locs vm0 X A hZ N B eT => by
  obtain ⟨s₂, o, hs, r⟩ := hr T locs vm0 X A hZ N B eT
  exact ⟨s₂, o, XS.isub X.here K.exec rfl (hb K.kb hd) rfl hs, r⟩
theorem imul {x y : Int32} (K : Ok κ l Z n0 own nm bytes maxL ret rm Q) (hd : decode bytes pc = .ok (.imul, 1))  (hr : Go κ h cells slots (pc + 1) Ls (.int (x * y) :: st)) : Go κ h cells slots pc Ls (.int y :: .int x :: st) := fun T locs vm0 X A hZ N B eT => by
  obtain ⟨s₂, o, hs, r⟩ := hr T locs vm0 X A hZ N B eT
  exact ⟨s₂, o, XS.imul X.here K.exec rfl (hb K.kb hd) rfl hs, r⟩
theorem iand {x y : Int32} (K : Ok κ l Z n0 own nm bytes maxL ret rm Q) (hd : decode bytes pc = .ok (.iand, 1))  (hr : Go κ h cells slots (pc + 1) Ls (.int (x &&& y) :: st)) : Go κ h cells slots pc Ls (.int y :: .int x :: st) := fun T locs vm0 X A hZ N B eT => by
  obtain ⟨s₂, o, hs, r⟩ := hr T locs vm0 X A hZ N B eT
  exact ⟨s₂, o, XS.iand X.here K.exec rfl (hb K.kb hd) rfl hs, r⟩
theorem ior {x y : Int32} (K : Ok κ l Z n0 own nm bytes maxL ret rm Q) (hd : decode bytes pc = .ok (.ior, 1))  (hr : Go κ h cells slots (pc + 1) Ls (.int (x ||| y) :: st)) : Go κ h cells slots pc Ls (.int y :: .int x :: st) := fun T locs vm0 X A hZ N B eT => by
  obtain ⟨s₂, o, hs, r⟩ := hr T locs vm0 X A hZ N B eT
  exact ⟨s₂, o, XT.ior X.here K.exec rfl (hb K.kb hd) rfl hs, r⟩
theorem ixor {x y : Int32} (K : Ok κ l Z n0 own nm bytes maxL ret rm Q) (hd : decode bytes pc = .ok (.ixor, 1))  (hr : Go κ h cells slots (pc + 1) Ls (.int (x ^^^ y) :: st)) : Go κ h cells slots pc Ls (.int y :: .int x :: st) := fun T locs vm0 X A hZ N B eT => by
  obtain ⟨s₂, o, hs, r⟩ := hr T locs vm0 X A hZ N B eT
  exact ⟨s₂, o, XT.ixor X.here K.exec rfl (hb K.kb hd) rfl hs, r⟩
theorem ishl {x y : Int32} (K : Ok κ l Z n0 own nm bytes maxL ret rm Q) (hd : decode bytes pc = .ok (.ishl, 1))  (hr : Go κ h cells slots (pc + 1) Ls (.int (x <<< (y &&& 31)) :: st)) : Go κ h cells slots pc Ls (.int y :: .int x :: st) := fun T locs vm0 X A hZ N B eT => by
  obtain ⟨s₂, o, hs, r⟩ := hr T locs vm0 X A hZ N B eT
  exact ⟨s₂, o, XT.ishl X.here K.exec rfl (hb K.kb hd) rfl hs, r⟩
theorem ishr {x y : Int32} (K : Ok κ l Z n0 own nm bytes maxL ret rm Q) (hd : decode bytes pc = .ok (.ishr, 1))  (hr : Go κ h cells slots (pc + 1) Ls (.int (x >>> (y &&& 31)) :: st)) : Go κ h cells slots pc Ls (.int y :: .int x :: st) := fun T locs vm0 X A hZ N B eT => by
  obtain ⟨s₂, o, hs, r⟩ := hr T locs vm0 X A hZ N B eT
  exact ⟨s₂, o, XT.ishr X.here K.exec rfl (hb K.kb hd) rfl hs, r⟩
theorem iushr {x y : Int32} (K : Ok κ l Z n0 own nm bytes maxL ret rm Q) (hd : decode bytes pc = .ok (.iushr, 1))  (hr : Go κ h cells slots (pc + 1) Ls (.int (XT.ushr x y) :: st)) : Go κ h cells slots pc Ls (.int y :: .int x :: st) := fun T locs vm0 X A hZ N B eT => by
  obtain ⟨s₂, o, hs, r⟩ := hr T locs vm0 X A hZ N B eT
  exact ⟨s₂, o, XT.iushr X.here K.exec rfl (hb K.kb hd) rfl hs, r⟩
theorem idiv {x y : Int32} (K : Ok κ l Z n0 own nm bytes maxL ret rm Q) (hd : decode bytes pc = .ok (.idiv, 1)) (hy : y ≠ 0) (hr : Go κ h cells slots (pc + 1) Ls (.int (x / y) :: st)) : Go κ h cells slots pc Ls (.int y :: .int x :: st) := fun T locs vm0 X A hZ N B eT => by
  obtain ⟨s₂, o, hs, r⟩ := hr T locs vm0 X A hZ N B eT
  exact ⟨s₂, o, XS.idiv X.here K.exec rfl (hb K.kb hd) rfl hy hs, r⟩
theorem ineg {x : Int32} (K : Ok κ l Z n0 own nm bytes maxL ret rm Q) (hd : decode bytes pc = .ok (.ineg, 1))  (hr : Go κ h cells slots (pc + 1) Ls (.int (-x) :: st)) : Go κ h cells slots pc Ls (.int x :: st) := fun T locs vm0 X A hZ N B eT => by
  obtain ⟨s₂, o, hs, r⟩ := hr T locs vm0 X A hZ N B eT
  exact ⟨s₂, o, XS.ineg X.here K.exec rfl (hb K.kb hd) rfl hs, r⟩
theorem ladd {x y : Int64} (K : Ok κ l Z n0 own nm bytes maxL ret rm Q) (hd : decode bytes pc = .ok (.ladd, 1))  (hr : Go κ h cells slots (pc + 1) Ls (.long (x + y) :: st)) : Go κ h cells slots pc Ls (.long y :: .long x :: st) := fun T locs vm0 X A hZ N B eT => by
  obtain ⟨s₂, o, hs, r⟩ := hr T locs vm0 X A hZ N B eT
  exact ⟨s₂, o, XT.ladd X.here K.exec rfl (hb K.kb hd) rfl hs, r⟩
theorem lsub {x y : Int64} (K : Ok κ l Z n0 own nm bytes maxL ret rm Q) (hd : decode bytes pc = .ok (.lsub, 1))  (hr : Go κ h cells slots (pc + 1) Ls (.long (x - y) :: st)) : Go κ h cells slots pc Ls (.long y :: .long x :: st) := fun T locs vm0 X A hZ N B eT => by
  obtain ⟨s₂, o, hs, r⟩ := hr T locs vm0 X A hZ N B eT
  exact ⟨s₂, o, XT.lsub X.here K.exec rfl (hb K.kb hd) rfl hs, r⟩
theorem lmul {x y : Int64} (K : Ok κ l Z n0 own nm bytes maxL ret rm Q) (hd : decode bytes pc = .ok (.lmul, 1))  (hr : Go κ h cells slots (pc + 1) Ls (.long (x * y) :: st)) : Go κ h cells slots pc Ls (.long y :: .long x :: st) := fun T locs vm0 X A hZ N B eT => by
  obtain ⟨s₂, o, hs, r⟩ := hr T locs vm0 X A hZ N B eT
  exact ⟨s₂, o, XT.lmul X.here K.exec rfl (hb K.kb hd) rfl hs, r⟩
theorem land {x y : Int64} (K : Ok κ l Z n0 own nm bytes maxL ret rm Q) (hd : decode bytes pc = .ok (.land, 1))  (hr : Go κ h cells slots (pc + 1) Ls (.long (x &&& y) :: st)) : Go κ h cells slots pc Ls (.long y :: .long x :: st) := fun T locs vm0 X A hZ N B eT => by
  obtain ⟨s₂, o, hs, r⟩ := hr T locs vm0 X A hZ N B eT
  exact ⟨s₂, o, XT.land X.here K.exec rfl (hb K.kb hd) rfl hs, r⟩
theorem lor {x y : Int64} (K : Ok κ l Z n0 own nm bytes maxL ret rm Q) (hd : decode bytes pc = .ok (.lor, 1))  (hr : Go κ h cells slots (pc + 1) Ls (.long (x ||| y) :: st)) : Go κ h cells slots pc Ls (.long y :: .long x :: st) := fun T locs vm0 X A hZ N B eT => by
  obtain ⟨s₂, o, hs, r⟩ := hr T locs vm0 X A hZ N B eT
  exact ⟨s₂, o, XT.lor X.here K.exec rfl (hb K.kb hd) rfl hs, r⟩
theorem lxor {x y : Int64} (K : Ok κ l Z n0 own nm bytes maxL ret rm Q) (hd : decode bytes pc = .ok (.lxor, 1))  (hr : Go κ h cells slots (pc + 1) Ls (.long (x ^^^ y) :: st)) : Go κ h cells slots pc Ls (.long y :: .long x :: st) := fun T locs vm0 X A hZ N B eT => by
  obtain ⟨s₂, o, hs, r⟩ := hr T locs vm0 X A hZ N B eT
  exact ⟨s₂, o, XT.lxor X.here K.exec rfl (hb K.kb hd) rfl hs, r⟩
theorem ldiv {x y : Int64} (K : Ok κ l Z n0 own nm bytes maxL ret rm Q) (hd : decode bytes pc = .ok (.ldiv, 1)) (hy : y ≠ 0) (hr : Go κ h cells slots (pc + 1) Ls (.long (x / y) :: st)) : Go κ h cells slots pc Ls (.long y :: .long x :: st) := fun T locs vm0 X A hZ N B eT => by
  obtain ⟨s₂, o, hs, r⟩ := hr T locs vm0 X A hZ N B eT
  exact ⟨s₂, o, XT.ldiv X.here K.exec rfl (hb K.kb hd) rfl hy hs, r⟩
theorem lshl {x : Int64} {y : Int32} (K : Ok κ l Z n0 own nm bytes maxL ret rm Q) (hd : decode bytes pc = .ok (.lshl, 1))  (hr : Go κ h cells slots (pc + 1) Ls (.long (x <<< (y.toInt64 &&& 63)) :: st)) : Go κ h cells slots pc Ls (.int y :: .long x :: st) := fun T locs vm0 X A hZ N B eT => by
  obtain ⟨s₂, o, hs, r⟩ := hr T locs vm0 X A hZ N B eT
  exact ⟨s₂, o, XT.lshl X.here K.exec rfl (hb K.kb hd) rfl hs, r⟩
theorem lshr {x : Int64} {y : Int32} (K : Ok κ l Z n0 own nm bytes maxL ret rm Q) (hd : decode bytes pc = .ok (.lshr, 1))  (hr : Go κ h cells slots (pc + 1) Ls (.long (x >>> (y.toInt64 &&& 63)) :: st)) : Go κ h cells slots pc Ls (.int y :: .long x :: st) := fun T locs vm0 X A hZ N B eT => by
  obtain ⟨s₂, o, hs, r⟩ := hr T locs vm0 X A hZ N B eT
  exact ⟨s₂, o, XT.lshr X.here K.exec rfl (hb K.kb hd) rfl hs, r⟩
theorem lushr {x : Int64} {y : Int32} (K : Ok κ l Z n0 own nm bytes maxL ret rm Q) (hd : decode bytes pc = .ok (.lushr, 1))  (hr : Go κ h cells slots (pc + 1) Ls (.long (XT.ushrL x y) :: st)) : Go κ h cells slots pc Ls (.int y :: .long x :: st) := fun T locs vm0 X A hZ N B eT => by
  obtain ⟨s₂, o, hs, r⟩ := hr T locs vm0 X A hZ N B eT
  exact ⟨s₂, o, XT.lushr X.here K.exec rfl (hb K.kb hd) rfl hs, r⟩
theorem lneg {x : Int64} (K : Ok κ l Z n0 own nm bytes maxL ret rm Q) (hd : decode bytes pc = .ok (.lneg, 1))  (hr : Go κ h cells slots (pc + 1) Ls (.long (-x) :: st)) : Go κ h cells slots pc Ls (.long x :: st) := fun T locs vm0 X A hZ N B eT => by
  obtain ⟨s₂, o, hs, r⟩ := hr T locs vm0 X A hZ N B eT
  exact ⟨s₂, o, XT.lneg X.here K.exec rfl (hb K.kb hd) rfl hs, r⟩
theorem i2l {x : Int32} (K : Ok κ l Z n0 own nm bytes maxL ret rm Q) (hd : decode bytes pc = .ok (.i2l, 1))  (hr : Go κ h cells slots (pc + 1) Ls (.long x.toInt64 :: st)) : Go κ h cells slots pc Ls (.int x :: st) := fun T locs vm0 X A hZ N B eT => by
  obtain ⟨s₂, o, hs, r⟩ := hr T locs vm0 X A hZ N B eT
  exact ⟨s₂, o, XT.i2l X.here K.exec rfl (hb K.kb hd) rfl hs, r⟩
theorem l2i {x : Int64} (K : Ok κ l Z n0 own nm bytes maxL ret rm Q) (hd : decode bytes pc = .ok (.l2i, 1))  (hr : Go κ h cells slots (pc + 1) Ls (.int x.toInt32 :: st)) : Go κ h cells slots pc Ls (.long x :: st) := fun T locs vm0 X A hZ N B eT => by
  obtain ⟨s₂, o, hs, r⟩ := hr T locs vm0 X A hZ N B eT
  exact ⟨s₂, o, XT.l2i X.here K.exec rfl (hb K.kb hd) rfl hs, r⟩
theorem i2b {x : Int32} (K : Ok κ l Z n0 own nm bytes maxL ret rm Q) (hd : decode bytes pc = .ok (.i2b, 1))  (hr : Go κ h cells slots (pc + 1) Ls (.int x.toInt8.toInt32 :: st)) : Go κ h cells slots pc Ls (.int x :: st) := fun T locs vm0 X A hZ N B eT => by
  obtain ⟨s₂, o, hs, r⟩ := hr T locs vm0 X A hZ N B eT
  exact ⟨s₂, o, XT.i2b X.here K.exec rfl (hb K.kb hd) rfl hs, r⟩
theorem i2c {x : Int32} (K : Ok κ l Z n0 own nm bytes maxL ret rm Q) (hd : decode bytes pc = .ok (.i2c, 1))  (hr : Go κ h cells slots (pc + 1) Ls (.int x.toUInt32.toUInt16.toUInt32.toInt32 :: st)) : Go κ h cells slots pc Ls (.int x :: st) := fun T locs vm0 X A hZ N B eT => by
  obtain ⟨s₂, o, hs, r⟩ := hr T locs vm0 X A hZ N B eT
  exact ⟨s₂, o, XT.i2c X.here K.exec rfl (hb K.kb hd) rfl hs, r⟩
theorem i2s {x : Int32} (K : Ok κ l Z n0 own nm bytes maxL ret rm Q) (hd : decode bytes pc = .ok (.i2s, 1))  (hr : Go κ h cells slots (pc + 1) Ls (.int x.toInt16.toInt32 :: st)) : Go κ h cells slots pc Ls (.int x :: st) := fun T locs vm0 X A hZ N B eT => by
  obtain ⟨s₂, o, hs, r⟩ := hr T locs vm0 X A hZ N B eT
  exact ⟨s₂, o, XT.i2s X.here K.exec rfl (hb K.kb hd) rfl hs, r⟩
theorem lcmp {x y : Int64} (K : Ok κ l Z n0 own nm bytes maxL ret rm Q) (hd : decode bytes pc = .ok (.lcmp, 1))  (hr : Go κ h cells slots (pc + 1) Ls (.int (XT.cmpL x y) :: st)) : Go κ h cells slots pc Ls (.long y :: .long x :: st) := fun T locs vm0 X A hZ N B eT => by
  obtain ⟨s₂, o, hs, r⟩ := hr T locs vm0 X A hZ N B eT
  exact ⟨s₂, o, XT.lcmp X.here K.exec rfl (hb K.kb hd) rfl hs, r⟩
theorem dup {x : Value} (K : Ok κ l Z n0 own nm bytes maxL ret rm Q) (hd : decode bytes pc = .ok (.dup, 1)) (hc : x.category = 1) (hr : Go κ h cells slots (pc + 1) Ls (x :: x :: st)) : Go κ h cells slots pc Ls (x :: st) := fun T locs vm0 X A hZ N B eT => by
  obtain ⟨s₂, o, hs, r⟩ := hr T locs vm0 X A hZ N B eT
  exact ⟨s₂, o, XS.dup X.here K.exec rfl (hb K.kb hd) rfl hc hs, r⟩
theorem pop {x : Value} (K : Ok κ l Z n0 own nm bytes maxL ret rm Q) (hd : decode bytes pc = .ok (.pop, 1)) (hc : x.category = 1) (hr : Go κ h cells slots (pc + 1) Ls (st)) : Go κ h cells slots pc Ls (x :: st) := fun T locs vm0 X A hZ N B eT => by
  obtain ⟨s₂, o, hs, r⟩ := hr T locs vm0 X A hZ N B eT
  exact ⟨s₂, o, XT.pop X.here K.exec rfl (hb K.kb hd) rfl hc hs, r⟩
theorem dupX1 {x y : Value} (K : Ok κ l Z n0 own nm bytes maxL ret rm Q) (hd : decode bytes pc = .ok (.dup_x1, 1)) (hc : x.category = 1) (hc' : y.category = 1) (hr : Go κ h cells slots (pc + 1) Ls (x :: y :: x :: st)) : Go κ h cells slots pc Ls (x :: y :: st) := fun T locs vm0 X A hZ N B eT => by
  obtain ⟨s₂, o, hs, r⟩ := hr T locs vm0 X A hZ N B eT
  exact ⟨s₂, o, XT.dupX1 X.here K.exec rfl (hb K.kb hd) rfl hc hc' hs, r⟩
theorem dup2 {x y : Value} (K : Ok κ l Z n0 own nm bytes maxL ret rm Q) (hd : decode bytes pc = .ok (.dup2, 1)) (hc : x.category = 1) (hc' : y.category = 1) (hr : Go κ h cells slots (pc + 1) Ls (x :: y :: x :: y :: st)) : Go κ h cells slots pc Ls (x :: y :: st) := fun T locs vm0 X A hZ N B eT => by
  obtain ⟨s₂, o, hs, r⟩ := hr T locs vm0 X A hZ N B eT
  exact ⟨s₂, o, XT.dup2 X.here K.exec rfl (hb K.kb hd) rfl hc hc' hs, r⟩
theorem dup2L {x : Int64} (K : Ok κ l Z n0 own nm bytes maxL ret rm Q) (hd : decode bytes pc = .ok (.dup2, 1))  (hr : Go κ h cells slots (pc + 1) Ls (.long x :: .long x :: st)) : Go κ h cells slots pc Ls (.long x :: st) := fun T locs vm0 X A hZ N B eT => by
  obtain ⟨s₂, o, hs, r⟩ := hr T locs vm0 X A hZ N B eT
  exact ⟨s₂, o, XT.dup2L X.here K.exec rfl (hb K.kb hd) rfl hs, r⟩
theorem iinc {k : Nat} {cst : Int} {x : Int32} {l' : Array Slot} (K : Ok κ l Z n0 own nm bytes maxL ret rm Q) (hd : decode bytes pc = .ok (.iinc k cst, 3)) (hl : Ls[k]? = some (.val (.int x))) (hl' : storeLocals Ls k (.int (x + Int32.ofInt cst)) = some l') (hr : Go κ h cells slots (pc + 3) l' (st)) : Go κ h cells slots pc Ls (st) := fun T locs vm0 X A hZ N B eT => by
  obtain ⟨s₂, o, hs, r⟩ := hr T locs vm0 X A hZ N B eT
  exact ⟨s₂, o, XS.iinc X.here K.exec rfl (hb K.kb hd) hl hl' hs, r⟩
theorem irem {x y : Int32} (K : Ok κ l Z n0 own nm bytes maxL ret rm Q) (hd : decode bytes pc = .ok (.irem, 1)) (hy : y ≠ 0) (hr : Go κ h cells slots (pc + 1) Ls (.int (x % y) :: st)) : Go κ h cells slots pc Ls (.int y :: .int x :: st) := fun T locs vm0 X A hZ N B eT => by
  obtain ⟨s₂, o, hs, r⟩ := hr T locs vm0 X A hZ N B eT
  exact ⟨s₂, o, iremM X K.exec rfl (hb K.kb hd) rfl hy hs, r⟩
theorem lrem {x y : Int64} (K : Ok κ l Z n0 own nm bytes maxL ret rm Q) (hd : decode bytes pc = .ok (.lrem, 1)) (hy : y ≠ 0) (hr : Go κ h cells slots (pc + 1) Ls (.long (x % y) :: st)) : Go κ h cells slots pc Ls (.long y :: .long x :: st) := fun T locs vm0 X A hZ N B eT => by
  obtain ⟨s₂, o, hs, r⟩ := hr T locs vm0 X A hZ N B eT
  exact ⟨s₂, o, XT.lrem X.here K.exec rfl (hb K.kb hd) rfl hy (by rw [lrem_mod]; exact hs), r⟩
theorem goto {o' : Int} {pc' : Nat} (K : Ok κ l Z n0 own nm bytes maxL ret rm Q) (hd : decode bytes pc = .ok (.goto o', 3)) (ho : 0 ≤ (pc : Int) + o') (hp : ((pc : Int) + o').toNat = pc') (hr : Go κ h cells slots pc' Ls st) : Go κ h cells slots pc Ls st := fun T locs vm0 X A hZ N B eT => by
  obtain ⟨s₂, o, hs, r⟩ := hr T locs vm0 X A hZ N B eT
  exact ⟨s₂, o, XS.goto X.here K.exec rfl rfl (hb K.kb hd) ho hp hs, r⟩
/-! ## branches: both roads, each with what is known on it -/
theorem ifB {cd : ClassFile.Cond} {x : Int32} {o' : Int} {pc' : Nat} (K : Ok κ l Z n0 own nm bytes maxL ret rm Q) (hd : decode bytes pc = .ok (.ifCond cd o', 3)) (ho : 0 ≤ (pc : Int) + o') (hp : ((pc : Int) + o').toNat = pc')
    (hy : if_icmp.holds cd x 0 = true → Go κ h cells slots pc' Ls st) (hn : if_icmp.holds cd x 0 = false → Go κ h cells slots (pc + 3) Ls st) : Go κ h cells slots pc Ls (.int x :: st) := fun T locs vm0 X A hZ N B eT => by
  cases hc : if_icmp.holds cd x 0 with
  | true => obtain ⟨s₂, o, hs, r⟩ := hy hc T locs vm0 X A hZ N B eT; exact ⟨s₂, o, XS.ifYes X.here K.exec rfl rfl (hb K.kb hd) rfl ((if0 _ _).trans hc) ho hp hs, r⟩
  | false => obtain ⟨s₂, o, hs, r⟩ := hn hc T locs vm0 X A hZ N B eT; exact ⟨s₂, o, XS.ifNo X.here K.exec rfl (hb K.kb hd) rfl ((if0 _ _).trans hc) hs, r⟩
theorem icB {cd : ClassFile.Cond} {x y : Int32} {o' : Int} {pc' : Nat} (K : Ok κ l Z n0 own nm bytes maxL ret rm Q) (hd : decode bytes pc = .ok (.if_icmp cd o', 3)) (ho : 0 ≤ (pc : Int) + o') (hp : ((pc : Int) + o').toNat = pc')
    (hy : if_icmp.holds cd x y = true → Go κ h cells slots pc' Ls st) (hn : if_icmp.holds cd x y = false → Go κ h cells slots (pc + 3) Ls st) : Go κ h cells slots pc Ls (.int y :: .int x :: st) := fun T locs vm0 X A hZ N B eT => by
  cases hc : if_icmp.holds cd x y with
  | true => obtain ⟨s₂, o, hs, r⟩ := hy hc T locs vm0 X A hZ N B eT; exact ⟨s₂, o, XS.icmpYes X.here K.exec rfl rfl (hb K.kb hd) rfl hc ho hp hs, r⟩
  | false => obtain ⟨s₂, o, hs, r⟩ := hn hc T locs vm0 X A hZ N B eT; exact ⟨s₂, o, XS.icmpNo X.here K.exec rfl (hb K.kb hd) rfl hc hs, r⟩
theorem h_eq (x y : Int32) : (if_icmp.holds .eq x y = true ↔ x = y) ∧ (if_icmp.holds .eq x y = false ↔ ¬ x = y) := by simp [if_icmp.holds]
theorem h_ne (x y : Int32) : (if_icmp.holds .ne x y = true ↔ ¬ x = y) ∧ (if_icmp.holds .ne x y = false ↔ x = y) := by simp [if_icmp.holds]
theorem h_lt (x y : Int32) : (if_icmp.holds .lt x y = true ↔ x.toInt < y.toInt) ∧ (if_icmp.holds .lt x y = false ↔ y.toInt ≤ x.toInt) := by simp [if_icmp.holds, Int32.lt_iff_toInt_lt]
theorem h_ge (x y : Int32) : (if_icmp.holds .ge x y = true ↔ y.toInt ≤ x.toInt) ∧ (if_icmp.holds .ge x y = false ↔ x.toInt < y.toInt) := by simp [if_icmp.holds, Int32.le_iff_toInt_le]
theorem h_gt (x y : Int32) : (if_icmp.holds .gt x y = true ↔ y.toInt < x.toInt) ∧ (if_icmp.holds .gt x y = false ↔ x.toInt ≤ y.toInt) := by simp [if_icmp.holds, Int32.lt_iff_toInt_lt]
theorem h_le (x y : Int32) : (if_icmp.holds .le x y = true ↔ x.toInt ≤ y.toInt) ∧ (if_icmp.holds .le x y = false ↔ y.toInt < x.toInt) := by simp [if_icmp.holds, Int32.le_iff_toInt_le]
theorem ifeq {x : Int32} {o' : Int} {pc' : Nat} (K : Ok κ l Z n0 own nm bytes maxL ret rm Q) (hd : decode bytes pc = .ok (.ifCond .eq o', 3)) (ho : 0 ≤ (pc : Int) + o') (hp : ((pc : Int) + o').toNat = pc')
    (hy : x = (0 : Int32) → Go κ h cells slots pc' Ls st) (hn : ¬ x = (0 : Int32) → Go κ h cells slots (pc + 3) Ls st) : Go κ h cells slots pc Ls (.int x :: st) :=
  ifB K hd ho hp (fun q => hy ((h_eq _ _).1.mp q)) (fun q => hn ((h_eq _ _).2.mp q))
theorem icmpeq {x y : Int32} {o' : Int} {pc' : Nat} (K : Ok κ l Z n0 own nm bytes maxL ret rm Q) (hd : decode bytes pc = .ok (.if_icmp .eq o', 3)) (ho : 0 ≤ (pc : Int) + o') (hp : ((pc : Int) + o').toNat = pc')
    (hy : x = y → Go κ h cells slots pc' Ls st) (hn : ¬ x = y → Go κ h cells slots (pc + 3) Ls st) : Go κ h cells slots pc Ls (.int y :: .int x :: st) :=
  icB K hd ho hp (fun q => hy ((h_eq _ _).1.mp q)) (fun q => hn ((h_eq _ _).2.mp q))
theorem ifne {x : Int32} {o' : Int} {pc' : Nat} (K : Ok κ l Z n0 own nm bytes maxL ret rm Q) (hd : decode bytes pc = .ok (.ifCond .ne o', 3)) (ho : 0 ≤ (pc : Int) + o') (hp : ((pc : Int) + o').toNat = pc')
    (hy : ¬ x = (0 : Int32) → Go κ h cells slots pc' Ls st) (hn : x = (0 : Int32) → Go κ h cells slots (pc + 3) Ls st) : Go κ h cells slots pc Ls (.int x :: st) :=
  ifB K hd ho hp (fun q => hy ((h_ne _ _).1.mp q)) (fun q => hn ((h_ne _ _).2.mp q))
theorem icmpne {x y : Int32} {o' : Int} {pc' : Nat} (K : Ok κ l Z n0 own nm bytes maxL ret rm Q) (hd : decode bytes pc = .ok (.if_icmp .ne o', 3)) (ho : 0 ≤ (pc : Int) + o') (hp : ((pc : Int) + o').toNat = pc')
    (hy : ¬ x = y → Go κ h cells slots pc' Ls st) (hn : x = y → Go κ h cells slots (pc + 3) Ls st) : Go κ h cells slots pc Ls (.int y :: .int x :: st) :=
  icB K hd ho hp (fun q => hy ((h_ne _ _).1.mp q)) (fun q => hn ((h_ne _ _).2.mp q))
theorem iflt {x : Int32} {o' : Int} {pc' : Nat} (K : Ok κ l Z n0 own nm bytes maxL ret rm Q) (hd : decode bytes pc = .ok (.ifCond .lt o', 3)) (ho : 0 ≤ (pc : Int) + o') (hp : ((pc : Int) + o').toNat = pc')
    (hy : x.toInt < (0 : Int) → Go κ h cells slots pc' Ls st) (hn : (0 : Int) ≤ x.toInt → Go κ h cells slots (pc + 3) Ls st) : Go κ h cells slots pc Ls (.int x :: st) :=
  ifB K hd ho hp (fun q => hy ((h_lt _ _).1.mp q)) (fun q => hn ((h_lt _ _).2.mp q))
theorem icmplt {x y : Int32} {o' : Int} {pc' : Nat} (K : Ok κ l Z n0 own nm bytes maxL ret rm Q) (hd : decode bytes pc = .ok (.if_icmp .lt o', 3)) (ho : 0 ≤ (pc : Int) + o') (hp : ((pc : Int) + o').toNat = pc')
    (hy : x.toInt < y.toInt → Go κ h cells slots pc' Ls st) (hn : y.toInt ≤ x.toInt → Go κ h cells slots (pc + 3) Ls st) : Go κ h cells slots pc Ls (.int y :: .int x :: st) :=
  icB K hd ho hp (fun q => hy ((h_lt _ _).1.mp q)) (fun q => hn ((h_lt _ _).2.mp q))
theorem ifge {x : Int32} {o' : Int} {pc' : Nat} (K : Ok κ l Z n0 own nm bytes maxL ret rm Q) (hd : decode bytes pc = .ok (.ifCond .ge o', 3)) (ho : 0 ≤ (pc : Int) + o') (hp : ((pc : Int) + o').toNat = pc')
    (hy : (0 : Int) ≤ x.toInt → Go κ h cells slots pc' Ls st) (hn : x.toInt < (0 : Int) → Go κ h cells slots (pc + 3) Ls st) : Go κ h cells slots pc Ls (.int x :: st) :=
  ifB K hd ho hp (fun q => hy ((h_ge _ _).1.mp q)) (fun q => hn ((h_ge _ _).2.mp q))
theorem icmpge {x y : Int32} {o' : Int} {pc' : Nat} (K : Ok κ l Z n0 own nm bytes maxL ret rm Q) (hd : decode bytes pc = .ok (.if_icmp .ge o', 3)) (ho : 0 ≤ (pc : Int) + o') (hp : ((pc : Int) + o').toNat = pc')
    (hy : y.toInt ≤ x.toInt → Go κ h cells slots pc' Ls st) (hn : x.toInt < y.toInt → Go κ h cells slots (pc + 3) Ls st) : Go κ h cells slots pc Ls (.int y :: .int x :: st) :=
  icB K hd ho hp (fun q => hy ((h_ge _ _).1.mp q)) (fun q => hn ((h_ge _ _).2.mp q))
theorem ifgt {x : Int32} {o' : Int} {pc' : Nat} (K : Ok κ l Z n0 own nm bytes maxL ret rm Q) (hd : decode bytes pc = .ok (.ifCond .gt o', 3)) (ho : 0 ≤ (pc : Int) + o') (hp : ((pc : Int) + o').toNat = pc')
    (hy : (0 : Int) < x.toInt → Go κ h cells slots pc' Ls st) (hn : x.toInt ≤ (0 : Int) → Go κ h cells slots (pc + 3) Ls st) : Go κ h cells slots pc Ls (.int x :: st) :=
  ifB K hd ho hp (fun q => hy ((h_gt _ _).1.mp q)) (fun q => hn ((h_gt _ _).2.mp q))
theorem icmpgt {x y : Int32} {o' : Int} {pc' : Nat} (K : Ok κ l Z n0 own nm bytes maxL ret rm Q) (hd : decode bytes pc = .ok (.if_icmp .gt o', 3)) (ho : 0 ≤ (pc : Int) + o') (hp : ((pc : Int) + o').toNat = pc')
    (hy : y.toInt < x.toInt → Go κ h cells slots pc' Ls st) (hn : x.toInt ≤ y.toInt → Go κ h cells slots (pc + 3) Ls st) : Go κ h cells slots pc Ls (.int y :: .int x :: st) :=
  icB K hd ho hp (fun q => hy ((h_gt _ _).1.mp q)) (fun q => hn ((h_gt _ _).2.mp q))
theorem ifle {x : Int32} {o' : Int} {pc' : Nat} (K : Ok κ l Z n0 own nm bytes maxL ret rm Q) (hd : decode bytes pc = .ok (.ifCond .le o', 3)) (ho : 0 ≤ (pc : Int) + o') (hp : ((pc : Int) + o').toNat = pc')
    (hy : x.toInt ≤ (0 : Int) → Go κ h cells slots pc' Ls st) (hn : (0 : Int) < x.toInt → Go κ h cells slots (pc + 3) Ls st) : Go κ h cells slots pc Ls (.int x :: st) :=
  ifB K hd ho hp (fun q => hy ((h_le _ _).1.mp q)) (fun q => hn ((h_le _ _).2.mp q))
theorem icmple {x y : Int32} {o' : Int} {pc' : Nat} (K : Ok κ l Z n0 own nm bytes maxL ret rm Q) (hd : decode bytes pc = .ok (.if_icmp .le o', 3)) (ho : 0 ≤ (pc : Int) + o') (hp : ((pc : Int) + o').toNat = pc')
    (hy : x.toInt ≤ y.toInt → Go κ h cells slots pc' Ls st) (hn : y.toInt < x.toInt → Go κ h cells slots (pc + 3) Ls st) : Go κ h cells slots pc Ls (.int y :: .int x :: st) :=
  icB K hd ho hp (fun q => hy ((h_le _ _).1.mp q)) (fun q => hn ((h_le _ _).2.mp q))
theorem ifnull {x : Value} {o' : Int} {pc' : Nat} (K : Ok κ l Z n0 own nm bytes maxL ret rm Q) (hd : decode bytes pc = .ok (.ifnull o', 3)) (ho : 0 ≤ (pc : Int) + o') (hp : ((pc : Int) + o').toNat = pc') (hx : x.isRef = true)
    (hy : x = .null → Go κ h cells slots pc' Ls st) (hn : ∀ a, x = .ref a → Go κ h cells slots (pc + 3) Ls st) : Go κ h cells slots pc Ls (x :: st) := fun T locs vm0 X A hZ N B eT => by
  rcases ref_cases hx with rfl | ⟨a, rfl⟩
  · obtain ⟨s₂, o, hs, r⟩ := hy rfl T locs vm0 X A hZ N B eT; exact ⟨s₂, o, XS.ifnullYes X.here K.exec rfl rfl (hb K.kb hd) rfl ho hp hs, r⟩
  · obtain ⟨s₂, o, hs, r⟩ := hn a rfl T locs vm0 X A hZ N B eT; exact ⟨s₂, o, XS.ifnullNo X.here K.exec rfl (hb K.kb hd) rfl hs, r⟩
theorem ifnonnull {x : Value} {o' : Int} {pc' : Nat} (K : Ok κ l Z n0 own nm bytes maxL ret rm Q) (hd : decode bytes pc = .ok (.ifnonnull o', 3)) (ho : 0 ≤ (pc : Int) + o') (hp : ((pc : Int) + o').toNat = pc') (hx : x.isRef = true)
    (hy : ∀ a, x = .ref a → Go κ h cells slots pc' Ls st) (hn : x = .null → Go κ h cells slots (pc + 3) Ls st) : Go κ h cells slots pc Ls (x :: st) := fun T locs vm0 X A hZ N B eT => by
  rcases ref_cases hx with rfl | ⟨a, rfl⟩
  · obtain ⟨s₂, o, hs, r⟩ := hn rfl T locs vm0 X A hZ N B eT; exact ⟨s₂, o, XT.ifnonnullNo X.here K.exec rfl (hb K.kb hd) rfl hs, r⟩
  · obtain ⟨s₂, o, hs, r⟩ := hy a rfl T locs vm0 X A hZ N B eT; exact ⟨s₂, o, XT.ifnonnullYes X.here K.exec rfl rfl (hb K.kb hd) rfl ho hp hs, r⟩
theorem acB {cd : ACond} {x y : Value} {o' : Int} {pc' : Nat} (K : Ok κ l Z n0 own nm bytes maxL ret rm Q) (hd : decode bytes pc = .ok (.if_acmp cd o', 3)) (ho : 0 ≤ (pc : Int) + o') (hp : ((pc : Int) + o').toNat = pc') (hx : x.isRef = true) (hy : y.isRef = true)
    (ht : acV cd (decide (x = y)) = true → Go κ h cells slots pc' Ls st) (hn : acV cd (decide (x = y)) = false → Go κ h cells slots (pc + 3) Ls st) : Go κ h cells slots pc Ls (y :: x :: st) := fun T locs vm0 X A hZ N B eT => by
  cases hc : acV cd (decide (x = y)) with
  | true => obtain ⟨s₂, o, hs, r⟩ := ht hc T locs vm0 X A hZ N B eT; exact ⟨s₂, o, acmp X K.exec rfl hx hy rfl (hb K.kb hd) rfl rfl ho (by rw [hc, if_pos rfl, hp]) hs, r⟩
  | false => obtain ⟨s₂, o, hs, r⟩ := hn hc T locs vm0 X A hZ N B eT; exact ⟨s₂, o, acmp X K.exec rfl hx hy rfl (hb K.kb hd) rfl rfl ho (by rw [hc]; simp) hs, r⟩
theorem acmpeq {x y : Value} {o' : Int} {pc' : Nat} (K : Ok κ l Z n0 own nm bytes maxL ret rm Q) (hd : decode bytes pc = .ok (.if_acmp .eq o', 3)) (ho : 0 ≤ (pc : Int) + o') (hp : ((pc : Int) + o').toNat = pc') (hx : x.isRef = true) (hy : y.isRef = true)
    (ht : x = y → Go κ h cells slots pc' Ls st) (hn : ¬ x = y → Go κ h cells slots (pc + 3) Ls st) : Go κ h cells slots pc Ls (y :: x :: st) :=
  acB K hd ho hp hx hy (fun q => ht (by simpa [acV] using q)) (fun q => hn (by simpa [acV] using q))
theorem acmpne {x y : Value} {o' : Int} {pc' : Nat} (K : Ok κ l Z n0 own nm bytes maxL ret rm Q) (hd : decode bytes pc = .ok (.if_acmp .ne o', 3)) (ho : 0 ≤ (pc : Int) + o') (hp : ((pc : Int) + o').toNat = pc') (hx : x.isRef = true) (hy : y.isRef = true)
    (ht : ¬ x = y → Go κ h cells slots pc' Ls st) (hn : x = y → Go κ h cells slots (pc + 3) Ls st) : Go κ h cells slots pc Ls (y :: x :: st) :=
  acB K hd ho hp hx hy (fun q => ht (by simpa [acV] using q)) (fun q => hn (by simpa [acV] using q))
/-! ## constants of the pool -/
variable {a0 : Array Value}
theorem ldcI {index : Nat} {v : Int32} (K : Ok κ l Z n0 own nm bytes maxL ret rm Q) (hd : decode bytes pc = .ok (.ldc index, 2)) (w : (Cond.constant own index v).before a0 Z = true) (hr : Go κ h cells slots (pc + 2) Ls (.int v :: st)) : Go κ h cells slots pc Ls st := fun T locs vm0 X A hZ N B eT => by
  obtain ⟨s₂, o, hs, r⟩ := hr T locs vm0 X A hZ N B eT
  exact ⟨s₂, o, Jvm.Stand.ldcI X K.exec (K.ko A) (mvT (K.warm hZ) w) rfl (hb K.kb hd) hs, r⟩
theorem ldc2J {index : Nat} {v : Int64} (K : Ok κ l Z n0 own nm bytes maxL ret rm Q) (hd : decode bytes pc = .ok (.ldc2_w index, 3)) (w : (Cond.constantLong own index v).before a0 Z = true) (hr : Go κ h cells slots (pc + 3) Ls (.long v :: st)) : Go κ h cells slots pc Ls st := fun T locs vm0 X A hZ N B eT => by
  obtain ⟨s₂, o, hs, r⟩ := hr T locs vm0 X A hZ N B eT
  exact ⟨s₂, o, Jvm.Stand.ldc2J X K.exec (K.ko A) (mvT (K.warm hZ) w) rfl (hb K.kb hd) hs, r⟩
/-! ## the heap -/
theorem getfield {R0 O n d host : String} {index : Nat} {a : Addr} {v : Value} (K : Ok κ l Z n0 own nm bytes maxL ret rm Q) (hd : decode bytes pc = .ok (.getfield index, 3))
    (w : (Cond.fieldLink own index R0 n d).before a0 Z = true ∨ (Cond.fieldLinkNest own index R0 n d host).before a0 Z = true) (via : Via Z R0 O n d) (F : Fld Z h a O n d v) (hr : Go κ h cells slots (pc + 3) Ls (v :: st)) : Go κ h cells slots pc Ls (.ref a :: st) := fun T locs vm0 X A hZ N B eT => by
  obtain ⟨T', X', e', st1⟩ := getF X K.exec (K.warm hZ) (K.ko A) w via eT F (g := mkF κ.m pc Ls (.ref a :: st)) rfl rfl (hb K.kb hd)
  obtain ⟨s₂, o, hs, r⟩ := hr T' locs vm0 X' A hZ N B e'
  exact ⟨s₂, o, st1 _ hs, r⟩
theorem getstatic {R0 O n d host : String} {index : Nat} {v : Value} (K : Ok κ l Z n0 own nm bytes maxL ret rm Q) (hd : decode bytes pc = .ok (.getstatic index, 3))
    (w : (Cond.fieldLink own index R0 n d).before a0 Z = true ∨ (Cond.fieldLinkNest own index R0 n d host).before a0 Z = true) (via : Via Z R0 O n d) (F : Sta Z h O n d v) (hr : Go κ h cells slots (pc + 3) Ls (v :: st)) : Go κ h cells slots pc Ls st := fun T locs vm0 X A hZ N B eT => by
  obtain ⟨T', X', e', st1⟩ := getS2 X K.exec (K.warm hZ) (K.ko A) w via eT F (g := mkF κ.m pc Ls st) rfl (hb K.kb hd)
  obtain ⟨s₂, o, hs, r⟩ := hr T' locs vm0 X' A hZ N B e'
  exact ⟨s₂, o, st1 _ hs, r⟩
theorem putfield {R0 O n d host C : String} {index kk : Nat} {ty : FieldType} {a : Addr} {v old : Value} (K : Ok κ l Z n0 own nm bytes maxL ret rm Q) (hd : decode bytes pc = .ok (.putfield index, 3))
    (w : (Cond.fieldLink own index R0 n d).before a0 Z = true ∨ (Cond.fieldLinkNest own index R0 n d host).before a0 Z = true) (via : Via Z R0 O n d) (F : Fld Z h a O n d old) (E : Exa Z h a C) (L : (Cond.lays C O n d).before a0 Z = true ∨ ((Cond.laysFinal C O n d).before a0 Z = true ∧ own = O ∧ nm = "<init>")) (wi : (Cond.instantiable C kk).before a0 Z = true)
    (hty : parseFieldDescriptor d = some ty) (hn : narrow ty v = v) (hf : fits ty v = true) (ge : n0 ≤ a) (hr : ∀ h', Wr h h' a (Jvm.RoadKit.slotOf Z O n d) v → Go κ h' cells slots (pc + 3) Ls st) : Go κ h cells slots pc Ls (v :: .ref a :: st) := fun T locs vm0 X A hZ N B eT => by
  obtain ⟨T', h', X', e', W, st1⟩ := putF X K.exec (K.warm hZ) (K.ko A) w via eT F E (L.imp id fun q => ⟨q.1, q.2.1, K.name.trans q.2.2⟩) wi hty hn hf (g := mkF κ.m pc Ls (v :: .ref a :: st)) rfl rfl (hb K.kb hd)
  obtain ⟨s₂, o, hs, r⟩ := hr h' W T' _ vm0 X' (A.mono (Nat.le_of_eq W.size.symm)) hZ (Fr.snoc X' N (by rw [K.en]; exact ge)) (B.wr W (by rw [K.en]; exact ge)) e'
  exact ⟨s₂, o, st1 _ hs, r⟩
theorem newObj {C : String} {index n : Nat} (K : Ok κ l Z n0 own nm bytes maxL ret rm Q) (hd : decode bytes pc = .ok (.new index, 3)) (w : (Cond.classLink own index C).before a0 Z = true) (wi : (Cond.instantiable C n).before a0 Z = true) (wz : (Cond.initialized C).before a0 Z = true)
    (hc : cells + 1 ≤ rm.cells) (hl : slots + n ≤ rm.slots)
    (hr : ∀ h' a, a = h.size → n0 ≤ a → Ext h h' → Exa Z h' a C → (∀ {O nm d : String} {ty : FieldType}, Laid Z a0 C O nm d → parseFieldDescriptor d = some ty → Fld Z h' a O nm d (defaultValue ty)) → Unt h' a → Go κ h' (cells + 1) (slots + n) (pc + 3) Ls (.ref a :: st)) : Go κ h cells slots pc Ls st := fun T locs vm0 X A hZ N B eT => by
  obtain ⟨T', h', X', e', E, EX, D, U, st1⟩ := newO X K.exec (K.warm hZ) (K.ko A) w wi wz eT (g := mkF κ.m pc Ls st) rfl (hb K.kb hd) (by rw [K.eR]; exact hc) (by rw [K.eR]; exact hl)
  obtain ⟨s₂, o, hs, r⟩ := hr h' h.size rfl (low_of (K.old B)) E EX D U T' _ vm0 X' (A.mono E.1) hZ N (B.ext E) e'
  exact ⟨s₂, o, st1 _ hs, r⟩
theorem newArr {aty : ArrayType} {n : Int32} {cap : Nat} {ad : String} (K : Ok κ l Z n0 own nm bytes maxL ret rm Q) (hd : decode bytes pc = .ok (.newarray aty, 2)) (w : (Cond.arrayClass (newarray.typeOf aty)).before a0 Z = true) (hn : ¬ n < 0) (hcap : n.toNatClampNeg ≤ cap) (hb8 : cap * 8 ≤ 536870912) (had : "[" ++ (newarray.typeOf aty).toString = ad)
    (hc : cells + 1 ≤ rm.cells) (hl : slots + cap ≤ rm.slots)
    (hr : ∀ h' a cA, a = h.size → n0 ≤ a → Ext h h' → Arr Z h' a (newA cA (newarray.typeOf aty) n) (newarray.typeOf aty) → Exa Z h' a ad → Go κ h' (cells + 1) (slots + cap) (pc + 2) Ls (.ref a :: st)) : Go κ h cells slots pc Ls (.int n :: st) := fun T locs vm0 X A hZ N B eT => by
  obtain ⟨T', h', cA, X', e', E, AR, EX, st1⟩ := newPE X K.exec (K.warm hZ) w eT (g := mkF κ.m pc Ls (.int n :: st)) rfl (hb K.kb hd) rfl hn hcap hb8 (by rw [K.eR]; exact hc) (by rw [K.eR]; exact hl) had
  obtain ⟨s₂, o, hs, r⟩ := hr h' h.size cA rfl (low_of (K.old B)) E AR EX T' _ vm0 X' (A.mono E.1) hZ N (B.ext E) e'
  exact ⟨s₂, o, st1 _ hs, r⟩
theorem anewArr {C : String} {index : Nat} {n : Int32} {cap : Nat} (K : Ok κ l Z n0 own nm bytes maxL ret rm Q) (hd : decode bytes pc = .ok (.anewarray index, 3)) (w1 : (Cond.classLink own index C).before a0 Z = true) (w2 : (Cond.arrayOver (.object C)).before a0 Z = true) (hn : ¬ n < 0) (hcap : n.toNatClampNeg ≤ cap) (hb8 : cap * 8 ≤ 536870912)
    (hc : cells + 1 ≤ rm.cells) (hl : slots + cap ≤ rm.slots)
    (hr : ∀ h' a cA, a = h.size → n0 ≤ a → Ext h h' → Arr Z h' a (newA cA (.object C) n) (.object C) → Ovr Z cA C → Go κ h' (cells + 1) (slots + cap) (pc + 3) Ls (.ref a :: st)) : Go κ h cells slots pc Ls (.int n :: st) := fun T locs vm0 X A hZ N B eT => by
  obtain ⟨T', h', cA, X', e', E, AR, OV, st1⟩ := newR X K.exec (K.warm hZ) (K.ko A) w1 w2 eT (g := mkF κ.m pc Ls (.int n :: st)) rfl (hb K.kb hd) rfl hn hcap hb8 (by rw [K.eR]; exact hc) (by rw [K.eR]; exact hl)
  obtain ⟨s₂, o, hs, r⟩ := hr h' h.size cA rfl (low_of (K.old B)) E AR OV T' _ vm0 X' (A.mono E.1) hZ N (B.ext E) e'
  exact ⟨s₂, o, st1 _ hs, r⟩
theorem arrLen {ty : FieldType} {a : Addr} {cl : Cell} {z : Int32} (K : Ok κ l Z n0 own nm bytes maxL ret rm Q) (hd : decode bytes pc = .ok (.arraylength, 1)) (A1 : Arr Z h a cl ty) (hz : cl.slots.size.toInt32 = z) (hr : Go κ h cells slots (pc + 1) Ls (.int z :: st)) : Go κ h cells slots pc Ls (.ref a :: st) := fun T locs vm0 X A hZ N B eT => by
  obtain ⟨s₂, o, hs, r⟩ := hr T locs vm0 X A hZ N B eT
  exact ⟨s₂, o, X.arraylength K.exec (by rw [eT]; exact A1.1) (State.isArrayOf_alike (K.warm hZ).alike A1.2.1) (g := mkF κ.m pc Ls (.ref a :: st)) rfl rfl (hb K.kb hd) _ (by rw [hz]; exact hs), r⟩
theorem iaload {a : Addr} {cl : Cell} {j : Int32} {v : Value} (K : Ok κ l Z n0 own nm bytes maxL ret rm Q) (hd : decode bytes pc = .ok (.iaload, 1)) (A1 : Arr Z h a cl .int) (hin : ¬ (j < 0 ∨ cl.slots.size ≤ j.toNatClampNeg)) (hv : cl.slots[j.toNatClampNeg]? = some v)
    (hr : Go κ h cells slots (pc + 1) Ls (v :: st)) : Go κ h cells slots pc Ls (.int j :: .ref a :: st) := fun T locs vm0 X A hZ N B eT => by
  obtain ⟨s₂, o, hs, r⟩ := hr T locs vm0 X A hZ N B eT
  exact ⟨s₂, o, X.iaload K.exec (by rw [eT]; exact A1.1) (State.isArrayOf_alike (K.warm hZ).alike A1.2.1) A1.2.2 hin hv (g := mkF κ.m pc Ls (.int j :: .ref a :: st)) rfl rfl (hb K.kb hd) _ hs, r⟩
theorem laload {a : Addr} {cl : Cell} {j : Int32} {v : Value} (K : Ok κ l Z n0 own nm bytes maxL ret rm Q) (hd : decode bytes pc = .ok (.laload, 1)) (A1 : Arr Z h a cl .long) (hin : ¬ (j < 0 ∨ cl.slots.size ≤ j.toNatClampNeg)) (hv : cl.slots[j.toNatClampNeg]? = some v)
    (hr : Go κ h cells slots (pc + 1) Ls (v :: st)) : Go κ h cells slots pc Ls (.int j :: .ref a :: st) := fun T locs vm0 X A hZ N B eT => by
  obtain ⟨s₂, o, hs, r⟩ := hr T locs vm0 X A hZ N B eT
  exact ⟨s₂, o, X.laload K.exec (by rw [eT]; exact A1.1) (State.isArrayOf_alike (K.warm hZ).alike A1.2.1) A1.2.2 hin hv (g := mkF κ.m pc Ls (.int j :: .ref a :: st)) rfl rfl (hb K.kb hd) _ hs, r⟩
theorem caload {a : Addr} {cl : Cell} {j : Int32} {v : Value} (K : Ok κ l Z n0 own nm bytes maxL ret rm Q) (hd : decode bytes pc = .ok (.caload, 1)) (A1 : Arr Z h a cl .char) (hin : ¬ (j < 0 ∨ cl.slots.size ≤ j.toNatClampNeg)) (hv : cl.slots[j.toNatClampNeg]? = some v)
    (hr : Go κ h cells slots (pc + 1) Ls (v :: st)) : Go κ h cells slots pc Ls (.int j :: .ref a :: st) := fun T locs vm0 X A hZ N B eT => by
  obtain ⟨s₂, o, hs, r⟩ := hr T locs vm0 X A hZ N B eT
  exact ⟨s₂, o, X.caload K.exec (by rw [eT]; exact A1.1) (State.isArrayOf_alike (K.warm hZ).alike A1.2.1) A1.2.2 hin hv (g := mkF κ.m pc Ls (.int j :: .ref a :: st)) rfl rfl (hb K.kb hd) _ hs, r⟩
theorem baload {a : Addr} {cl : Cell} {j : Int32} {v : Value} (K : Ok κ l Z n0 own nm bytes maxL ret rm Q) (hd : decode bytes pc = .ok (.baload, 1)) (A1 : Arr Z h a cl .byte) (hin : ¬ (j < 0 ∨ cl.slots.size ≤ j.toNatClampNeg)) (hv : cl.slots[j.toNatClampNeg]? = some v)
    (hr : Go κ h cells slots (pc + 1) Ls (v :: st)) : Go κ h cells slots pc Ls (.int j :: .ref a :: st) := fun T locs vm0 X A hZ N B eT => by
  obtain ⟨s₂, o, hs, r⟩ := hr T locs vm0 X A hZ N B eT
  exact ⟨s₂, o, X.baloadBytes K.exec (by rw [eT]; exact A1.1) (State.isArrayOf_alike (K.warm hZ).alike A1.2.1) A1.2.2 hin hv (g := mkF κ.m pc Ls (.int j :: .ref a :: st)) rfl rfl (hb K.kb hd) _ hs, r⟩
theorem iastore {a : Addr} {cl : Cell} {j : Int32} {x : Int32} (K : Ok κ l Z n0 own nm bytes maxL ret rm Q) (hd : decode bytes pc = .ok (.iastore, 1)) (A1 : Arr Z h a cl .int) (hj : ¬ (j < 0 ∨ cl.slots.size ≤ j.toNatClampNeg)) (ge : n0 ≤ a)
    (hr : ∀ h', Wr h h' a j.toNatClampNeg (.int x) → Go κ h' cells slots (pc + 1) Ls st) : Go κ h cells slots pc Ls (.int x :: .int j :: .ref a :: st) := fun T locs vm0 X A hZ N B eT => by
  obtain ⟨T', h', X', e', W, st1⟩ := stI X K.exec (K.warm hZ) eT A1 hj (g := mkF κ.m pc Ls (.int x :: .int j :: .ref a :: st)) rfl rfl (hb K.kb hd)
  obtain ⟨s₂, o, hs, r⟩ := hr h' W T' _ vm0 X' (A.mono (Nat.le_of_eq W.size.symm)) hZ (Fr.snoc X' N (by rw [K.en]; exact ge)) (B.wr W (by rw [K.en]; exact ge)) e'
  exact ⟨s₂, o, st1 _ hs, r⟩
theorem lastore {a : Addr} {cl : Cell} {j : Int32} {x : Int64} (K : Ok κ l Z n0 own nm bytes maxL ret rm Q) (hd : decode bytes pc = .ok (.lastore, 1)) (A1 : Arr Z h a cl .long) (hj : ¬ (j < 0 ∨ cl.slots.size ≤ j.toNatClampNeg)) (ge : n0 ≤ a)
    (hr : ∀ h', Wr h h' a j.toNatClampNeg (.long x) → Go κ h' cells slots (pc + 1) Ls st) : Go κ h cells slots pc Ls (.long x :: .int j :: .ref a :: st) := fun T locs vm0 X A hZ N B eT => by
  obtain ⟨T', h', X', e', W, st1⟩ := stJ X K.exec (K.warm hZ) eT A1 hj (g := mkF κ.m pc Ls (.long x :: .int j :: .ref a :: st)) rfl rfl (hb K.kb hd)
  obtain ⟨s₂, o, hs, r⟩ := hr h' W T' _ vm0 X' (A.mono (Nat.le_of_eq W.size.symm)) hZ (Fr.snoc X' N (by rw [K.en]; exact ge)) (B.wr W (by rw [K.en]; exact ge)) e'
  exact ⟨s₂, o, st1 _ hs, r⟩
theorem castore {a : Addr} {cl : Cell} {j : Int32} {x : Int32} (K : Ok κ l Z n0 own nm bytes maxL ret rm Q) (hd : decode bytes pc = .ok (.castore, 1)) (A1 : Arr Z h a cl .char) (hj : ¬ (j < 0 ∨ cl.slots.size ≤ j.toNatClampNeg)) (ge : n0 ≤ a)
    (hr : ∀ h', Wr h h' a j.toNatClampNeg (.int (nar .char x)) → Go κ h' cells slots (pc + 1) Ls st) : Go κ h cells slots pc Ls (.int x :: .int j :: .ref a :: st) := fun T locs vm0 X A hZ N B eT => by
  obtain ⟨T', h', X', e', W, st1⟩ := stC X K.exec (K.warm hZ) eT A1 hj (g := mkF κ.m pc Ls (.int x :: .int j :: .ref a :: st)) rfl rfl (hb K.kb hd)
  obtain ⟨s₂, o, hs, r⟩ := hr h' W T' _ vm0 X' (A.mono (Nat.le_of_eq W.size.symm)) hZ (Fr.snoc X' N (by rw [K.en]; exact ge)) (B.wr W (by rw [K.en]; exact ge)) e'
  exact ⟨s₂, o, st1 _ hs, r⟩
theorem bastore {a : Addr} {cl : Cell} {j : Int32} {x : Int32} (K : Ok κ l Z n0 own nm bytes maxL ret rm Q) (hd : decode bytes pc = .ok (.bastore, 1)) (A1 : Arr Z h a cl .byte) (hj : ¬ (j < 0 ∨ cl.slots.size ≤ j.toNatClampNeg)) (ge : n0 ≤ a)
    (hr : ∀ h', Wr h h' a j.toNatClampNeg (.int x.toInt8.toInt32) → Go κ h' cells slots (pc + 1) Ls st) : Go κ h cells slots pc Ls (.int x :: .int j :: .ref a :: st) := fun T locs vm0 X A hZ N B eT => by
  obtain ⟨T', h', X', e', W, st1⟩ := stB X K.exec (K.warm hZ) eT A1 hj (g := mkF κ.m pc Ls (.int x :: .int j :: .ref a :: st)) rfl rfl (hb K.kb hd)
  obtain ⟨s₂, o, hs, r⟩ := hr h' W T' _ vm0 X' (A.mono (Nat.le_of_eq W.size.symm)) hZ (Fr.snoc X' N (by rw [K.en]; exact ge)) (B.wr W (by rw [K.en]; exact ge)) e'
  exact ⟨s₂, o, st1 _ hs, r⟩
theorem aaload {ty : FieldType} {a : Addr} {cl : Cell} {j : Int32} {v : Value} (K : Ok κ l Z n0 own nm bytes maxL ret rm Q) (hd : decode bytes pc = .ok (.aaload, 1)) (A1 : Arr Z h a cl ty) (hty : ty.isReference = true) (hin : ¬ (j < 0 ∨ cl.slots.size ≤ j.toNatClampNeg)) (hv : cl.slots[j.toNatClampNeg]? = some v)
    (hr : Go κ h cells slots (pc + 1) Ls (v :: st)) : Go κ h cells slots pc Ls (.int j :: .ref a :: st) := fun T locs vm0 X A hZ N B eT => by
  obtain ⟨s₂, o, hs, r⟩ := hr T locs vm0 X A hZ N B eT
  exact ⟨s₂, o, X.aaload K.exec (by rw [eT]; exact A1.1) (State.isArrayOf_alike (K.warm hZ).alike A1.2.1) hty A1.2.2 hin hv (g := mkF κ.m pc Ls (.int j :: .ref a :: st)) rfl rfl (hb K.kb hd) _ hs, r⟩
theorem aastore {ty : FieldType} {a : Addr} {cl : Cell} {j : Int32} {v : Value} (K : Ok κ l Z n0 own nm bytes maxL ret rm Q) (hd : decode bytes pc = .ok (.aastore, 1)) (A1 : Arr Z h a cl ty) (hj : ¬ (j < 0 ∨ cl.slots.size ≤ j.toNatClampNeg)) (hty : ty.isReference = true) (F : Sto Z h a v) (ge : n0 ≤ a)
    (hr : ∀ h', Wr h h' a j.toNatClampNeg v → Go κ h' cells slots (pc + 1) Ls st) : Go κ h cells slots pc Ls (v :: .int j :: .ref a :: st) := fun T locs vm0 X A hZ N B eT => by
  obtain ⟨T', h', X', e', W, st1⟩ := stR X K.exec (K.warm hZ) eT A1 hj hty F (g := mkF κ.m pc Ls (v :: .int j :: .ref a :: st)) rfl rfl (hb K.kb hd)
  obtain ⟨s₂, o, hs, r⟩ := hr h' W T' _ vm0 X' (A.mono (Nat.le_of_eq W.size.symm)) hZ (Fr.snoc X' N (by rw [K.en]; exact ge)) (B.wr W (by rw [K.en]; exact ge)) e'
  exact ⟨s₂, o, st1 _ hs, r⟩
theorem castOk {C : String} {index : Nat} {a : Addr} (K : Ok κ l Z n0 own nm bytes maxL ret rm Q) (hd : decode bytes pc = .ok (.checkcast index, 3)) (w : (Cond.classLink own index C).before a0 Z = true) (F : Ins Z h a C true) (hr : Go κ h cells slots (pc + 3) Ls (.ref a :: st)) : Go κ h cells slots pc Ls (.ref a :: st) := fun T locs vm0 X A hZ N B eT => by
  obtain ⟨T', X', e', st1⟩ := castY X K.exec (K.warm hZ) (K.ko A) w eT F (g := mkF κ.m pc Ls (.ref a :: st)) rfl rfl (hb K.kb hd)
  obtain ⟨s₂, o, hs, r⟩ := hr T' locs vm0 X' A hZ N B e'
  exact ⟨s₂, o, st1 _ hs, r⟩
theorem instYes {C : String} {index : Nat} {a : Addr} (K : Ok κ l Z n0 own nm bytes maxL ret rm Q) (hd : decode bytes pc = .ok (.instanceof index, 3)) (w : (Cond.classLink own index C).before a0 Z = true) (F : Ins Z h a C true) (hr : Go κ h cells slots (pc + 3) Ls (.int 1 :: st)) : Go κ h cells slots pc Ls (.ref a :: st) := fun T locs vm0 X A hZ N B eT => by
  obtain ⟨T', X', e', st1⟩ := instY X K.exec (K.warm hZ) (K.ko A) w eT F (g := mkF κ.m pc Ls (.ref a :: st)) rfl rfl (hb K.kb hd)
  obtain ⟨s₂, o, hs, r⟩ := hr T' locs vm0 X' A hZ N B e'
  exact ⟨s₂, o, st1 _ hs, r⟩
theorem instNot {C C' : String} {index : Nat} {a : Addr} (K : Ok κ l Z n0 own nm bytes maxL ret rm Q) (hd : decode bytes pc = .ok (.instanceof index, 3)) (w : (Cond.classLink own index C).before a0 Z = true) (E : Exa Z h a C') (F : ∃ c t, Z.vm.findClass C' = some c ∧ Z.vm.findClass C = some t ∧ Z.vm.assignable c t = false)
    (hr : Go κ h cells slots (pc + 3) Ls (.int 0 :: st)) : Go κ h cells slots pc Ls (.ref a :: st) := fun T locs vm0 X A hZ N B eT => by
  obtain ⟨T', X', e', st1⟩ := instNo X K.exec (K.warm hZ) (K.ko A) w eT E F (g := mkF κ.m pc Ls (.ref a :: st)) rfl rfl (hb K.kb hd)
  obtain ⟨s₂, o, hs, r⟩ := hr T' locs vm0 X' A hZ N B e'
  exact ⟨s₂, o, st1 _ hs, r⟩
theorem getfieldZ {R0 O n d host : String} {index : Nat} {a : Addr} {v : Value} (K : Ok κ l Z n0 own nm bytes maxL ret rm Q) (hd : decode bytes pc = .ok (.getfield index, 3))
    (w : (Cond.fieldLink own index R0 n d).before a0 Z = true ∨ (Cond.fieldLinkNest own index R0 n d host).before a0 Z = true) (via : Via Z R0 O n d) (F : Fld Z Z.heap a O n d v) (hr : Go κ h cells slots (pc + 3) Ls (v :: st)) : Go κ h cells slots pc Ls (.ref a :: st) :=
  old K fun B => getfield K hd w via (F.ext B.2) hr
theorem getstaticZ {R0 O n d host : String} {index : Nat} {v : Value} (K : Ok κ l Z n0 own nm bytes maxL ret rm Q) (hd : decode bytes pc = .ok (.getstatic index, 3))
    (w : (Cond.fieldLink own index R0 n d).before a0 Z = true ∨ (Cond.fieldLinkNest own index R0 n d host).before a0 Z = true) (via : Via Z R0 O n d) (F : Sta Z Z.heap O n d v) (hr : Go κ h cells slots (pc + 3) Ls (v :: st)) : Go κ h cells slots pc Ls st :=
  old K fun B => getstatic K hd w via (F.ext B.2) hr
/-! ## calls -/
section Calls
variable {y z : MethodName} {bytes' : ByteArray} {maxL' W index : Nat} {ret' : Option FieldType} {rm' : Room} {Q' : Option Value → Heap → Prop} {argsL rest : List Value} {as' : Array Value}
theorem Con.narrow (C : Con false l Z n0 y bytes' maxL' ret' rm' as' h Q') (g : Old Z n0 h) : MetFree l y (head1 [Cond.code y bytes' maxL' ret'] rm') (fun a U => a = as' ∧ Z.Warmed39 U.vm ∧ U.heap = h) (fun _ _ _ _ _ => True)
    (fun _ U o U' => ∃ v L, o = .returned v ∧ (Q' v U'.heap ∧ Fr n0 L ∧ h.size ≤ U'.heap.size ∧ Old Z n0 U'.heap) ∧ FrameEnd U o U' L rm'.cells rm'.slots) := fun p e ha hc hk s m args below hf happ hP hK => by
  obtain ⟨n, o, a1, a2, a3, v, L, e1, ⟨q1, q2, q3⟩, E⟩ := C g [] p e ha hc hk s m args below hf happ hP hK
  exact ⟨n, o, a1, a2, a3, v, L, e1, ⟨q1, q2, hP.2.2 ▸ q3.1, q3.2⟩, E.1 rfl⟩
theorem Con.mono {wide : Bool} {Q2 : Option Value → Heap → Prop} (C : Con wide l Z n0 y bytes' maxL' ret' rm' as' h Q') (hq : ∀ v h', Q' v h' → Q2 v h') : Con wide l Z n0 y bytes' maxL' ret' rm' as' h Q2 := fun g ws p e ha hc hk s m args below hf happ hP hK => by
  obtain ⟨n, o, a1, a2, a3, v, L, e1, ⟨q1, q2, q3⟩, E⟩ := C g ws p e ha hc hk s m args below hf happ hP hK
  exact ⟨n, o, a1, a2, a3, v, L, e1, ⟨hq _ _ q1, q2, q3⟩, E⟩
theorem finish (K : Ok κ l Z n0 own nm bytes maxL ret rm Q) {T U0 : State} {locs : List Loc} {vm0 : Vm} {pc' : Nat} (A : κ.adm vm0 h.size) (hZ : κ.Z.Warmed39 vm0) (N : Fr κ.n0 locs)
    (hr : ∀ v h', Q' v h' → h.size ≤ h'.size → Go κ h' (cells + rm'.cells) (slots + rm'.slots) pc' Ls (v.toList ++ rest)) {v : Option Value} {B : Pt} (X' : Stand κ.p κ.l κ.e κ.R (κ.s.setVm vm0) κ.m κ.args κ.below κ.meth κ.c B.U B.locs B.cells B.slots)
    (P : ∃ L, (Q' v B.U.heap ∧ Fr n0 L ∧ h.size ≤ B.U.heap.size ∧ Old Z n0 B.U.heap) ∧ B.locs = locs ++ L ∧ B.cells = cells + rm'.cells ∧ B.slots = slots + rm'.slots) (st1 : ∀ target, Steps κ.p.tables κ.e κ.below (B.U.setTop (mkF κ.m pc' Ls (v.toList ++ rest))) target → Steps κ.p.tables κ.e κ.below U0 target) :
    ∃ s₂ o, Steps κ.p.tables κ.e κ.below U0 s₂ ∧ s₂.status = .running ∧ Ended s₂ κ.below o ∧ ∃ v L, o = .returned v ∧ (κ.Q v s₂.heap ∧ Fr κ.n0 L ∧ κ.s.heap.size ≤ s₂.heap.size ∧ Old κ.Z κ.n0 s₂.heap) ∧ Ends κ.wide κ.s o s₂ L κ.R.cells κ.R.slots := by
  obtain ⟨L, ⟨q1, q2, q3, q4⟩, e1, e2, e3⟩ := P
  rw [e1, e2, e3] at X'
  obtain ⟨s₂, o, hs, r⟩ := hr v _ q1 q3 B.U _ vm0 X' (A.mono q3) hZ (N.app (by rw [K.en]; exact q2)) (K.oldS q4) rfl
  exact ⟨s₂, o, st1 _ hs, r⟩
theorem W0 {m : MethodId} {g : List Value} (hW : (rest.map fun v => v.category).sum ≤ W) : 2 * (mkF m pc Ls g).monitorRoom + (rest.map fun v => v.category).sum ≤ W := by
  show 2 * 0 + _ ≤ _; omega
theorem invS (K : Ok κ l Z n0 own nm bytes maxL ret rm Q) (C : Con false l Z n0 y bytes' maxL' ret' rm' argsL.toArray h Q') (hd : decode bytes pc = .ok (.invokestatic index, 3))
    (w1 : (Cond.methodLink own index y).before a0 Z = true) (w2 : (Cond.static y).before a0 Z = true) (w3 : (Cond.initialized y.cls).before a0 Z = true) (w4 : (Cond.code y bytes' maxL' ret').before a0 Z = true) (hy : y.cls ≠ "java/lang/invoke/MethodHandle" ∧ y.cls ≠ "java/lang/invoke/VarHandle")
    (hlen : ∀ sig, parseMethodDescriptor y.desc = some sig → argsL.length = sig.parameters.length) (hst : st = argsL.reverse ++ rest) (hsz : Ls.size = maxL) (hW : (rest.map fun v => v.category).sum ≤ W) (hf : rm'.frames + 1 ≤ rm.frames) (hl : W + (maxL' + 11) + rm'.locals ≤ rm.locals) (hc : cells + rm'.cells ≤ rm.cells) (hs : slots + rm'.slots ≤ rm.slots)
    (hr : ∀ v h', Q' v h' → h.size ≤ h'.size → Go κ h' (cells + rm'.cells) (slots + rm'.slots) (pc + 3) Ls (v.toList ++ rest)) : Go κ h cells slots pc Ls st := fun T locs vm0 X A hZ N OB eT => by
  have hZ' := K.warm hZ
  have eR := K.eR
  obtain ⟨v, vm₁, B, -, X', P, st1⟩ := Jvm.LawKit.callS X K.exec (K.ko A) (mvT hZ' w1) (mvT hZ' w2) (mvT hZ' w3) (mvT hZ' w4) hy (backOf (W := W) (R := κ.R) (rm := rm') (Q := fun v h' L => Q' v h' ∧ Fr n0 L ∧ h.size ≤ h'.size ∧ Old Z n0 h') (by rw [K.el]; exact C.narrow (K.old OB)) hZ' w4 w3 (by rw [eR]; exact hf) (by rw [eR]; exact hl)) (g := mkF κ.m pc Ls st) rfl (by rw [K.kl]; exact hsz) hlen hst (W0 hW) (hb K.kb hd)
    (fun _ _ => ⟨rfl, eT, by rw [eR]; exact hc, by rw [eR]; exact hs⟩)
  exact finish K (T := T) A hZ N hr X' P st1
theorem invV {CC : String} {b : Addr} (K : Ok κ l Z n0 own nm bytes maxL ret rm Q) (C : Con false l Z n0 z bytes' maxL' ret' rm' (.ref b :: argsL).toArray h Q') (hd : decode bytes pc = .ok (.invokevirtual index, 3)) (E : Exa Z h b CC)
    (w1 : (Cond.methodLink own index y).before a0 Z = true) (w2 : (Cond.declares y).before a0 Z = true) (hnf : ∀ s : State, Z.Warmed39 s.vm → NotFace s y) (w3 : (Cond.selects CC y z).before a0 Z = true) (w4 : (Cond.instanceMethod z).before a0 Z = true) (w5 : (Cond.code z bytes' maxL' ret').before a0 Z = true) (w6 : (Cond.initialized z.cls).before a0 Z = true)
    (hy : y.cls ≠ "java/lang/invoke/MethodHandle" ∧ y.cls ≠ "java/lang/invoke/VarHandle")
    (hlen : ∀ sig, parseMethodDescriptor y.desc = some sig → argsL.length = sig.parameters.length) (hst : st = argsL.reverse ++ .ref b :: rest) (hsz : Ls.size = maxL) (hW : (rest.map fun v => v.category).sum ≤ W) (hf : rm'.frames + 1 ≤ rm.frames) (hl : W + (maxL' + 11) + rm'.locals ≤ rm.locals) (hc : cells + rm'.cells ≤ rm.cells) (hs : slots + rm'.slots ≤ rm.slots)
    (hr : ∀ v h', Q' v h' → h.size ≤ h'.size → Go κ h' (cells + rm'.cells) (slots + rm'.slots) (pc + 3) Ls (v.toList ++ rest)) : Go κ h cells slots pc Ls st := fun T locs vm0 X A hZ N OB eT => by
  have hZ' := K.warm hZ
  have eR := K.eR
  obtain ⟨cB, kB, q1, -, q3⟩ := isOf hZ' eT E
  obtain ⟨v, vm₁, B, -, X', P, st1⟩ := X.virtualBack K.exec (y := y) (z := z) (K.ko A) (mvT hZ' w1) (mvT hZ' w2) (hnf _ hZ') (mvT hZ' w3) (mvT hZ' w4) hy (backOf (W := W) (R := κ.R) (rm := rm') (Q := fun v h' L => Q' v h' ∧ Fr n0 L ∧ h.size ≤ h'.size ∧ Old Z n0 h') (by rw [K.el]; exact C.narrow (K.old OB)) hZ' w5 w6 (by rw [eR]; exact hf) (by rw [eR]; exact hl)) q1 q3 (g := mkF κ.m pc Ls st) rfl (by rw [K.kl]; exact hsz) (Steps.refl _) hlen hst (W0 hW) (hb K.kb hd)
    (fun _ _ => ⟨rfl, eT, by rw [eR]; exact hc, by rw [eR]; exact hs⟩)
  exact finish K (T := T) A hZ N hr X' P (fun _ k => st1.trans k)
theorem nfS {CC : String} (w : (Cond.selects CC y y).before a0 Z = true) : ∀ s : State, Z.Warmed39 s.vm → NotFace s y := fun s hZ => notFace_of_selects (args := #[]) (mvT hZ w)
theorem nfU {S : String} (w : (Cond.superclass y.cls S).before a0 Z = true) : ∀ s : State, Z.Warmed39 s.vm → NotFace s y := fun s hZ => nf_super (args := #[]) (mvT hZ w)
theorem invVU {CC owner : String} {b : Addr} (K : Ok κ l Z n0 own nm bytes maxL ret rm Q) (C : Con false l Z n0 z bytes' maxL' ret' rm' (.ref b :: argsL).toArray h Q') (hd : decode bytes pc = .ok (.invokevirtual index, 3)) (E : Exa Z h b CC)
    (w1 : (Cond.methodLink own index y).before a0 Z = true) (w2 : (Cond.sameMethod y.cls owner y.name y.desc).before a0 Z = true) (w2' : (Cond.declares ⟨owner, y.name, y.desc⟩).before a0 Z = true) (hy : owner ≠ "java/lang/invoke/MethodHandle" ∧ owner ≠ "java/lang/invoke/VarHandle")
    (w3 : (Cond.selects CC y z).before a0 Z = true) (w4 : (Cond.instanceMethod z).before a0 Z = true) (w5 : (Cond.code z bytes' maxL' ret').before a0 Z = true) (w6 : (Cond.initialized z.cls).before a0 Z = true)
    (hlen : ∀ sig, parseMethodDescriptor y.desc = some sig → argsL.length = sig.parameters.length) (hst : st = argsL.reverse ++ .ref b :: rest) (hsz : Ls.size = maxL) (hW : (rest.map fun v => v.category).sum ≤ W) (hf : rm'.frames + 1 ≤ rm.frames) (hl : W + (maxL' + 11) + rm'.locals ≤ rm.locals) (hc : cells + rm'.cells ≤ rm.cells) (hs : slots + rm'.slots ≤ rm.slots)
    (hr : ∀ v h', Q' v h' → h.size ≤ h'.size → Go κ h' (cells + rm'.cells) (slots + rm'.slots) (pc + 3) Ls (v.toList ++ rest)) : Go κ h cells slots pc Ls st := fun T locs vm0 X A hZ N OB eT => by
  have hZ' := K.warm hZ
  have eR := K.eR
  obtain ⟨cB, kB, q1, -, q3⟩ := isOf hZ' eT E
  obtain ⟨v, vm₁, B, -, X', P, st1⟩ := X.virtualBackUp K.exec (x := y) (y := z) (K.ko A) (mvT hZ' w1) (mvT hZ' w2) (mvT hZ' w2') hy (mvT hZ' w3) (mvT hZ' w4) (backOf (W := W) (R := κ.R) (rm := rm') (Q := fun v h' L => Q' v h' ∧ Fr n0 L ∧ h.size ≤ h'.size ∧ Old Z n0 h') (by rw [K.el]; exact C.narrow (K.old OB)) hZ' w5 w6 (by rw [eR]; exact hf) (by rw [eR]; exact hl)) q1 q3 (g := mkF κ.m pc Ls st) rfl (by rw [K.kl]; exact hsz) (Steps.refl _) hlen hst (W0 hW) (hb K.kb hd)
    (fun _ _ => ⟨rfl, eT, by rw [eR]; exact hc, by rw [eR]; exact hs⟩)
  exact finish K (T := T) A hZ N hr X' P (fun _ k => st1.trans k)
theorem invP {CC : String} {b : Addr} (K : Ok κ l Z n0 own nm bytes maxL ret rm Q) (C : Con false l Z n0 y bytes' maxL' ret' rm' (.ref b :: argsL).toArray h Q') (hd : decode bytes pc = .ok (.invokevirtual index, 3)) (E : Exa Z h b CC)
    (w1 : (Cond.methodLink own index y).before a0 Z = true) (w2 : (Cond.instanceMethod y).before a0 Z = true) (w3 : (Cond.selects y.cls y y).before a0 Z = true) (w4 : (Cond.privateMethod y).before a0 Z = true) (w5 : (Cond.code y bytes' maxL' ret').before a0 Z = true) (w6 : (Cond.initialized y.cls).before a0 Z = true)
    (hy : y.cls ≠ "java/lang/invoke/MethodHandle" ∧ y.cls ≠ "java/lang/invoke/VarHandle")
    (hlen : ∀ sig, parseMethodDescriptor y.desc = some sig → argsL.length = sig.parameters.length) (hst : st = argsL.reverse ++ .ref b :: rest) (hsz : Ls.size = maxL) (hW : (rest.map fun v => v.category).sum ≤ W) (hf : rm'.frames + 1 ≤ rm.frames) (hl : W + (maxL' + 11) + rm'.locals ≤ rm.locals) (hc : cells + rm'.cells ≤ rm.cells) (hs : slots + rm'.slots ≤ rm.slots)
    (hr : ∀ v h', Q' v h' → h.size ≤ h'.size → Go κ h' (cells + rm'.cells) (slots + rm'.slots) (pc + 3) Ls (v.toList ++ rest)) : Go κ h cells slots pc Ls st := fun T locs vm0 X A hZ N OB eT => by
  have hZ' := K.warm hZ
  have eR := K.eR
  obtain ⟨cell, hcell, hobj⟩ := E.cell
  obtain ⟨v, vm₁, B, -, X', P, st1⟩ := X.privateBack K.exec (y := y) (K.ko A) (mvT hZ' w1) (mvT hZ' w2) (mvT hZ' w3) (Cond.privateMethod_at (mvP (args := #[]) hZ' w4)) (mvT hZ' w5) hy (backOf (W := W) (R := κ.R) (rm := rm') (Q := fun v h' L => Q' v h' ∧ Fr n0 L ∧ h.size ≤ h'.size ∧ Old Z n0 h') (by rw [K.el]; exact C.narrow (K.old OB)) hZ' w5 w6 (by rw [eR]; exact hf) (by rw [eR]; exact hl)) (g := mkF κ.m pc Ls st) rfl (by rw [K.kl]; exact hsz) (Steps.refl _) (a := b) (cell := cell) (by rw [eT]; exact hcell) hobj hlen hst (W0 hW) (hb K.kb hd)
    (fun _ _ => ⟨rfl, eT, by rw [eR]; exact hc, by rw [eR]; exact hs⟩)
  exact finish K (T := T) A hZ N hr X' P (fun _ k => st1.trans k)
theorem invI {CC : String} {b : Addr} {count : Nat} (K : Ok κ l Z n0 own nm bytes maxL ret rm Q) (C : Con false l Z n0 z bytes' maxL' ret' rm' (.ref b :: argsL).toArray h Q') (hd : decode bytes pc = .ok (.invokeinterface index count, 5)) (E : Exa Z h b CC)
    (w1 : (Cond.methodLink own index y).before a0 Z = true) (w2 : (Cond.declares y).before a0 Z = true) (w2' : (Cond.interfaceMethod y.cls y.cls y.name y.desc).before a0 Z = true) (w3 : (Cond.selects CC y z).before a0 Z = true) (w4 : (Cond.instanceMethod z).before a0 Z = true) (w4' : (Cond.publicMethod z).before a0 Z = true) (w4'' : (Cond.unhidden CC y.name y.desc).before a0 Z = true) (w7 : (Cond.castable CC y.cls).before a0 Z = true)
    (w5 : (Cond.code z bytes' maxL' ret').before a0 Z = true) (w6 : (Cond.initialized z.cls).before a0 Z = true)
    (hy : y.cls ≠ "java/lang/invoke/MethodHandle" ∧ y.cls ≠ "java/lang/invoke/VarHandle")
    (hlen : ∀ sig, parseMethodDescriptor y.desc = some sig → argsL.length = sig.parameters.length) (hst : st = argsL.reverse ++ .ref b :: rest) (hsz : Ls.size = maxL) (hW : (rest.map fun v => v.category).sum ≤ W) (hf : rm'.frames + 1 ≤ rm.frames) (hl : W + (maxL' + 11) + rm'.locals ≤ rm.locals) (hc : cells + rm'.cells ≤ rm.cells) (hs : slots + rm'.slots ≤ rm.slots)
    (hr : ∀ v h', Q' v h' → h.size ≤ h'.size → Go κ h' (cells + rm'.cells) (slots + rm'.slots) (pc + 5) Ls (v.toList ++ rest)) : Go κ h cells slots pc Ls st := fun T locs vm0 X A hZ N OB eT => by
  have hZ' := K.warm hZ
  have eR := K.eR
  obtain ⟨cB, kB, q1, q2, q3⟩ := isOf hZ' eT E
  obtain ⟨v, vm₁, B, -, X', P, st1⟩ := X.interfaceBack K.exec (xi := y) (y := z) (K.ko A) (mvT hZ' w1) (mvT hZ' w2) (Jvm.Free.ULB.iface_rides hZ'.alike w2') (mvT hZ' w3) (mvT hZ' w4) (mvT hZ' w4') (mvT hZ' w4'') (mvT hZ' w7) hy (backOf (W := W) (R := κ.R) (rm := rm') (Q := fun v h' L => Q' v h' ∧ Fr n0 L ∧ h.size ≤ h'.size ∧ Old Z n0 h') (by rw [K.el]; exact C.narrow (K.old OB)) hZ' w5 w6 (by rw [eR]; exact hf) (by rw [eR]; exact hl)) q1 q2 q3 (g := mkF κ.m pc Ls st) rfl (by rw [K.kl]; exact hsz) (Steps.refl _) hlen hst (W0 hW) (hb K.kb hd)
    (fun _ _ => ⟨rfl, eT, by rw [eR]; exact hc, by rw [eR]; exact hs⟩)
  exact finish K (T := T) A hZ N hr X' P (fun _ k => st1.trans k)
theorem invC {b : Addr} (K : Ok κ l Z n0 own nm bytes maxL ret rm Q) (C : Con false l Z n0 y bytes' maxL' none rm' (.ref b :: argsL).toArray h Q') (hd : decode bytes pc = .ok (.invokespecial index, 3)) (hy1 : y.name = "<init>")
    (w1 : (Cond.methodLink own index y).before a0 Z = true) (w2 : (Cond.instanceMethod y).before a0 Z = true) (w5 : (Cond.code y bytes' maxL' none).before a0 Z = true) (w6 : (Cond.initialized y.cls).before a0 Z = true)
    (hy : y.cls ≠ "java/lang/invoke/MethodHandle" ∧ y.cls ≠ "java/lang/invoke/VarHandle")
    (hlen : ∀ sig, parseMethodDescriptor y.desc = some sig → argsL.length = sig.parameters.length) (hst : st = argsL.reverse ++ .ref b :: rest) (hsz : Ls.size = maxL) (hW : (rest.map fun v => v.category).sum ≤ W) (hf : rm'.frames + 1 ≤ rm.frames) (hl : W + (maxL' + 11) + rm'.locals ≤ rm.locals) (hc : cells + rm'.cells ≤ rm.cells) (hs : slots + rm'.slots ≤ rm.slots)
    (hr : ∀ v h', Q' v h' → h.size ≤ h'.size → Go κ h' (cells + rm'.cells) (slots + rm'.slots) (pc + 3) Ls (v.toList ++ rest)) : Go κ h cells slots pc Ls st := fun T locs vm0 X A hZ N OB eT => by
  have hZ' := K.warm hZ
  have eR := K.eR
  obtain ⟨v, vm₁, B, -, X', P, st1⟩ := X.specialBack K.exec (y := y) hy1 (K.ko A) (mvT hZ' w1) (mvT hZ' w2) (mvT hZ' w5) hy (backOf (W := W) (R := κ.R) (rm := rm') (Q := fun v h' L => Q' v h' ∧ Fr n0 L ∧ h.size ≤ h'.size ∧ Old Z n0 h') (by rw [K.el]; exact C.narrow (K.old OB)) hZ' w5 w6 (by rw [eR]; exact hf) (by rw [eR]; exact hl)) (g := mkF κ.m pc Ls st) rfl (by rw [K.kl]; exact hsz) (Steps.refl _) (a := b) hlen hst (W0 hW) (hb K.kb hd)
    (fun _ _ => ⟨rfl, eT, by rw [eR]; exact hc, by rw [eR]; exact hs⟩)
  exact finish K (T := T) A hZ N hr X' P (fun _ k => st1.trans k)
theorem mvMN {s : State} {args : Array Value} {own' host : String} {i : Nat} (hZ : Z.Warmed39 s.vm) (w : (Cond.methodLinkNest own' i y host).before a0 Z = true) : (Cond.methodLinkNest own' i y host).before args s = true := (Cond.methodLinkNest_wide hZ w :)
theorem invCN {host : String} {b : Addr} (K : Ok κ l Z n0 own nm bytes maxL ret rm Q) (C : Con false l Z n0 y bytes' maxL' none rm' (.ref b :: argsL).toArray h Q') (hd : decode bytes pc = .ok (.invokespecial index, 3)) (hy1 : y.name = "<init>")
    (w1 : (Cond.methodLinkNest own index y host).before a0 Z = true) (w2 : (Cond.instanceMethod y).before a0 Z = true) (w5 : (Cond.code y bytes' maxL' none).before a0 Z = true) (w6 : (Cond.initialized y.cls).before a0 Z = true)
    (hy : y.cls ≠ "java/lang/invoke/MethodHandle" ∧ y.cls ≠ "java/lang/invoke/VarHandle")
    (hlen : ∀ sig, parseMethodDescriptor y.desc = some sig → argsL.length = sig.parameters.length) (hst : st = argsL.reverse ++ .ref b :: rest) (hsz : Ls.size = maxL) (hW : (rest.map fun v => v.category).sum ≤ W) (hf : rm'.frames + 1 ≤ rm.frames) (hl : W + (maxL' + 11) + rm'.locals ≤ rm.locals) (hc : cells + rm'.cells ≤ rm.cells) (hs : slots + rm'.slots ≤ rm.slots)
    (hr : ∀ v h', Q' v h' → h.size ≤ h'.size → Go κ h' (cells + rm'.cells) (slots + rm'.slots) (pc + 3) Ls (v.toList ++ rest)) : Go κ h cells slots pc Ls st := fun T locs vm0 X A hZ N OB eT => by
  have hZ' := K.warm hZ
  have eR := K.eR
  obtain ⟨v, vm₁, B, -, X', P, st1⟩ := X.specialBackNest K.exec (y := y) hy1 (K.ko A) (mvMN hZ' w1) (mvT hZ' w2) (mvT hZ' w5) hy (backOf (W := W) (R := κ.R) (rm := rm') (Q := fun v h' L => Q' v h' ∧ Fr n0 L ∧ h.size ≤ h'.size ∧ Old Z n0 h') (by rw [K.el]; exact C.narrow (K.old OB)) hZ' w5 w6 (by rw [eR]; exact hf) (by rw [eR]; exact hl)) (g := mkF κ.m pc Ls st) rfl (by rw [K.kl]; exact hsz) (Steps.refl _) (a := b) hlen hst (W0 hW) (hb K.kb hd)
    (fun _ _ => ⟨rfl, eT, by rw [eR]; exact hc, by rw [eR]; exact hs⟩)
  exact finish K (T := T) A hZ N hr X' P (fun _ k => st1.trans k)
theorem invO {a : Addr} (K : Ok κ l Z n0 own nm bytes maxL ret rm Q) (hd : decode bytes pc = .ok (.invokespecial index, 3)) (w1 : (Cond.methodLink own index Lib.objectInit).before a0 Z = true) (w2 : (Cond.instanceMethod Lib.objectInit).before a0 Z = true) (w3 : (Cond.code Lib.objectInit ⟨#[0xb1]⟩ 1 none).before a0 Z = true)
    (hsz : Ls.size = maxL) (hf : 1 ≤ rm.frames) (hW : (st.map fun v => v.category).sum ≤ W) (hl : W + 12 ≤ rm.locals) (hr : Go κ h cells slots (pc + 3) Ls st) : Go κ h cells slots pc Ls (.ref a :: st) := fun T locs vm0 X A hZ N B eT => by
  obtain ⟨T', X', e', st1⟩ := initO X K.exec (K.warm hZ) (K.ko A) w1 w2 w3 eT (g := mkF κ.m pc Ls (.ref a :: st)) rfl (by rw [K.kl]; exact hsz) rfl (hb K.kb hd) (by rw [K.eR]; exact hf) (W := W) (W0 hW) (by rw [K.eR]; exact hl)
  obtain ⟨s₂, o, hs, r⟩ := hr T' locs vm0 X' A hZ N B e'
  exact ⟨s₂, o, st1 _ hs, r⟩
/-- a body's walk makes the contract -/
theorem Con.of {wide : Bool} (hpn : plainFor y = true)
    (H : ∀ κ : Cx, κ.wide = wide → Ok κ l Z n0 y.cls y.name bytes' maxL' ret' rm' Q' → Go κ h 0 0 0 (entryFrame κ.m as' maxL').locals []) (hfr : ∀ m : MethodId, entryFrame m as' maxL' = mkF m 0 (entryFrame m as' maxL').locals [] := by intro m; rfl) : Con wide l Z n0 y bytes' maxL' ret' rm' as' h Q' := by
  intro hn ws
  refine MetFree.of_bodySF hpn hisR ?_
  intro p e s m args below meth c s₁ Bd hml0 hP hK
  obtain ⟨rfl, hZ, hh⟩ := hP
  have X0 : Stand p l e rm' s m args below meth c s₁ [] 0 0 := Stand.of_body Bd
  have e0 : s₁.heap = h := by rw [← hh, Bd.state]; rfl
  let κ : Cx := ((p, l, e, rm', s, m, args, below, meth, c), (wide, Z, n0, Q'))
  have K : Ok κ l Z n0 y.cls y.name bytes' maxL' ret' rm' Q' := ⟨rfl, rfl, rfl, rfl, Bd.exec, findClass_of_methodNamed Bd.named, Bd.bytes, hml0, Bd.returns, (name_of_methodNamed Bd.named Bd.method).1, Bd.notSynchronized, rfl⟩
  obtain ⟨s₂, o, hs, r1, r2, v, L, e1, q, E⟩ := H κ rfl K s₁ [] s.vm X0 ⟨⟨s.heap.size, (State.WarmedH.refl s).since _, by rw [← hh]; exact Nat.le_refl _⟩, fun _ => rfl⟩ hZ (Fr.nil _) hn e0
  exact ⟨s₂, o, castTop (hfr m) hs, r1, r2, v, L, e1, q, E⟩
end Calls
theorem catR {v : Value} (h : v.isRef = true) : v.category = 1 := by rcases ref_cases h with rfl | ⟨a, rfl⟩ <;> rfl
/-! ## lcmp -/
theorem cmp_lt (x y : Int64) : (XT.cmpL x y).toInt < 0 ↔ x.toInt < y.toInt := by
  unfold XT.cmpL; rw [← Int64.lt_iff_toInt_lt]
  by_cases h1 : y < x
  · simp only [h1, if_true]; constructor
    · intro h; exact absurd h (by decide)
    · intro h; rw [Int64.lt_iff_toInt_lt] at h h1; omega
  · by_cases h2 : x = y
    · subst h2; simp only [h1, if_true, if_false]; simp
    · simp only [h1, h2, if_false]
      have h3 : x < y := by rw [Int64.lt_iff_toInt_lt] at h1 ⊢; rw [← Int64.toInt_inj] at h2; omega
      exact ⟨fun _ => h3, fun _ => by decide⟩
theorem cmp_gt (x y : Int64) : 0 < (XT.cmpL x y).toInt ↔ y.toInt < x.toInt := by
  unfold XT.cmpL; rw [← Int64.lt_iff_toInt_lt]
  by_cases h1 : y < x
  · simp only [h1, if_true]; exact ⟨fun _ => trivial, fun _ => by decide⟩
  · by_cases h2 : x = y
    · subst h2; simp only [h1, if_true, if_false]; simp
    · simp only [h1, h2, if_false]; simp
theorem cmp_eq (x y : Int64) : XT.cmpL x y = 0 ↔ x = y := by
  unfold XT.cmpL
  by_cases h1 : y < x
  · simp only [h1, if_true]; constructor
    · intro h; exact absurd h (by decide)
    · intro h; subst h; rw [Int64.lt_iff_toInt_lt] at h1; omega
  · by_cases h2 : x = y
    · subst h2; simp only [h1, if_true, if_false]
    · simp only [h1, h2, if_false]; exact ⟨fun h => absurd h (by decide), fun h => h.elim⟩
/-! ## what a case's words say at the start -/
theorem stZ {s : State} {args : Array Value} {C n d : String} {v : Value} (ev : (Term.static C n d).eval args s none [] s = some v) (wi : (Cond.initialized C).before args s = true) (wl : (Cond.laysStatic C n d).before args s = true) : Sta s s.heap C n d v := Sta.start ev (Or.inr ⟨wi, wl⟩)
theorem fldI {s : State} {args : Array Value} {t : Term} {a : Addr} {O f d : String} {k : Int32} (ev : t.eval args s none [] s = some (.ref a)) (hq : (Cond.eq (.field t O f d) (.int k)).value args s none s [] = some true) : Fld s s.heap a O f d (.int k) := by
  obtain ⟨x, y, e1, e2, k1, k2⟩ := cmp_v (Or.inl hq)
  rw [fld_at ev] at e1
  cases (e2.symm.trans (Term.int_eval k) : some y = some (.int k))
  obtain ⟨z, rfl⟩ := k2
  refine Fld.start ?_
  have e3 : (Term.field t O f d).eval args s none [] s = some (.int z) := (fld_at ev).trans e1
  have := gotT (Cond.eq_ints e3 (Term.int_eval k)) hq
  rw [e1, this]
theorem fldJ {s : State} {args : Array Value} {t : Term} {a : Addr} {O f d : String} {k : Int64} (ev : t.eval args s none [] s = some (.ref a)) (hq : (Cond.eq (.field t O f d) (.long k)).value args s none s [] = some true) : Fld s s.heap a O f d (.long k) := by
  obtain ⟨x, y, e1, e2, k1, k2⟩ := cmp_v (Or.inl hq)
  rw [fld_at ev] at e1
  cases (e2.symm.trans (long_at k) : some y = some (.long k))
  obtain ⟨z, rfl⟩ := k2
  refine Fld.start ?_
  have e3 : (Term.field t O f d).eval args s none [] s = some (.long z) := (fld_at ev).trans e1
  have := gotT (eq_L e3 (long_at k)) hq
  rw [e1, this]
theorem staI {s : State} {args : Array Value} {C n d : String} {k : Int32} (hq : (Cond.eq (.static C n d) (.int k)).value args s none s [] = some true) : (Term.static C n d).eval args s none [] s = some (.int k) := by
  obtain ⟨x, y, e1, e2, k1, k2⟩ := cmp_v (Or.inl hq)
  cases (e2.symm.trans (Term.int_eval k) : some y = some (.int k))
  obtain ⟨z, rfl⟩ := k2
  have := gotT (Cond.eq_ints e1 (Term.int_eval k)) hq
  rw [e1, this]
theorem staJ {s : State} {args : Array Value} {C n d : String} {k : Int64} (hq : (Cond.eq (.static C n d) (.long k)).value args s none s [] = some true) : (Term.static C n d).eval args s none [] s = some (.long k) := by
  obtain ⟨x, y, e1, e2, k1, k2⟩ := cmp_v (Or.inl hq)
  cases (e2.symm.trans (long_at k) : some y = some (.long k))
  obtain ⟨z, rfl⟩ := k2
  have := gotT (eq_L e1 (long_at k)) hq
  rw [e1, this]
theorem ordNe {Z : State} {h : Heap} {a b : Addr} {C n d : String} {v w : Value} (F : Fld Z h a C n d v) (G : Fld Z h b C n d w) (q : v ≠ w) : (Value.ref a) ≠ .ref b := fun e => F.ne G q (by cases e; rfl)
end Laws
end Jvm.OwnKit

namespace Jvm.OwnKit
open Sem ClassFile Op Lib Jvm.Stand Jvm.Free Jvm.LawKit Jvm.RoadKit
/-! ## arrays, by the list of what they hold -/
def Av (Z : State) (h : Heap) (a : Addr) (k : ClassId) (ty : FieldType) (vs : List Value) : Prop := ∃ c : Cell, Arr Z h a c ty ∧ c.cls = k ∧ c.slots.toList = vs ∧ vs.length < 2 ^ 31 ∧ ∀ v ∈ vs, fits ty v = true
section Av
variable {Z : State} {h h' : Heap} {a b : Addr} {k : ClassId} {ty : FieldType} {vs : List Value} {sl : Nat} {v : Value} {ws : List Addr}
theorem Av.lt (F : Av Z h a k ty vs) : a < h.size := by obtain ⟨c, A, -⟩ := F; exact A.lt
theorem Av.ext (F : Av Z h a k ty vs) (E : Ext h h') : Av Z h' a k ty vs := by obtain ⟨c, A, r⟩ := F; exact ⟨c, A.ext E, r⟩
theorem Av.other (F : Av Z h b k ty vs) (W : Wr h h' a sl v) (q : b ≠ a) : Av Z h' b k ty vs := by obtain ⟨c, A, r⟩ := F; exact ⟨c, A.other W q, r⟩
theorem Av.keep (F : Av Z h a k ty vs) (K : Keep h h' ws) (q : a ∉ ws) : Av Z h' a k ty vs := by obtain ⟨c, A, r⟩ := F; exact ⟨c, ⟨K.2.1 a c A.1 q, A.2⟩, r⟩
theorem Av.len (F : Av Z h a k ty vs) : vs.length < 2 ^ 31 := by obtain ⟨c, -, -, -, q, -⟩ := F; exact q
theorem Av.set (F : Av Z h a k ty vs) (W : Wr h h' a sl v) (hv : fits ty v = true) : Av Z h' a k ty (vs.set sl v) := by
  obtain ⟨c, A, e1, e2, e3, e4⟩ := F
  refine ⟨_, A.same W, e1, by simp [Cell.setSlot, e2], by simpa using e3, fun w hw => ?_⟩
  rcases List.mem_or_eq_of_mem_set hw with q | q
  · exact e4 w q
  · exact q ▸ hv
theorem Av.new {cA : ClassId} {n : Int32} (A : Arr Z h a (newA cA ty n) ty) (q : 0 ≤ n.toInt) : Av Z h a cA ty (List.replicate n.toInt.toNat (defaultValue ty)) := by
  have e : n.toNatClampNeg = n.toInt.toNat := rfl
  refine ⟨_, A, rfl, by show (Array.replicate n.toNatClampNeg (defaultValue ty)).toList = _; rw [Array.toList_replicate]; rfl, by have := n.toInt_lt; rw [List.length_replicate]; omega, fun v hv => ?_⟩
  rw [List.mem_replicate] at hv
  rw [hv.2]; cases ty <;> rfl
theorem Av.arv (F : Av Z h a k ty vs) (d : Value) : Arv Z h a k ty (Int32.ofNat vs.length) vs d := by
  obtain ⟨c, A, e1, e2, e3, e4⟩ := F
  have e5 : c.slots.size = vs.length := by rw [← e2]; simp
  have e6 : (Int32.ofNat vs.length).toInt = vs.length := len_toInt e3
  refine ⟨c, A, e1, ?_, ?_, fun i hi => ?_, fun i hi => ?_⟩
  · rw [e5]; show _ = (Int32.ofNat vs.length).toInt.toNat; omega
  · rw [Int32.lt_iff_toInt_lt, e6]; have : (0 : Int32).toInt = 0 := rfl; omega
  · rw [e5] at hi; rw [← e2]; simp [List.getD, ← Array.getElem?_toList]; rw [e2]; simp [hi]
  · rw [e5] at hi; rw [List.getD_eq_getElem?_getD, List.getElem?_eq_getElem hi]; exact e4 _ (List.getElem_mem hi)
theorem Av.of_arv {n : Int32} {d : Value} (F : Arv Z h a k ty n vs d) (hl : n.toInt = vs.length) : Av Z h a k ty vs := by
  obtain ⟨c, A, e1, e2, e3, e4, e5⟩ := F
  have e6 : c.slots.size = vs.length := by rw [e2]; show n.toInt.toNat = _; omega
  have e7 : c.slots.toList = vs := by
    refine List.ext_getElem? fun i => ?_
    rcases Nat.lt_or_ge i vs.length with hi | hi
    · have q := e4 i (by omega)
      rw [Array.getElem?_toList, q, List.getD_eq_getElem?_getD, List.getElem?_eq_getElem hi]; rfl
    · rw [List.getElem?_eq_none hi, List.getElem?_eq_none (by simp; omega)]
  refine ⟨c, A, e1, e7, by have := n.toInt_lt; omega, fun v hv => ?_⟩
  obtain ⟨i, hi, rfl⟩ := List.getElem_of_mem hv
  have q := e5 i (by omega)
  rwa [List.getD_eq_getElem?_getD, List.getElem?_eq_getElem hi] at q
end Av
section ALaws
variable {κ : Cx} {t : FieldType} {l : Launch} {Z : State} {n0 : Nat} {own nm : String} {bytes : ByteArray} {maxL : Nat} {ret : Option FieldType} {rm : Room} {Q : Option Value → Heap → Prop} {h : Heap} {cells slots pc : Nat} {Ls : Array Slot} {st : List Value} {a0 : Array Value}
variable {a : Addr} {k : ClassId} {ty : FieldType} {vs : List Value} {j : Int32} {v : Value}
theorem inV {c : Cell} (e : c.slots.toList = vs) (h0 : 0 ≤ j.toInt) (hj : vs[j.toInt.toNat]? = some v) : ¬ (j < 0 ∨ c.slots.size ≤ j.toNatClampNeg) ∧ c.slots[j.toNatClampNeg]? = some v := by
  have q := (List.getElem?_eq_some_iff.mp hj).1
  have s : c.slots.size = vs.length := by rw [← e]; simp
  have e0 : (0 : Int32).toInt = 0 := rfl
  have e1 : j.toNatClampNeg = j.toInt.toNat := rfl
  refine ⟨?_, ?_⟩
  · rw [Int32.lt_iff_toInt_lt, e0, e1]; omega
  · rw [e1, ← Array.getElem?_toList, e]; exact hj
theorem lenV (K : Ok κ l Z n0 own nm bytes maxL ret rm Q) (hd : decode bytes pc = .ok (.arraylength, 1)) (A : Av Z h a k ty vs) (hr : Go κ h cells slots (pc + 1) Ls (.int (Int32.ofNat vs.length) :: st)) : Go κ h cells slots pc Ls (.ref a :: st) := by
  obtain ⟨c, A1, e1, e2, e3, e4⟩ := A
  exact arrLen K hd A1 (by rw [← e2]; simp) hr
theorem ialoadV (K : Ok κ l Z n0 own nm bytes maxL ret rm Q) (hd : decode bytes pc = .ok (.iaload, 1)) (A : Av Z h a k .int vs) (h0 : 0 ≤ j.toInt) (hj : vs[j.toInt.toNat]? = some v) (hr : Go κ h cells slots (pc + 1) Ls (v :: st)) : Go κ h cells slots pc Ls (.int j :: .ref a :: st) := by
  obtain ⟨c, A1, e1, e2, e3, e4⟩ := A
  obtain ⟨q1, q2⟩ := inV e2 h0 hj
  exact iaload K hd A1 q1 q2 hr
theorem laloadV (K : Ok κ l Z n0 own nm bytes maxL ret rm Q) (hd : decode bytes pc = .ok (.laload, 1)) (A : Av Z h a k .long vs) (h0 : 0 ≤ j.toInt) (hj : vs[j.toInt.toNat]? = some v) (hr : Go κ h cells slots (pc + 1) Ls (v :: st)) : Go κ h cells slots pc Ls (.int j :: .ref a :: st) := by
  obtain ⟨c, A1, e1, e2, e3, e4⟩ := A
  obtain ⟨q1, q2⟩ := inV e2 h0 hj
  exact laload K hd A1 q1 q2 hr
theorem caloadV (K : Ok κ l Z n0 own nm bytes maxL ret rm Q) (hd : decode bytes pc = .ok (.caload, 1)) (A : Av Z h a k .char vs) (h0 : 0 ≤ j.toInt) (hj : vs[j.toInt.toNat]? = some v) (hr : Go κ h cells slots (pc + 1) Ls (v :: st)) : Go κ h cells slots pc Ls (.int j :: .ref a :: st) := by
  obtain ⟨c, A1, e1, e2, e3, e4⟩ := A
  obtain ⟨q1, q2⟩ := inV e2 h0 hj
  exact caload K hd A1 q1 q2 hr
theorem baloadV (K : Ok κ l Z n0 own nm bytes maxL ret rm Q) (hd : decode bytes pc = .ok (.baload, 1)) (A : Av Z h a k .byte vs) (h0 : 0 ≤ j.toInt) (hj : vs[j.toInt.toNat]? = some v) (hr : Go κ h cells slots (pc + 1) Ls (v :: st)) : Go κ h cells slots pc Ls (.int j :: .ref a :: st) := by
  obtain ⟨c, A1, e1, e2, e3, e4⟩ := A
  obtain ⟨q1, q2⟩ := inV e2 h0 hj
  exact baload K hd A1 q1 q2 hr
theorem iastoreV {x : Int32} (K : Ok κ l Z n0 own nm bytes maxL ret rm Q) (hd : decode bytes pc = .ok (.iastore, 1)) (A : Av Z h a k .int vs) (h0 : 0 ≤ j.toInt) (hj : j.toInt < vs.length) (ge : n0 ≤ a)
    (hr : ∀ h', Wr h h' a j.toInt.toNat (.int x) → Av Z h' a k .int (vs.set j.toInt.toNat (.int x)) → Go κ h' cells slots (pc + 1) Ls st) : Go κ h cells slots pc Ls (.int x :: .int j :: .ref a :: st) := by
  obtain ⟨c, A1, e1, e2, e3, e4⟩ := A
  obtain ⟨w, hw⟩ : ∃ w, vs[j.toInt.toNat]? = some w := ⟨_, List.getElem?_eq_getElem (by omega)⟩
  obtain ⟨q1, q2⟩ := inV e2 h0 hw
  exact iastore K hd A1 q1 ge fun h' W => hr h' W (Av.set ⟨c, A1, e1, e2, e3, e4⟩ W rfl)
theorem lastoreV {x : Int64} (K : Ok κ l Z n0 own nm bytes maxL ret rm Q) (hd : decode bytes pc = .ok (.lastore, 1)) (A : Av Z h a k .long vs) (h0 : 0 ≤ j.toInt) (hj : j.toInt < vs.length) (ge : n0 ≤ a)
    (hr : ∀ h', Wr h h' a j.toInt.toNat (.long x) → Av Z h' a k .long (vs.set j.toInt.toNat (.long x)) → Go κ h' cells slots (pc + 1) Ls st) : Go κ h cells slots pc Ls (.long x :: .int j :: .ref a :: st) := by
  obtain ⟨c, A1, e1, e2, e3, e4⟩ := A
  obtain ⟨w, hw⟩ : ∃ w, vs[j.toInt.toNat]? = some w := ⟨_, List.getElem?_eq_getElem (by omega)⟩
  obtain ⟨q1, q2⟩ := inV e2 h0 hw
  exact lastore K hd A1 q1 ge fun h' W => hr h' W (Av.set ⟨c, A1, e1, e2, e3, e4⟩ W rfl)
theorem castoreV {x : Int32} (K : Ok κ l Z n0 own nm bytes maxL ret rm Q) (hd : decode bytes pc = .ok (.castore, 1)) (A : Av Z h a k .char vs) (h0 : 0 ≤ j.toInt) (hj : j.toInt < vs.length) (ge : n0 ≤ a)
    (hr : ∀ h', Wr h h' a j.toInt.toNat (.int (nar .char x)) → Av Z h' a k .char (vs.set j.toInt.toNat (.int (nar .char x))) → Go κ h' cells slots (pc + 1) Ls st) : Go κ h cells slots pc Ls (.int x :: .int j :: .ref a :: st) := by
  obtain ⟨c, A1, e1, e2, e3, e4⟩ := A
  obtain ⟨w, hw⟩ : ∃ w, vs[j.toInt.toNat]? = some w := ⟨_, List.getElem?_eq_getElem (by omega)⟩
  obtain ⟨q1, q2⟩ := inV e2 h0 hw
  exact castore K hd A1 q1 ge fun h' W => hr h' W (Av.set ⟨c, A1, e1, e2, e3, e4⟩ W (fits_nar_char x))
theorem bastoreV {x : Int32} (K : Ok κ l Z n0 own nm bytes maxL ret rm Q) (hd : decode bytes pc = .ok (.bastore, 1)) (A : Av Z h a k .byte vs) (h0 : 0 ≤ j.toInt) (hj : j.toInt < vs.length) (ge : n0 ≤ a)
    (hr : ∀ h', Wr h h' a j.toInt.toNat (.int x.toInt8.toInt32) → Av Z h' a k .byte (vs.set j.toInt.toNat (.int x.toInt8.toInt32)) → Go κ h' cells slots (pc + 1) Ls st) : Go κ h cells slots pc Ls (.int x :: .int j :: .ref a :: st) := by
  obtain ⟨c, A1, e1, e2, e3, e4⟩ := A
  obtain ⟨w, hw⟩ : ∃ w, vs[j.toInt.toNat]? = some w := ⟨_, List.getElem?_eq_getElem (by omega)⟩
  obtain ⟨q1, q2⟩ := inV e2 h0 hw
  exact bastore K hd A1 q1 ge fun h' W => hr h' W (Av.set ⟨c, A1, e1, e2, e3, e4⟩ W (fits_nar_byte x))
theorem aaloadV (K : Ok κ l Z n0 own nm bytes maxL ret rm Q) (hd : decode bytes pc = .ok (.aaload, 1)) (A : Av Z h a k ty vs) (hty : ty.isReference = true) (h0 : 0 ≤ j.toInt) (hj : vs[j.toInt.toNat]? = some v) (hr : Go κ h cells slots (pc + 1) Ls (v :: st)) : Go κ h cells slots pc Ls (.int j :: .ref a :: st) := by
  obtain ⟨c, A1, e1, e2, e3, e4⟩ := A
  obtain ⟨q1, q2⟩ := inV e2 h0 hj
  exact aaload K hd A1 hty q1 q2 hr
theorem aastoreV {C : String} {y : Addr} (K : Ok κ l Z n0 own nm bytes maxL ret rm Q) (hd : decode bytes pc = .ok (.aastore, 1)) (A : Av Z h a k ty vs) (O : Ovr Z k C) (I : Ins Z h y C true) (hty : ty.isReference = true) (h0 : 0 ≤ j.toInt) (hj : j.toInt < vs.length) (ge : n0 ≤ a)
    (hr : ∀ h', Wr h h' a j.toInt.toNat (.ref y) → Av Z h' a k ty (vs.set j.toInt.toNat (.ref y)) → Go κ h' cells slots (pc + 1) Ls st) : Go κ h cells slots pc Ls (.ref y :: .int j :: .ref a :: st) := by
  obtain ⟨c, A1, e1, e2, e3, e4⟩ := A
  obtain ⟨w, hw⟩ : ∃ w, vs[j.toInt.toNat]? = some w := ⟨_, List.getElem?_eq_getElem (by omega)⟩
  obtain ⟨q1, q2⟩ := inV e2 h0 hw
  refine aastore K hd A1 q1 hty (Sto.ofV A1 e1 O I) ge fun h' W => ?_
  exact hr h' W (Av.set ⟨c, A1, e1, e2, e3, e4⟩ W (by cases ty <;> first | (exact Bool.noConfusion hty) | rfl))
theorem newArrV {aty : ArrayType} {n : Int32} {cap : Nat} (K : Ok κ l Z n0 own nm bytes maxL ret rm Q) (hd : decode bytes pc = .ok (.newarray aty, 2)) (w : (Cond.arrayClass (newarray.typeOf aty)).before a0 Z = true) (hn : 0 ≤ n.toInt) (hcap : n.toInt ≤ cap) (hb8 : cap * 8 ≤ 536870912)
    (hc : cells + 1 ≤ rm.cells) (hl : slots + cap ≤ rm.slots)
    (hr : ∀ h' a k, a = h.size → n0 ≤ a → Ext h h' → Av Z h' a k (newarray.typeOf aty) (List.replicate n.toInt.toNat (defaultValue (newarray.typeOf aty))) → Exa Z h' a ("[" ++ (newarray.typeOf aty).toString) → Go κ h' (cells + 1) (slots + cap) (pc + 2) Ls (.ref a :: st)) : Go κ h cells slots pc Ls (.int n :: st) := by
  have e0 : (0 : Int32).toInt = 0 := rfl
  have e1 : n.toNatClampNeg = n.toInt.toNat := rfl
  refine newArr K hd w (by rw [Int32.lt_iff_toInt_lt, e0]; omega) (by rw [e1]; omega) hb8 rfl hc hl fun h' a cA q1 q2 q3 q4 q5 => ?_
  exact hr h' a cA q1 q2 q3 (Av.new q4 hn) q5
theorem anewArrV {C : String} {index : Nat} {n : Int32} {cap : Nat} (K : Ok κ l Z n0 own nm bytes maxL ret rm Q) (hd : decode bytes pc = .ok (.anewarray index, 3)) (w1 : (Cond.classLink own index C).before a0 Z = true) (w2 : (Cond.arrayOver (.object C)).before a0 Z = true) (hn : 0 ≤ n.toInt) (hcap : n.toInt ≤ cap) (hb8 : cap * 8 ≤ 536870912)
    (hc : cells + 1 ≤ rm.cells) (hl : slots + cap ≤ rm.slots)
    (hr : ∀ h' a k, a = h.size → n0 ≤ a → Ext h h' → Av Z h' a k (.object C) (List.replicate n.toInt.toNat .null) → Ovr Z k C → Go κ h' (cells + 1) (slots + cap) (pc + 3) Ls (.ref a :: st)) : Go κ h cells slots pc Ls (.int n :: st) := by
  have e0 : (0 : Int32).toInt = 0 := rfl
  have e1 : n.toNatClampNeg = n.toInt.toNat := rfl
  refine anewArr K hd w1 w2 (by rw [Int32.lt_iff_toInt_lt, e0]; omega) (by rw [e1]; omega) hb8 hc hl fun h' a cA q1 q2 q3 q4 q5 => ?_
  exact hr h' a cA q1 q2 q3 (Av.new q4 hn) q5
/-- System.arraycopy between two arrays of one primitive kind -/
theorem copyV {index : Nat} {b : Addr} {k' : ClassId} {us : List Value} {sp dp nn : Int32} {W : Nat} (K : Ok κ l Z n0 own nm bytes maxL ret rm Q) (hd : decode bytes pc = .ok (.invokestatic index, 3))
    (w1 : (Cond.methodLink own index Jvm.Stand.acN).before a0 Z = true) (w2 : (Cond.native Jvm.Stand.acN).before a0 Z = true) (w3 : (Cond.static Jvm.Stand.acN).before a0 Z = true) (w4 : (Cond.initialized "java/lang/System").before a0 Z = true)
    (A : Av Z h a k ty vs) (B : Av Z h b k' ty us) (hty : refKind ty = false) (h1 : 0 ≤ sp.toInt) (h2 : 0 ≤ dp.toInt) (h3 : 0 ≤ nn.toInt) (h4 : sp.toInt + nn.toInt ≤ vs.length) (h5 : dp.toInt + nn.toInt ≤ us.length) (ge : n0 ≤ b)
    (hsz : Ls.size = maxL) (hW : (st.map fun v => v.category).sum ≤ W) (hf : 1 ≤ rm.frames) (hlo : W + (nativeFrameWords "java/lang/System" "arraycopy" 5 + 11) ≤ rm.locals)
    (hr : ∀ h', Keep h h' [b] → Av Z h' b k' ty (us.take dp.toInt.toNat ++ (vs.drop sp.toInt.toNat).take nn.toInt.toNat ++ us.drop (dp.toInt.toNat + nn.toInt.toNat)) → Go κ h' cells slots (pc + 3) Ls st) :
    Go κ h cells slots pc Ls (.int nn :: .int dp :: .ref b :: .int sp :: .ref a :: st) := fun T locs vm0 X AD hZ N OB eT => by
  have e0 : (0 : Int32).toInt = 0 := rfl
  have eR := K.eR
  have lA := A.len
  have lB := B.len
  have sA : (Int32.ofNat vs.length).toInt = vs.length := len_toInt lA
  have sB : (Int32.ofNat us.length).toInt = us.length := len_toInt lB
  have hus : (vs.drop sp.toInt.toNat).take nn.toInt.toNat = (List.range nn.toNatClampNeg).map fun i => vs.getD (sp.toNatClampNeg + i) .null := by
    refine List.ext_getElem? fun i => ?_
    show _ = ((List.range nn.toInt.toNat).map fun i => vs.getD (sp.toInt.toNat + i) .null)[i]?
    rcases Nat.lt_or_ge i nn.toInt.toNat with hi | hi
    · rw [List.getElem?_take_of_lt hi, List.getElem?_drop, List.getElem?_map, List.getElem?_range hi, Option.map_some, List.getD_eq_getElem?_getD, List.getElem?_eq_getElem (by omega)]; rfl
    · rw [List.getElem?_eq_none (by rw [List.length_take, List.length_drop]; omega), List.getElem?_eq_none (by rw [List.length_map, List.length_range]; omega)]
  obtain ⟨T', h', L, X', e', N', KP, AV, st1⟩ := cpA X K.exec (K.warm hZ) (K.ko AD) w1 w2 w3 w4 eT (A.arv .null) (B.arv .null) (Or.inl ⟨rfl, hty⟩) (sp := sp) (dp := dp) (nn := nn) (by rw [Int32.lt_iff_toInt_lt, e0]; omega) (by rw [Int32.lt_iff_toInt_lt, e0]; omega) (by rw [Int32.lt_iff_toInt_lt, e0]; omega)
    (by show sp.toInt.toNat + nn.toInt.toNat ≤ (Int32.ofNat vs.length).toInt.toNat; omega) (by show dp.toInt.toNat + nn.toInt.toNat ≤ (Int32.ofNat us.length).toInt.toNat; omega) hus (by show dp.toInt.toNat + nn.toInt.toNat ≤ us.length; omega) N (by rw [K.en]; exact ge)
    (g := mkF κ.m pc Ls (.int nn :: .int dp :: .ref b :: .int sp :: .ref a :: st)) rfl (by rw [K.kl]; exact hsz) rfl (hb K.kb hd) (by rw [eR]; exact hf) (W0 hW) (by rw [eR]; exact hlo)
  have AV' : Av Z h' b k' ty (us.take dp.toInt.toNat ++ (vs.drop sp.toInt.toNat).take nn.toInt.toNat ++ us.drop (dp.toInt.toNat + nn.toInt.toNat)) := Av.of_arv AV (by simp only [List.length_append, List.length_take, List.length_drop]; omega)
  obtain ⟨s₂, o, hs, r⟩ := hr h' KP AV' T' L vm0 X' (AD.mono KP.1) hZ N' (OB.keep KP (allS (by rw [K.en]; exact ge) all0)) e'
  exact ⟨s₂, o, st1 _ hs, r⟩
end ALaws
end Jvm.OwnKit

namespace Jvm.OwnKit
open Sem ClassFile Op Lib Jvm.Stand Jvm.Free Jvm.LawKit Jvm.RoadKit
section DLaws
variable {κ : Cx} {t : FieldType} {l : Launch} {Z : State} {n0 : Nat} {own nm : String} {bytes : ByteArray} {maxL : Nat} {ret : Option FieldType} {rm : Room} {Q : Option Value → Heap → Prop} {h : Heap} {cells slots pc : Nat} {Ls : Array Slot} {st : List Value} {a0 : Array Value}
theorem dloadN {k : Fin 4} {v : UInt64} (K : Ok κ l Z n0 own nm bytes maxL ret rm Q) (hd : decode bytes pc = .ok (.dload_n k, 1)) (hl : Ls[k.val]? = some (.val (.double v))) (hr : Go κ h cells slots (pc + 1) Ls (.double v :: st)) : Go κ h cells slots pc Ls st := fun T locs vm0 X A hZ N B eT => by
  obtain ⟨s₂, o, hs, r⟩ := hr T locs vm0 X A hZ N B eT
  exact ⟨s₂, o, XS.dloadN X.here K.exec rfl (hb K.kb hd) hl hs, r⟩
theorem dconst0 {v : UInt64} (K : Ok κ l Z n0 own nm bytes maxL ret rm Q) (hd : decode bytes pc = .ok (.dconst 0, 1)) (hv : FP.dconst0 = v) (hr : Go κ h cells slots (pc + 1) Ls (.double v :: st)) : Go κ h cells slots pc Ls st := fun T locs vm0 X A hZ N B eT => by
  obtain ⟨s₂, o, hs, r⟩ := hr T locs vm0 X A hZ N B eT
  exact ⟨s₂, o, XS.dconst0 X.here K.exec rfl (hb K.kb hd) hv hs, r⟩
theorem i2d {x : Int32} {v : UInt64} (K : Ok κ l Z n0 own nm bytes maxL ret rm Q) (hd : decode bytes pc = .ok (.i2d, 1)) (hv : FP.i2d x = v) (hr : Go κ h cells slots (pc + 1) Ls (.double v :: st)) : Go κ h cells slots pc Ls (.int x :: st) := fun T locs vm0 X A hZ N B eT => by
  obtain ⟨s₂, o, hs, r⟩ := hr T locs vm0 X A hZ N B eT
  exact ⟨s₂, o, XS.i2dS X.here K.exec rfl (hb K.kb hd) rfl hv hs, r⟩
theorem dcmp {c : CmpOp} {x y : UInt64} {v : Int32} (K : Ok κ l Z n0 own nm bytes maxL ret rm Q) (hd : decode bytes pc = .ok (.dcmp c, 1)) (hv : cmpValue (FP.dcmp x y) c = v) (hr : Go κ h cells slots (pc + 1) Ls (.int v :: st)) : Go κ h cells slots pc Ls (.double y :: .double x :: st) := fun T locs vm0 X A hZ N B eT => by
  obtain ⟨s₂, o, hs, r⟩ := hr T locs vm0 X A hZ N B eT
  exact ⟨s₂, o, XS.dcmpS X.here K.exec rfl (hb K.kb hd) rfl hv hs, r⟩
theorem ldc2D {index : Nat} {v : UInt64} (K : Ok κ l Z n0 own nm bytes maxL ret rm Q) (hd : decode bytes pc = .ok (.ldc2_w index, 3)) (w : (Cond.constantDouble own index v).before a0 Z = true) (hr : Go κ h cells slots (pc + 3) Ls (.double v :: st)) : Go κ h cells slots pc Ls st := fun T locs vm0 X A hZ N B eT => by
  obtain ⟨s₂, o, hs, r⟩ := hr T locs vm0 X A hZ N B eT
  exact ⟨s₂, o, X.ldc2DoubleC K.exec (K.ko A) (mvT (K.warm hZ) w) (g := mkF κ.m pc Ls st) rfl (hb K.kb hd) _ hs, r⟩
end DLaws
end Jvm.OwnKit
namespace Jvm.Pilot.@@N@@
open Jvm Jvm.ClassFile Sem Op Lib Jvm.Free Jvm.Stand Jvm.LawKit Jvm.RoadKit Bundle Jvm.Pilot.@@N@@.Jvm.D
def QRec (h0 : Heap) (v : Option Value) (h : Heap) : Prop := v = none ∧ h0 = h
def QLoss (a : Addr) (h0 : Heap) (v : Option Value) (h : Heap) : Prop := v = none ∧ Keep h0 h [a]
def QML (Z : State) (a : Addr) (m : Int32) (e : Int64) (v : Option Value) (h : Heap) : Prop := v = none ∧ Exa Z h a "com/example/fair_throttle/fairthrottle/reporting/MeasuredLoss" ∧ Fld Z h a "com/example/fair_throttle/fairthrottle/reporting/MeasuredLoss" "measuring" "Z" (.int m) ∧ Fld Z h a "com/example/fair_throttle/fairthrottle/reporting/MeasuredLoss" "periodEndsAt" "J" (.long e)
def QHold (m : Int32) (e x : Int64) (h0 : Heap) (v : Option Value) (h : Heap) : Prop := (∃ z : Int32, v = some (.int z) ∧ ((¬ m = 0 ∧ (x - e).toInt < 0) ∧ z = 1 ∨ ¬ (¬ m = 0 ∧ (x - e).toInt < 0) ∧ z = 0)) ∧ h0 = h
def QLaw (v : Option Value) (h : Heap) : Prop := v = some (.int 1)
theorem own_r {p i : Int32} (h : (p &&& (2147483647 : Int32)) % (101 : Int32) = i) : 0 ≤ i.toInt ∧ i.toInt ≤ 100 := by
  have q := c_and p 2147483647 (by decide)
  have r := (c_irem (p &&& 2147483647) 101 101 (by decide)).1 (by omega)
  rw [h] at r
  omega
theorem own_zero : FP.dconst0 = FP.l2d 0 := by decide +kernel
theorem own_hund : (4636737291354636288 : UInt64) = FP.l2d 100 := by decide +kernel
theorem own_b {r : Int32} (h0 : 0 ≤ r.toInt) (h1 : r.toInt ≤ 100) : B53 r.toInt64 := by unfold B53; rw [c_i2l]; omega
theorem own_lo {r : Int32} (h0 : 0 ≤ r.toInt) (h1 : r.toInt ≤ 100) (o : CmpOp) : cmpValue (FP.dcmp (FP.i2d r) (FP.l2d 0)) o = lcmpW r.toInt64 0 := by rw [i2d_w]; exact dcmpV_w (own_b h0 h1) (by unfold B53; decide) o
theorem own_hi {r : Int32} (h0 : 0 ≤ r.toInt) (h1 : r.toInt ≤ 100) (o : CmpOp) : cmpValue (FP.dcmp (FP.i2d r) (FP.l2d 100)) o = lcmpW r.toInt64 100 := by rw [i2d_w]; exact dcmpV_w (own_b h0 h1) (by unfold B53; decide) o
theorem own_sub (a b : Int64) : a + b - a = b := by rw [Int64.add_comm, Int64.add_sub_cancel]

theorem d_jdk_30m1_0 : decode jdk_30_method_1_code 0 = .ok (.aload_n 0, 1) := by decide +kernel
theorem d_jdk_30m1_1 : decode jdk_30_method_1_code 1 = .ok (.invokespecial 1, 3) := by decide +kernel
theorem d_jdk_30m1_4 : decode jdk_30_method_1_code 4 = .ok (.return_, 1) := by decide +kernel
set_option maxRecDepth 65536 in
set_option maxHeartbeats 40000000 in
theorem c_rec (l : Launch) (Z : State) (a0 : Array Value) (hw : ∀ d ∈ tables_1, d.before a0 Z = true) (n0 : Nat) (h0 : Heap) (a : Addr)  :
    OwnKit.Con false l Z n0 (⟨"java/lang/Record", "<init>", "()V"⟩ : MethodName) jdk_30_method_1_code 1 none ({ frames := 1, cells := 0, slots := 0, locals := 12 } : Room) #[.ref a] h0 (QRec h0) := by
  refine OwnKit.Con.of (by first | (refine plainFor_of_name ?_; simp [plainName, overriddenIn]; done) | decide +kernel) ?_ ?_
  · intro κ hwd K0
    have K : OwnKit.Ok κ l Z n0 "java/lang/Record" "<init>" jdk_30_method_1_code 1 none ({ frames := 1, cells := 0, slots := 0, locals := 12 } : Room) (QRec h0) := K0
    have ef : (entryFrame κ.m #[.ref a] 1).locals = #[.val (.ref a)] := by first | (simp [entryFrame, argsToLocals, Value.category]; done) | rfl
    rw [ef]; clear ef K0
    show OwnKit.Go κ h0 0 0 0 #[.val (.ref a)] []
    refine OwnKit.aloadN K d_jdk_30m1_0 rfl rfl ?_
    show OwnKit.Go κ h0 0 0 1 #[.val (.ref a)] [.ref a]
    refine OwnKit.invO (W := 0) K d_jdk_30m1_1 (hw _ (List.mem_of_getElem? (i := 15) rfl)) (hw _ (List.mem_of_getElem? (i := 16) rfl)) (hw _ (List.mem_of_getElem? (i := 17) rfl)) rfl (Nat.le_of_ble_eq_true rfl) (Nat.le_of_ble_eq_true rfl) (Nat.le_of_ble_eq_true rfl) ?_
    show OwnKit.Go κ h0 0 0 4 #[.val (.ref a)] []
    refine OwnKit.return0 K d_jdk_30m1_4  ?_ (Nat.le_of_ble_eq_true rfl) (Nat.le_of_ble_eq_true rfl)
    exact ⟨rfl, rfl⟩
  · intro m; first | rfl | (simp [entryFrame, mkF, argsToLocals, Value.category]; done)

theorem d_prog_4m5_0 : decode prog_4_method_5_code 0 = .ok (.dload_n 0, 1) := by decide +kernel
theorem d_prog_4m5_1 : decode prog_4_method_5_code 1 = .ok (.dconst 0, 1) := by decide +kernel
theorem d_prog_4m5_2 : decode prog_4_method_5_code 2 = .ok (.dcmp .l, 1) := by decide +kernel
theorem d_prog_4m5_3 : decode prog_4_method_5_code 3 = .ok (.ifCond .lt 11, 3) := by decide +kernel
theorem d_prog_4m5_6 : decode prog_4_method_5_code 6 = .ok (.dload_n 0, 1) := by decide +kernel
theorem d_prog_4m5_7 : decode prog_4_method_5_code 7 = .ok (.ldc2_w 32, 3) := by decide +kernel
theorem d_prog_4m5_10 : decode prog_4_method_5_code 10 = .ok (.dcmp .g, 1) := by decide +kernel
theorem d_prog_4m5_11 : decode prog_4_method_5_code 11 = .ok (.ifCond .le 17, 3) := by decide +kernel
theorem d_prog_4m5_28 : decode prog_4_method_5_code 28 = .ok (.return_, 1) := by decide +kernel
set_option maxRecDepth 65536 in
set_option maxHeartbeats 40000000 in
theorem c_chk (l : Launch) (Z : State) (a0 : Array Value) (hw : ∀ d ∈ tables_1, d.before a0 Z = true) (n0 : Nat) (h0 : Heap) (r : Int32) (hr0 : 0 ≤ r.toInt) (hr1 : r.toInt ≤ 100)  :
    OwnKit.Con false l Z n0 (⟨"com/example/fair_throttle/fairthrottle/abatement/LossByPriority", "checkReduction", "(D)V"⟩ : MethodName) prog_4_method_5_code 2 none ({ frames := 0, cells := 0, slots := 0, locals := 0 } : Room) #[.double (FP.i2d r)] h0 (QRec h0) := by
  refine OwnKit.Con.of (by first | (refine plainFor_of_name ?_; simp [plainName, overriddenIn]; done) | decide +kernel) ?_ ?_
  · intro κ hwd K0
    have K : OwnKit.Ok κ l Z n0 "com/example/fair_throttle/fairthrottle/abatement/LossByPriority" "checkReduction" prog_4_method_5_code 2 none ({ frames := 0, cells := 0, slots := 0, locals := 0 } : Room) (QRec h0) := K0
    have ef : (entryFrame κ.m #[.double (FP.i2d r)] 2).locals = #[.val (.double (FP.i2d r)), .second] := by first | (simp [entryFrame, argsToLocals, Value.category]; done) | rfl
    rw [ef]; clear ef K0
    show OwnKit.Go κ h0 0 0 0 #[.val (.double (FP.i2d r)), .second] []
    refine OwnKit.dloadN K d_prog_4m5_0 rfl ?_
    show OwnKit.Go κ h0 0 0 1 #[.val (.double (FP.i2d r)), .second] [.double (FP.i2d r)]
    refine OwnKit.dconst0 K d_prog_4m5_1 own_zero ?_
    show OwnKit.Go κ h0 0 0 2 #[.val (.double (FP.i2d r)), .second] [.double (FP.l2d 0), .double (FP.i2d r)]
    refine OwnKit.dcmp K d_prog_4m5_2 (own_lo hr0 hr1 _) ?_
    show OwnKit.Go κ h0 0 0 3 #[.val (.double (FP.i2d r)), .second] [.int (lcmpW r.toInt64 0)]
    refine OwnKit.iflt K d_prog_4m5_3 (by decide) (pc' := 14) rfl  (fun b1 => ?_) (fun b1 => ?_)
    · exfalso
      have q := c_lcmp r.toInt64 0
      rw [c_i2l] at q
      have e0 : (0 : Int64).toInt = 0 := by decide
      omega
    · show OwnKit.Go κ h0 0 0 6 #[.val (.double (FP.i2d r)), .second] []
      refine OwnKit.dloadN K d_prog_4m5_6 rfl ?_
      show OwnKit.Go κ h0 0 0 7 #[.val (.double (FP.i2d r)), .second] [.double (FP.i2d r)]
      refine OwnKit.ldc2D K d_prog_4m5_7 (own_hund ▸ (hw _ (List.mem_of_getElem? (i := 22) rfl))) ?_
      show OwnKit.Go κ h0 0 0 10 #[.val (.double (FP.i2d r)), .second] [.double (FP.l2d 100), .double (FP.i2d r)]
      refine OwnKit.dcmp K d_prog_4m5_10 (own_hi hr0 hr1 _) ?_
      show OwnKit.Go κ h0 0 0 11 #[.val (.double (FP.i2d r)), .second] [.int (lcmpW r.toInt64 100)]
      refine OwnKit.ifle K d_prog_4m5_11 (by decide) (pc' := 28) rfl  (fun b2 => ?_) (fun b2 => ?_)
      · show OwnKit.Go κ h0 0 0 28 #[.val (.double (FP.i2d r)), .second] []
        refine OwnKit.return0 K d_prog_4m5_28  ?_ (Nat.le_of_ble_eq_true rfl) (Nat.le_of_ble_eq_true rfl)
        exact ⟨rfl, rfl⟩
      · exfalso
        have q := c_lcmp r.toInt64 100
        rw [c_i2l] at q
        have e0 : (100 : Int64).toInt = 100 := by decide
        omega
  · intro m; first | rfl | (simp [entryFrame, mkF, argsToLocals, Value.category]; done)

theorem d_prog_122m1_0 : decode prog_122_method_1_code 0 = .ok (.aload_n 0, 1) := by decide +kernel
theorem d_prog_122m1_1 : decode prog_122_method_1_code 1 = .ok (.invokespecial 1, 3) := by decide +kernel
theorem d_prog_122m1_4 : decode prog_122_method_1_code 4 = .ok (.iload_n 1, 1) := by decide +kernel
theorem d_prog_122m1_5 : decode prog_122_method_1_code 5 = .ok (.i2d, 1) := by decide +kernel
theorem d_prog_122m1_6 : decode prog_122_method_1_code 6 = .ok (.invokestatic 7, 3) := by decide +kernel
theorem d_prog_122m1_9 : decode prog_122_method_1_code 9 = .ok (.aload_n 0, 1) := by decide +kernel
theorem d_prog_122m1_10 : decode prog_122_method_1_code 10 = .ok (.iload_n 1, 1) := by decide +kernel
theorem d_prog_122m1_11 : decode prog_122_method_1_code 11 = .ok (.putfield 13, 3) := by decide +kernel
theorem d_prog_122m1_14 : decode prog_122_method_1_code 14 = .ok (.return_, 1) := by decide +kernel
set_option maxRecDepth 65536 in
set_option maxHeartbeats 40000000 in
theorem c_loss (l : Launch) (Z : State) (a0 : Array Value) (hw : ∀ d ∈ tables_1, d.before a0 Z = true) (n0 : Nat) (h0 : Heap) (a : Addr) (r : Int32) (hr0 : 0 ≤ r.toInt) (hr1 : r.toInt ≤ 100) (E_a : Exa Z h0 a "com/example/fair_throttle/fairthrottle/reports/Algorithm$Loss") (G_a : n0 ≤ a) (F_a_reductionPercent : Fld Z h0 a "com/example/fair_throttle/fairthrottle/reports/Algorithm$Loss" "reductionPercent" "I" (.int (0 : Int32))) :
    OwnKit.Con false l Z n0 (⟨"com/example/fair_throttle/fairthrottle/reports/Algorithm$Loss", "<init>", "(I)V"⟩ : MethodName) prog_122_method_1_code 2 none ({ frames := 2, cells := 0, slots := 0, locals := 24 } : Room) #[.ref a, .int r] h0 (QLoss a h0) := by
  refine OwnKit.Con.of (by first | (refine plainFor_of_name ?_; simp [plainName, overriddenIn]; done) | decide +kernel) ?_ ?_
  · intro κ hwd K0
    have K : OwnKit.Ok κ l Z n0 "com/example/fair_throttle/fairthrottle/reports/Algorithm$Loss" "<init>" prog_122_method_1_code 2 none ({ frames := 2, cells := 0, slots := 0, locals := 24 } : Room) (QLoss a h0) := K0
    have ef : (entryFrame κ.m #[.ref a, .int r] 2).locals = #[.val (.ref a), .val (.int r)] := by first | (simp [entryFrame, argsToLocals, Value.category]; done) | rfl
    rw [ef]; clear ef K0
    have K0 := Keep.refl h0 [a]
    show OwnKit.Go κ h0 0 0 0 #[.val (.ref a), .val (.int r)] []
    refine OwnKit.aloadN K d_prog_122m1_0 rfl rfl ?_
    show OwnKit.Go κ h0 0 0 1 #[.val (.ref a), .val (.int r)] [.ref a]
    refine OwnKit.invC (y := (⟨"java/lang/Record", "<init>", "()V"⟩ : MethodName)) (argsL := []) (rest := []) K (c_rec l Z a0 hw n0 h0 a) d_prog_122m1_1 rfl (hw _ (List.mem_of_getElem? (i := 10) rfl)) (hw _ (List.mem_of_getElem? (i := 11) rfl)) (hw _ (List.mem_of_getElem? (i := 14) rfl)) (hw _ (List.mem_of_getElem? (i := 13) rfl)) (by decide) (lenOf (by decide +kernel : parseMethodDescriptor "()V" = some ⟨[], none⟩) rfl) rfl rfl (W := 0) (Nat.le_of_ble_eq_true rfl) (Nat.le_of_ble_eq_true rfl) (Nat.le_of_ble_eq_true rfl) (Nat.le_of_ble_eq_true rfl) (Nat.le_of_ble_eq_true rfl) ?_
    rintro _ h1 ⟨rfl, rfl⟩ g2
    show OwnKit.Go κ h0 0 0 4 #[.val (.ref a), .val (.int r)] []
    refine OwnKit.iloadN K d_prog_122m1_4 rfl ?_
    show OwnKit.Go κ h0 0 0 5 #[.val (.ref a), .val (.int r)] [.int r]
    refine OwnKit.i2d K d_prog_122m1_5 rfl ?_
    show OwnKit.Go κ h0 0 0 6 #[.val (.ref a), .val (.int r)] [.double (FP.i2d r)]
    refine OwnKit.invS (y := (⟨"com/example/fair_throttle/fairthrottle/abatement/LossByPriority", "checkReduction", "(D)V"⟩ : MethodName)) (argsL := [.double (FP.i2d r)]) (rest := []) K (c_chk l Z a0 hw n0 h0 r hr0 hr1) d_prog_122m1_6 (hw _ (List.mem_of_getElem? (i := 18) rfl)) (hw _ (List.mem_of_getElem? (i := 19) rfl)) (hw _ (List.mem_of_getElem? (i := 20) rfl)) (hw _ (List.mem_of_getElem? (i := 21) rfl)) (by decide) (lenOf (by decide +kernel : parseMethodDescriptor "(D)V" = some ⟨[.double], none⟩) rfl) rfl rfl (W := 0) (Nat.le_of_ble_eq_true rfl) (Nat.le_of_ble_eq_true rfl) (Nat.le_of_ble_eq_true rfl) (Nat.le_of_ble_eq_true rfl) (Nat.le_of_ble_eq_true rfl) ?_
    rintro _ h3 ⟨rfl, rfl⟩ g4
    show OwnKit.Go κ h0 0 0 9 #[.val (.ref a), .val (.int r)] []
    refine OwnKit.aloadN K d_prog_122m1_9 rfl rfl ?_
    show OwnKit.Go κ h0 0 0 10 #[.val (.ref a), .val (.int r)] [.ref a]
    refine OwnKit.iloadN K d_prog_122m1_10 rfl ?_
    show OwnKit.Go κ h0 0 0 11 #[.val (.ref a), .val (.int r)] [.int r, .ref a]
    refine OwnKit.putfield K d_prog_122m1_11 (host := "") (Or.inl (hw _ (List.mem_of_getElem? (i := 23) rfl))) Via.refl F_a_reductionPercent E_a (Or.inr ⟨(hw _ (List.mem_of_getElem? (i := 24) rfl)), rfl, rfl⟩) (hw _ (List.mem_of_getElem? (i := 5) rfl)) (show parseFieldDescriptor "I" = some (.int) from by decide +kernel) rfl rfl G_a ?_
    intro h5 W6
    have E7 := E_a.wr W6
    have F8 := Fld.same W6 F_a_reductionPercent
    have K9 := K0.wr W6 (Or.inl (by simp))
    show OwnKit.Go κ h5 0 0 14 #[.val (.ref a), .val (.int r)] []
    refine OwnKit.return0 K d_prog_122m1_14  ?_ (Nat.le_of_ble_eq_true rfl) (Nat.le_of_ble_eq_true rfl)
    exact ⟨rfl, K9⟩
  · intro m; first | rfl | (simp [entryFrame, mkF, argsToLocals, Value.category]; done)

theorem d_prog_103m1_0 : decode prog_103_method_1_code 0 = .ok (.aload_n 0, 1) := by decide +kernel
theorem d_prog_103m1_1 : decode prog_103_method_1_code 1 = .ok (.invokespecial 1, 3) := by decide +kernel
theorem d_prog_103m1_4 : decode prog_103_method_1_code 4 = .ok (.aload_n 0, 1) := by decide +kernel
theorem d_prog_103m1_5 : decode prog_103_method_1_code 5 = .ok (.lload_n 1, 1) := by decide +kernel
theorem d_prog_103m1_6 : decode prog_103_method_1_code 6 = .ok (.putfield 7, 3) := by decide +kernel
theorem d_prog_103m1_9 : decode prog_103_method_1_code 9 = .ok (.aload_n 0, 1) := by decide +kernel
theorem d_prog_103m1_10 : decode prog_103_method_1_code 10 = .ok (.aload_n 3, 1) := by decide +kernel
theorem d_prog_103m1_11 : decode prog_103_method_1_code 11 = .ok (.putfield 13, 3) := by decide +kernel
theorem d_prog_103m1_14 : decode prog_103_method_1_code 14 = .ok (.aload_n 0, 1) := by decide +kernel
theorem d_prog_103m1_15 : decode prog_103_method_1_code 15 = .ok (.lload 4, 2) := by decide +kernel
theorem d_prog_103m1_17 : decode prog_103_method_1_code 17 = .ok (.putfield 17, 3) := by decide +kernel
theorem d_prog_103m1_20 : decode prog_103_method_1_code 20 = .ok (.aload_n 0, 1) := by decide +kernel
theorem d_prog_103m1_21 : decode prog_103_method_1_code 21 = .ok (.iload 6, 2) := by decide +kernel
theorem d_prog_103m1_23 : decode prog_103_method_1_code 23 = .ok (.putfield 20, 3) := by decide +kernel
theorem d_prog_103m1_26 : decode prog_103_method_1_code 26 = .ok (.aload_n 0, 1) := by decide +kernel
theorem d_prog_103m1_27 : decode prog_103_method_1_code 27 = .ok (.lload 7, 2) := by decide +kernel
theorem d_prog_103m1_29 : decode prog_103_method_1_code 29 = .ok (.putfield 24, 3) := by decide +kernel
theorem d_prog_103m1_32 : decode prog_103_method_1_code 32 = .ok (.aload_n 0, 1) := by decide +kernel
theorem d_prog_103m1_33 : decode prog_103_method_1_code 33 = .ok (.lload 9, 2) := by decide +kernel
theorem d_prog_103m1_35 : decode prog_103_method_1_code 35 = .ok (.putfield 27, 3) := by decide +kernel
theorem d_prog_103m1_38 : decode prog_103_method_1_code 38 = .ok (.return_, 1) := by decide +kernel
set_option maxRecDepth 65536 in
set_option maxHeartbeats 40000000 in
theorem c_ml (l : Launch) (Z : State) (a0 : Array Value) (hw : ∀ d ∈ tables_1, d.before a0 Z = true) (n0 : Nat) (h0 : Heap) (a b : Addr) (sh sq e c : Int64) (m : Int32) (hm : m = 0 ∨ m = 1) (E_a : Exa Z h0 a "com/example/fair_throttle/fairthrottle/reporting/MeasuredLoss") (G_a : n0 ≤ a) (F_a_combinedShare : Fld Z h0 a "com/example/fair_throttle/fairthrottle/reporting/MeasuredLoss" "combinedShare" "J" (.long (0 : Int64))) (F_a_loss : Fld Z h0 a "com/example/fair_throttle/fairthrottle/reporting/MeasuredLoss" "loss" "Lcom/example/fair_throttle/fairthrottle/reports/Algorithm$Loss;" (.null)) (F_a_sequenceNumber : Fld Z h0 a "com/example/fair_throttle/fairthrottle/reporting/MeasuredLoss" "sequenceNumber" "J" (.long (0 : Int64))) (F_a_measuring : Fld Z h0 a "com/example/fair_throttle/fairthrottle/reporting/MeasuredLoss" "measuring" "Z" (.int (0 : Int32))) (F_a_periodEndsAt : Fld Z h0 a "com/example/fair_throttle/fairthrottle/reporting/MeasuredLoss" "periodEndsAt" "J" (.long (0 : Int64))) (F_a_countedBefore : Fld Z h0 a "com/example/fair_throttle/fairthrottle/reporting/MeasuredLoss" "countedBefore" "J" (.long (0 : Int64))) :
    OwnKit.Con false l Z n0 (⟨"com/example/fair_throttle/fairthrottle/reporting/MeasuredLoss", "<init>", "(JLcom/example/fair_throttle/fairthrottle/reports/Algorithm$Loss;JZJJ)V"⟩ : MethodName) prog_103_method_1_code 11 none ({ frames := 2, cells := 0, slots := 0, locals := 24 } : Room) #[.ref a, .long sh, .ref b, .long sq, .int m, .long e, .long c] h0 (QML Z a m e) := by
  refine OwnKit.Con.of (by first | (refine plainFor_of_name ?_; simp [plainName, overriddenIn]; done) | decide +kernel) ?_ ?_
  · intro κ hwd K0
    have K : OwnKit.Ok κ l Z n0 "com/example/fair_throttle/fairthrottle/reporting/MeasuredLoss" "<init>" prog_103_method_1_code 11 none ({ frames := 2, cells := 0, slots := 0, locals := 24 } : Room) (QML Z a m e) := K0
    have ef : (entryFrame κ.m #[.ref a, .long sh, .ref b, .long sq, .int m, .long e, .long c] 11).locals = #[.val (.ref a), .val (.long sh), .second, .val (.ref b), .val (.long sq), .second, .val (.int m), .val (.long e), .second, .val (.long c), .second] := by first | (simp [entryFrame, argsToLocals, Value.category]; done) | rfl
    rw [ef]; clear ef K0
    show OwnKit.Go κ h0 0 0 0 #[.val (.ref a), .val (.long sh), .second, .val (.ref b), .val (.long sq), .second, .val (.int m), .val (.long e), .second, .val (.long c), .second] []
    refine OwnKit.aloadN K d_prog_103m1_0 rfl rfl ?_
    show OwnKit.Go κ h0 0 0 1 #[.val (.ref a), .val (.long sh), .second, .val (.ref b), .val (.long sq), .second, .val (.int m), .val (.long e), .second, .val (.long c), .second] [.ref a]
    refine OwnKit.invC (y := (⟨"java/lang/Record", "<init>", "()V"⟩ : MethodName)) (argsL := []) (rest := []) K (c_rec l Z a0 hw n0 h0 a) d_prog_103m1_1 rfl (hw _ (List.mem_of_getElem? (i := 28) rfl)) (hw _ (List.mem_of_getElem? (i := 11) rfl)) (hw _ (List.mem_of_getElem? (i := 14) rfl)) (hw _ (List.mem_of_getElem? (i := 13) rfl)) (by decide) (lenOf (by decide +kernel : parseMethodDescriptor "()V" = some ⟨[], none⟩) rfl) rfl rfl (W := 0) (Nat.le_of_ble_eq_true rfl) (Nat.le_of_ble_eq_true rfl) (Nat.le_of_ble_eq_true rfl) (Nat.le_of_ble_eq_true rfl) (Nat.le_of_ble_eq_true rfl) ?_
    rintro _ h1 ⟨rfl, rfl⟩ g2
    show OwnKit.Go κ h0 0 0 4 #[.val (.ref a), .val (.long sh), .second, .val (.ref b), .val (.long sq), .second, .val (.int m), .val (.long e), .second, .val (.long c), .second] []
    refine OwnKit.aloadN K d_prog_103m1_4 rfl rfl ?_
    show OwnKit.Go κ h0 0 0 5 #[.val (.ref a), .val (.long sh), .second, .val (.ref b), .val (.long sq), .second, .val (.int m), .val (.long e), .second, .val (.long c), .second] [.ref a]
    refine OwnKit.lloadN K d_prog_103m1_5 rfl ?_
    show OwnKit.Go κ h0 0 0 6 #[.val (.ref a), .val (.long sh), .second, .val (.ref b), .val (.long sq), .second, .val (.int m), .val (.long e), .second, .val (.long c), .second] [.long sh, .ref a]
    refine OwnKit.putfield K d_prog_103m1_6 (host := "") (Or.inl (hw _ (List.mem_of_getElem? (i := 29) rfl))) Via.refl F_a_combinedShare E_a (Or.inr ⟨(hw _ (List.mem_of_getElem? (i := 30) rfl)), rfl, rfl⟩) (hw _ (List.mem_of_getElem? (i := 2) rfl)) (show parseFieldDescriptor "J" = some (.long) from by decide +kernel) rfl rfl G_a ?_
    intro h3 W4
    have E5 := E_a.wr W4
    have F6 := Fld.same W4 F_a_combinedShare
    have F7 := Fld.other W4 F_a_loss (Or.inr (RoadKit.slot_ne (t := (.object "com/example/fair_throttle/fairthrottle/reports/Algorithm$Loss")) (t' := .long) (Or.inr (hw _ (List.mem_of_getElem? (i := 32) rfl))) (Or.inr (hw _ (List.mem_of_getElem? (i := 30) rfl))) (by decide) (by decide +kernel) (by decide +kernel)))
    have F8 := Fld.other W4 F_a_sequenceNumber (Or.inr (RoadKit.slot_ne (t := .long) (t' := .long) (Or.inr (hw _ (List.mem_of_getElem? (i := 34) rfl))) (Or.inr (hw _ (List.mem_of_getElem? (i := 30) rfl))) (by decide) (by decide +kernel) (by decide +kernel)))
    have F9 := Fld.other W4 F_a_measuring (Or.inr (RoadKit.slot_ne (t := .boolean) (t' := .long) (Or.inr (hw _ (List.mem_of_getElem? (i := 36) rfl))) (Or.inr (hw _ (List.mem_of_getElem? (i := 30) rfl))) (by decide) (by decide +kernel) (by decide +kernel)))
    have F10 := Fld.other W4 F_a_periodEndsAt (Or.inr (RoadKit.slot_ne (t := .long) (t' := .long) (Or.inr (hw _ (List.mem_of_getElem? (i := 38) rfl))) (Or.inr (hw _ (List.mem_of_getElem? (i := 30) rfl))) (by decide) (by decide +kernel) (by decide +kernel)))
    have F11 := Fld.other W4 F_a_countedBefore (Or.inr (RoadKit.slot_ne (t := .long) (t' := .long) (Or.inr (hw _ (List.mem_of_getElem? (i := 40) rfl))) (Or.inr (hw _ (List.mem_of_getElem? (i := 30) rfl))) (by decide) (by decide +kernel) (by decide +kernel)))
    show OwnKit.Go κ h3 0 0 9 #[.val (.ref a), .val (.long sh), .second, .val (.ref b), .val (.long sq), .second, .val (.int m), .val (.long e), .second, .val (.long c), .second] []
    refine OwnKit.aloadN K d_prog_103m1_9 rfl rfl ?_
    show OwnKit.Go κ h3 0 0 10 #[.val (.ref a), .val (.long sh), .second, .val (.ref b), .val (.long sq), .second, .val (.int m), .val (.long e), .second, .val (.long c), .second] [.ref a]
    refine OwnKit.aloadN K d_prog_103m1_10 rfl rfl ?_
    show OwnKit.Go κ h3 0 0 11 #[.val (.ref a), .val (.long sh), .second, .val (.ref b), .val (.long sq), .second, .val (.int m), .val (.long e), .second, .val (.long c), .second] [.ref b, .ref a]
    refine OwnKit.putfield K d_prog_103m1_11 (host := "") (Or.inl (hw _ (List.mem_of_getElem? (i := 31) rfl))) Via.refl F7 E5 (Or.inr ⟨(hw _ (List.mem_of_getElem? (i := 32) rfl)), rfl, rfl⟩) (hw _ (List.mem_of_getElem? (i := 2) rfl)) (show parseFieldDescriptor "Lcom/example/fair_throttle/fairthrottle/reports/Algorithm$Loss;" = some ((.object "com/example/fair_throttle/fairthrottle/reports/Algorithm$Loss")) from by decide +kernel) rfl rfl G_a ?_
    intro h12 W13
    have E14 := E5.wr W13
    have F15 := Fld.other W13 F6 (Or.inr (RoadKit.slot_ne (t := .long) (t' := (.object "com/example/fair_throttle/fairthrottle/reports/Algorithm$Loss")) (Or.inr (hw _ (List.mem_of_getElem? (i := 30) rfl))) (Or.inr (hw _ (List.mem_of_getElem? (i := 32) rfl))) (by decide) (by decide +kernel) (by decide +kernel)))
    have F16 := Fld.same W13 F7
    have F17 := Fld.other W13 F8 (Or.inr (RoadKit.slot_ne (t := .long) (t' := (.object "com/example/fair_throttle/fairthrottle/reports/Algorithm$Loss")) (Or.inr (hw _ (List.mem_of_getElem? (i := 34) rfl))) (Or.inr (hw _ (List.mem_of_getElem? (i := 32) rfl))) (by decide) (by decide +kernel) (by decide +kernel)))
    have F18 := Fld.other W13 F9 (Or.inr (RoadKit.slot_ne (t := .boolean) (t' := (.object "com/example/fair_throttle/fairthrottle/reports/Algorithm$Loss")) (Or.inr (hw _ (List.mem_of_getElem? (i := 36) rfl))) (Or.inr (hw _ (List.mem_of_getElem? (i := 32) rfl))) (by decide) (by decide +kernel) (by decide +kernel)))
    have F19 := Fld.other W13 F10 (Or.inr (RoadKit.slot_ne (t := .long) (t' := (.object "com/example/fair_throttle/fairthrottle/reports/Algorithm$Loss")) (Or.inr (hw _ (List.mem_of_getElem? (i := 38) rfl))) (Or.inr (hw _ (List.mem_of_getElem? (i := 32) rfl))) (by decide) (by decide +kernel) (by decide +kernel)))
    have F20 := Fld.other W13 F11 (Or.inr (RoadKit.slot_ne (t := .long) (t' := (.object "com/example/fair_throttle/fairthrottle/reports/Algorithm$Loss")) (Or.inr (hw _ (List.mem_of_getElem? (i := 40) rfl))) (Or.inr (hw _ (List.mem_of_getElem? (i := 32) rfl))) (by decide) (by decide +kernel) (by decide +kernel)))
    show OwnKit.Go κ h12 0 0 14 #[.val (.ref a), .val (.long sh), .second, .val (.ref b), .val (.long sq), .second, .val (.int m), .val (.long e), .second, .val (.long c), .second] []
    refine OwnKit.aloadN K d_prog_103m1_14 rfl rfl ?_
    show OwnKit.Go κ h12 0 0 15 #[.val (.ref a), .val (.long sh), .second, .val (.ref b), .val (.long sq), .second, .val (.int m), .val (.long e), .second, .val (.long c), .second] [.ref a]
    refine OwnKit.lload K d_prog_103m1_15 rfl ?_
    show OwnKit.Go κ h12 0 0 17 #[.val (.ref a), .val (.long sh), .second, .val (.ref b), .val (.long sq), .second, .val (.int m), .val (.long e), .second, .val (.long c), .second] [.long sq, .ref a]
    refine OwnKit.putfield K d_prog_103m1_17 (host := "") (Or.inl (hw _ (List.mem_of_getElem? (i := 33) rfl))) Via.refl F17 E14 (Or.inr ⟨(hw _ (List.mem_of_getElem? (i := 34) rfl)), rfl, rfl⟩) (hw _ (List.mem_of_getElem? (i := 2) rfl)) (show parseFieldDescriptor "J" = some (.long) from by decide +kernel) rfl rfl G_a ?_
    intro h21 W22
    have E23 := E14.wr W22
    have F24 := Fld.other W22 F15 (Or.inr (RoadKit.slot_ne (t := .long) (t' := .long) (Or.inr (hw _ (List.mem_of_getElem? (i := 30) rfl))) (Or.inr (hw _ (List.mem_of_getElem? (i := 34) rfl))) (by decide) (by decide +kernel) (by decide +kernel)))
    have F25 := Fld.other W22 F16 (Or.inr (RoadKit.slot_ne (t := (.object "com/example/fair_throttle/fairthrottle/reports/Algorithm$Loss")) (t' := .long) (Or.inr (hw _ (List.mem_of_getElem? (i := 32) rfl))) (Or.inr (hw _ (List.mem_of_getElem? (i := 34) rfl))) (by decide) (by decide +kernel) (by decide +kernel)))
    have F26 := Fld.same W22 F17
    have F27 := Fld.other W22 F18 (Or.inr (RoadKit.slot_ne (t := .boolean) (t' := .long) (Or.inr (hw _ (List.mem_of_getElem? (i := 36) rfl))) (Or.inr (hw _ (List.mem_of_getElem? (i := 34) rfl))) (by decide) (by decide +kernel) (by decide +kernel)))
    have F28 := Fld.other W22 F19 (Or.inr (RoadKit.slot_ne (t := .long) (t' := .long) (Or.inr (hw _ (List.mem_of_getElem? (i := 38) rfl))) (Or.inr (hw _ (List.mem_of_getElem? (i := 34) rfl))) (by decide) (by decide +kernel) (by decide +kernel)))
    have F29 := Fld.other W22 F20 (Or.inr (RoadKit.slot_ne (t := .long) (t' := .long) (Or.inr (hw _ (List.mem_of_getElem? (i := 40) rfl))) (Or.inr (hw _ (List.mem_of_getElem? (i := 34) rfl))) (by decide) (by decide +kernel) (by decide +kernel)))
    show OwnKit.Go κ h21 0 0 20 #[.val (.ref a), .val (.long sh), .second, .val (.ref b), .val (.long sq), .second, .val (.int m), .val (.long e), .second, .val (.long c), .second] []
    refine OwnKit.aloadN K d_prog_103m1_20 rfl rfl ?_
    show OwnKit.Go κ h21 0 0 21 #[.val (.ref a), .val (.long sh), .second, .val (.ref b), .val (.long sq), .second, .val (.int m), .val (.long e), .second, .val (.long c), .second] [.ref a]
    refine OwnKit.iload K d_prog_103m1_21 rfl ?_
    show OwnKit.Go κ h21 0 0 23 #[.val (.ref a), .val (.long sh), .second, .val (.ref b), .val (.long sq), .second, .val (.int m), .val (.long e), .second, .val (.long c), .second] [.int m, .ref a]
    refine OwnKit.putfield K d_prog_103m1_23 (host := "") (Or.inl (hw _ (List.mem_of_getElem? (i := 35) rfl))) Via.refl F27 E23 (Or.inr ⟨(hw _ (List.mem_of_getElem? (i := 36) rfl)), rfl, rfl⟩) (hw _ (List.mem_of_getElem? (i := 2) rfl)) (show parseFieldDescriptor "Z" = some (.boolean) from by decide +kernel) (by rcases hm with rfl | rfl <;> rfl) (by rcases hm with rfl | rfl <;> rfl) G_a ?_
    intro h30 W31
    have E32 := E23.wr W31
    have F33 := Fld.other W31 F24 (Or.inr (RoadKit.slot_ne (t := .long) (t' := .boolean) (Or.inr (hw _ (List.mem_of_getElem? (i := 30) rfl))) (Or.inr (hw _ (List.mem_of_getElem? (i := 36) rfl))) (by decide) (by decide +kernel) (by decide +kernel)))
    have F34 := Fld.other W31 F25 (Or.inr (RoadKit.slot_ne (t := (.object "com/example/fair_throttle/fairthrottle/reports/Algorithm$Loss")) (t' := .boolean) (Or.inr (hw _ (List.mem_of_getElem? (i := 32) rfl))) (Or.inr (hw _ (List.mem_of_getElem? (i := 36) rfl))) (by decide) (by decide +kernel) (by decide +kernel)))
    have F35 := Fld.other W31 F26 (Or.inr (RoadKit.slot_ne (t := .long) (t' := .boolean) (Or.inr (hw _ (List.mem_of_getElem? (i := 34) rfl))) (Or.inr (hw _ (List.mem_of_getElem? (i := 36) rfl))) (by decide) (by decide +kernel) (by decide +kernel)))
    have F36 := Fld.same W31 F27
    have F37 := Fld.other W31 F28 (Or.inr (RoadKit.slot_ne (t := .long) (t' := .boolean) (Or.inr (hw _ (List.mem_of_getElem? (i := 38) rfl))) (Or.inr (hw _ (List.mem_of_getElem? (i := 36) rfl))) (by decide) (by decide +kernel) (by decide +kernel)))
    have F38 := Fld.other W31 F29 (Or.inr (RoadKit.slot_ne (t := .long) (t' := .boolean) (Or.inr (hw _ (List.mem_of_getElem? (i := 40) rfl))) (Or.inr (hw _ (List.mem_of_getElem? (i := 36) rfl))) (by decide) (by decide +kernel) (by decide +kernel)))
    show OwnKit.Go κ h30 0 0 26 #[.val (.ref a), .val (.long sh), .second, .val (.ref b), .val (.long sq), .second, .val (.int m), .val (.long e), .second, .val (.long c), .second] []
    refine OwnKit.aloadN K d_prog_103m1_26 rfl rfl ?_
    show OwnKit.Go κ h30 0 0 27 #[.val (.ref a), .val (.long sh), .second, .val (.ref b), .val (.long sq), .second, .val (.int m), .val (.long e), .second, .val (.long c), .second] [.ref a]
    refine OwnKit.lload K d_prog_103m1_27 rfl ?_
    show OwnKit.Go κ h30 0 0 29 #[.val (.ref a), .val (.long sh), .second, .val (.ref b), .val (.long sq), .second, .val (.int m), .val (.long e), .second, .val (.long c), .second] [.long e, .ref a]
    refine OwnKit.putfield K d_prog_103m1_29 (host := "") (Or.inl (hw _ (List.mem_of_getElem? (i := 37) rfl))) Via.refl F37 E32 (Or.inr ⟨(hw _ (List.mem_of_getElem? (i := 38) rfl)), rfl, rfl⟩) (hw _ (List.mem_of_getElem? (i := 2) rfl)) (show parseFieldDescriptor "J" = some (.long) from by decide +kernel) rfl rfl G_a ?_
    intro h39 W40
    have E41 := E32.wr W40
    have F42 := Fld.other W40 F33 (Or.inr (RoadKit.slot_ne (t := .long) (t' := .long) (Or.inr (hw _ (List.mem_of_getElem? (i := 30) rfl))) (Or.inr (hw _ (List.mem_of_getElem? (i := 38) rfl))) (by decide) (by decide +kernel) (by decide +kernel)))
    have F43 := Fld.other W40 F34 (Or.inr (RoadKit.slot_ne (t := (.object "com/example/fair_throttle/fairthrottle/reports/Algorithm$Loss")) (t' := .long) (Or.inr (hw _ (List.mem_of_getElem? (i := 32) rfl))) (Or.inr (hw _ (List.mem_of_getElem? (i := 38) rfl))) (by decide) (by decide +kernel) (by decide +kernel)))
    have F44 := Fld.other W40 F35 (Or.inr (RoadKit.slot_ne (t := .long) (t' := .long) (Or.inr (hw _ (List.mem_of_getElem? (i := 34) rfl))) (Or.inr (hw _ (List.mem_of_getElem? (i := 38) rfl))) (by decide) (by decide +kernel) (by decide +kernel)))
    have F45 := Fld.other W40 F36 (Or.inr (RoadKit.slot_ne (t := .boolean) (t' := .long) (Or.inr (hw _ (List.mem_of_getElem? (i := 36) rfl))) (Or.inr (hw _ (List.mem_of_getElem? (i := 38) rfl))) (by decide) (by decide +kernel) (by decide +kernel)))
    have F46 := Fld.same W40 F37
    have F47 := Fld.other W40 F38 (Or.inr (RoadKit.slot_ne (t := .long) (t' := .long) (Or.inr (hw _ (List.mem_of_getElem? (i := 40) rfl))) (Or.inr (hw _ (List.mem_of_getElem? (i := 38) rfl))) (by decide) (by decide +kernel) (by decide +kernel)))
    show OwnKit.Go κ h39 0 0 32 #[.val (.ref a), .val (.long sh), .second, .val (.ref b), .val (.long sq), .second, .val (.int m), .val (.long e), .second, .val (.long c), .second] []
    refine OwnKit.aloadN K d_prog_103m1_32 rfl rfl ?_
    show OwnKit.Go κ h39 0 0 33 #[.val (.ref a), .val (.long sh), .second, .val (.ref b), .val (.long sq), .second, .val (.int m), .val (.long e), .second, .val (.long c), .second] [.ref a]
    refine OwnKit.lload K d_prog_103m1_33 rfl ?_
    show OwnKit.Go κ h39 0 0 35 #[.val (.ref a), .val (.long sh), .second, .val (.ref b), .val (.long sq), .second, .val (.int m), .val (.long e), .second, .val (.long c), .second] [.long c, .ref a]
    refine OwnKit.putfield K d_prog_103m1_35 (host := "") (Or.inl (hw _ (List.mem_of_getElem? (i := 39) rfl))) Via.refl F47 E41 (Or.inr ⟨(hw _ (List.mem_of_getElem? (i := 40) rfl)), rfl, rfl⟩) (hw _ (List.mem_of_getElem? (i := 2) rfl)) (show parseFieldDescriptor "J" = some (.long) from by decide +kernel) rfl rfl G_a ?_
    intro h48 W49
    have E50 := E41.wr W49
    have F51 := Fld.other W49 F42 (Or.inr (RoadKit.slot_ne (t := .long) (t' := .long) (Or.inr (hw _ (List.mem_of_getElem? (i := 30) rfl))) (Or.inr (hw _ (List.mem_of_getElem? (i := 40) rfl))) (by decide) (by decide +kernel) (by decide +kernel)))
    have F52 := Fld.other W49 F43 (Or.inr (RoadKit.slot_ne (t := (.object "com/example/fair_throttle/fairthrottle/reports/Algorithm$Loss")) (t' := .long) (Or.inr (hw _ (List.mem_of_getElem? (i := 32) rfl))) (Or.inr (hw _ (List.mem_of_getElem? (i := 40) rfl))) (by decide) (by decide +kernel) (by decide +kernel)))
    have F53 := Fld.other W49 F44 (Or.inr (RoadKit.slot_ne (t := .long) (t' := .long) (Or.inr (hw _ (List.mem_of_getElem? (i := 34) rfl))) (Or.inr (hw _ (List.mem_of_getElem? (i := 40) rfl))) (by decide) (by decide +kernel) (by decide +kernel)))
    have F54 := Fld.other W49 F45 (Or.inr (RoadKit.slot_ne (t := .boolean) (t' := .long) (Or.inr (hw _ (List.mem_of_getElem? (i := 36) rfl))) (Or.inr (hw _ (List.mem_of_getElem? (i := 40) rfl))) (by decide) (by decide +kernel) (by decide +kernel)))
    have F55 := Fld.other W49 F46 (Or.inr (RoadKit.slot_ne (t := .long) (t' := .long) (Or.inr (hw _ (List.mem_of_getElem? (i := 38) rfl))) (Or.inr (hw _ (List.mem_of_getElem? (i := 40) rfl))) (by decide) (by decide +kernel) (by decide +kernel)))
    have F56 := Fld.same W49 F47
    show OwnKit.Go κ h48 0 0 38 #[.val (.ref a), .val (.long sh), .second, .val (.ref b), .val (.long sq), .second, .val (.int m), .val (.long e), .second, .val (.long c), .second] []
    refine OwnKit.return0 K d_prog_103m1_38  ?_ (Nat.le_of_ble_eq_true rfl) (Nat.le_of_ble_eq_true rfl)
    exact ⟨rfl, E50, F54, F55⟩
  · intro m; first | rfl | (simp [entryFrame, mkF, argsToLocals, Value.category]; done)

theorem d_prog_103m3_0 : decode prog_103_method_3_code 0 = .ok (.aload_n 0, 1) := by decide +kernel
theorem d_prog_103m3_1 : decode prog_103_method_3_code 1 = .ok (.getfield 20, 3) := by decide +kernel
theorem d_prog_103m3_4 : decode prog_103_method_3_code 4 = .ok (.ifCond .eq 18, 3) := by decide +kernel
theorem d_prog_103m3_7 : decode prog_103_method_3_code 7 = .ok (.lload_n 1, 1) := by decide +kernel
theorem d_prog_103m3_8 : decode prog_103_method_3_code 8 = .ok (.aload_n 0, 1) := by decide +kernel
theorem d_prog_103m3_9 : decode prog_103_method_3_code 9 = .ok (.getfield 24, 3) := by decide +kernel
theorem d_prog_103m3_12 : decode prog_103_method_3_code 12 = .ok (.lsub, 1) := by decide +kernel
theorem d_prog_103m3_13 : decode prog_103_method_3_code 13 = .ok (.lconst 0, 1) := by decide +kernel
theorem d_prog_103m3_14 : decode prog_103_method_3_code 14 = .ok (.lcmp, 1) := by decide +kernel
theorem d_prog_103m3_15 : decode prog_103_method_3_code 15 = .ok (.ifCond .ge 7, 3) := by decide +kernel
theorem d_prog_103m3_18 : decode prog_103_method_3_code 18 = .ok (.iconst 1, 1) := by decide +kernel
theorem d_prog_103m3_19 : decode prog_103_method_3_code 19 = .ok (.goto 4, 3) := by decide +kernel
theorem d_prog_103m3_22 : decode prog_103_method_3_code 22 = .ok (.iconst 0, 1) := by decide +kernel
theorem d_prog_103m3_23 : decode prog_103_method_3_code 23 = .ok (.ireturn, 1) := by decide +kernel
set_option maxRecDepth 65536 in
set_option maxHeartbeats 40000000 in
theorem c_hold (l : Launch) (Z : State) (a0 : Array Value) (hw : ∀ d ∈ tables_1, d.before a0 Z = true) (n0 : Nat) (h0 : Heap) (a : Addr) (m : Int32) (e x : Int64) (E_a : Exa Z h0 a "com/example/fair_throttle/fairthrottle/reporting/MeasuredLoss") (F_a_measuring : Fld Z h0 a "com/example/fair_throttle/fairthrottle/reporting/MeasuredLoss" "measuring" "Z" (.int m)) (F_a_periodEndsAt : Fld Z h0 a "com/example/fair_throttle/fairthrottle/reporting/MeasuredLoss" "periodEndsAt" "J" (.long e)) :
    OwnKit.Con false l Z n0 (⟨"com/example/fair_throttle/fairthrottle/reporting/MeasuredLoss", "holds", "(J)Z"⟩ : MethodName) prog_103_method_3_code 3 (some .boolean) ({ frames := 0, cells := 0, slots := 0, locals := 0 } : Room) #[.ref a, .long x] h0 (QHold m e x h0) := by
  refine OwnKit.Con.of (by first | (refine plainFor_of_name ?_; simp [plainName, overriddenIn]; done) | decide +kernel) ?_ ?_
  · intro κ hwd K0
    have K : OwnKit.Ok κ l Z n0 "com/example/fair_throttle/fairthrottle/reporting/MeasuredLoss" "holds" prog_103_method_3_code 3 (some .boolean) ({ frames := 0, cells := 0, slots := 0, locals := 0 } : Room) (QHold m e x h0) := K0
    have ef : (entryFrame κ.m #[.ref a, .long x] 3).locals = #[.val (.ref a), .val (.long x), .second] := by first | (simp [entryFrame, argsToLocals, Value.category]; done) | rfl
    rw [ef]; clear ef K0
    show OwnKit.Go κ h0 0 0 0 #[.val (.ref a), .val (.long x), .second] []
    refine OwnKit.aloadN K d_prog_103m3_0 rfl rfl ?_
    show OwnKit.Go κ h0 0 0 1 #[.val (.ref a), .val (.long x), .second] [.ref a]
    refine OwnKit.getfield K d_prog_103m3_1 (host := "") (Or.inl (hw _ (List.mem_of_getElem? (i := 35) rfl))) Via.refl F_a_measuring ?_
    show OwnKit.Go κ h0 0 0 4 #[.val (.ref a), .val (.long x), .second] [.int m]
    refine OwnKit.ifeq K d_prog_103m3_4 (by decide) (pc' := 22) rfl  (fun b1 => ?_) (fun b1 => ?_)
    · show OwnKit.Go κ h0 0 0 22 #[.val (.ref a), .val (.long x), .second] []
      refine OwnKit.iconst K d_prog_103m3_22 ?_
      show OwnKit.Go κ h0 0 0 23 #[.val (.ref a), .val (.long x), .second] [.int (0 : Int32)]
      refine OwnKit.ireturn K d_prog_103m3_23 (Or.inr (Or.inl rfl)) rfl ?_ (Nat.le_of_ble_eq_true rfl) (Nat.le_of_ble_eq_true rfl)
      · have q := OwnKit.cmp_lt (x - e) 0
        have e0 : (0 : Int64).toInt = 0 := by decide
        refine ⟨⟨_, rfl, ?_⟩, rfl⟩
        exact Or.inr ⟨fun z => z.1 b1, rfl⟩
    · show OwnKit.Go κ h0 0 0 7 #[.val (.ref a), .val (.long x), .second] []
      refine OwnKit.lloadN K d_prog_103m3_7 rfl ?_
      show OwnKit.Go κ h0 0 0 8 #[.val (.ref a), .val (.long x), .second] [.long x]
      refine OwnKit.aloadN K d_prog_103m3_8 rfl rfl ?_
      show OwnKit.Go κ h0 0 0 9 #[.val (.ref a), .val (.long x), .second] [.ref a, .long x]
      refine OwnKit.getfield K d_prog_103m3_9 (host := "") (Or.inl (hw _ (List.mem_of_getElem? (i := 37) rfl))) Via.refl F_a_periodEndsAt ?_
      show OwnKit.Go κ h0 0 0 12 #[.val (.ref a), .val (.long x), .second] [.long e, .long x]
      refine OwnKit.lsub K d_prog_103m3_12 ?_
      show OwnKit.Go κ h0 0 0 13 #[.val (.ref a), .val (.long x), .second] [.long (x - e)]
      refine OwnKit.lconst K d_prog_103m3_13 ?_
      show OwnKit.Go κ h0 0 0 14 #[.val (.ref a), .val (.long x), .second] [.long (0 : Int64), .long (x - e)]
      refine OwnKit.lcmp K d_prog_103m3_14 ?_
      show OwnKit.Go κ h0 0 0 15 #[.val (.ref a), .val (.long x), .second] [.int (XT.cmpL (x - e) (0 : Int64))]
      refine OwnKit.ifge K d_prog_103m3_15 (by decide) (pc' := 22) rfl  (fun b2 => ?_) (fun b2 => ?_)
      · show OwnKit.Go κ h0 0 0 22 #[.val (.ref a), .val (.long x), .second] []
        refine OwnKit.iconst K d_prog_103m3_22 ?_
        show OwnKit.Go κ h0 0 0 23 #[.val (.ref a), .val (.long x), .second] [.int (0 : Int32)]
        refine OwnKit.ireturn K d_prog_103m3_23 (Or.inr (Or.inl rfl)) rfl ?_ (Nat.le_of_ble_eq_true rfl) (Nat.le_of_ble_eq_true rfl)
        · have q := OwnKit.cmp_lt (x - e) 0
          have e0 : (0 : Int64).toInt = 0 := by decide
          refine ⟨⟨_, rfl, ?_⟩, rfl⟩
          exact Or.inr ⟨fun z => by have := z.2; omega, rfl⟩
      · show OwnKit.Go κ h0 0 0 18 #[.val (.ref a), .val (.long x), .second] []
        refine OwnKit.iconst K d_prog_103m3_18 ?_
        show OwnKit.Go κ h0 0 0 19 #[.val (.ref a), .val (.long x), .second] [.int (1 : Int32)]
        refine OwnKit.goto K d_prog_103m3_19 (by decide) (pc' := 23) rfl ?_
        show OwnKit.Go κ h0 0 0 23 #[.val (.ref a), .val (.long x), .second] [.int (1 : Int32)]
        refine OwnKit.ireturn K d_prog_103m3_23 (Or.inr (Or.inl rfl)) rfl ?_ (Nat.le_of_ble_eq_true rfl) (Nat.le_of_ble_eq_true rfl)
        · have q := OwnKit.cmp_lt (x - e) 0
          have e0 : (0 : Int64).toInt = 0 := by decide
          refine ⟨⟨_, rfl, ?_⟩, rfl⟩
          exact Or.inl ⟨⟨b1, by omega⟩, rfl⟩
  · intro m; first | rfl | (simp [entryFrame, mkF, argsToLocals, Value.category]; done)

set_option maxRecDepth 65536 in
set_option maxHeartbeats 40000000 in
theorem c_law (l : Launch) (Z : State) (a0 : Array Value) (hw : ∀ d ∈ tables_1, d.before a0 Z = true) (n0 : Nat) (h0 : Heap) (sh : Int64) (rd : Int32) (sq : Int64) (fl : Int32) (e of : Int64)   :
    OwnKit.Con false l Z n0 x code maxLocals ret room_1 #[.long sh, .int rd, .long sq, .int fl, .long e, .long of] h0 QLaw := by
  refine OwnKit.Con.of (by first | (refine plainFor_of_name ?_; simp [plainName, overriddenIn]; done) | decide +kernel) ?_ ?_
  · intro κ hwd K0
    have K : OwnKit.Ok κ l Z n0 "com/example/fair_throttle/fairthrottle/reporting/MeasuredLossHoldsPinLaw" "law" code 18 (some .boolean) room_1 QLaw := K0
    have ef : (entryFrame κ.m #[.long sh, .int rd, .long sq, .int fl, .long e, .long of] maxLocals).locals = #[.val (.long sh), .second, .val (.int rd), .val (.long sq), .second, .val (.int fl), .val (.long e), .second, .val (.long of), .second, .unset, .unset, .unset, .unset, .unset, .unset, .unset, .unset] := by first | (simp [entryFrame, argsToLocals, Value.category, maxLocals]; done) | rfl
    rw [ef]; clear ef K0
    show OwnKit.Go κ h0 0 0 0 #[.val (.long sh), .second, .val (.int rd), .val (.long sq), .second, .val (.int fl), .val (.long e), .second, .val (.long of), .second, .unset, .unset, .unset, .unset, .unset, .unset, .unset, .unset] []
    refine OwnKit.iload K at_0 rfl ?_
    show OwnKit.Go κ h0 0 0 2 #[.val (.long sh), .second, .val (.int rd), .val (.long sq), .second, .val (.int fl), .val (.long e), .second, .val (.long of), .second, .unset, .unset, .unset, .unset, .unset, .unset, .unset, .unset] [.int fl]
    refine OwnKit.iconst K at_2 ?_
    show OwnKit.Go κ h0 0 0 3 #[.val (.long sh), .second, .val (.int rd), .val (.long sq), .second, .val (.int fl), .val (.long e), .second, .val (.long of), .second, .unset, .unset, .unset, .unset, .unset, .unset, .unset, .unset] [.int (1 : Int32), .int fl]
    refine OwnKit.iand K at_3 ?_
    show OwnKit.Go κ h0 0 0 4 #[.val (.long sh), .second, .val (.int rd), .val (.long sq), .second, .val (.int fl), .val (.long e), .second, .val (.long of), .second, .unset, .unset, .unset, .unset, .unset, .unset, .unset, .unset] [.int (fl &&& (1 : Int32))]
    refine OwnKit.ifeq K at_4 (by decide) (pc' := 11) rfl  (fun b1 => ?_) (fun b1 => ?_)
    · show OwnKit.Go κ h0 0 0 11 #[.val (.long sh), .second, .val (.int rd), .val (.long sq), .second, .val (.int fl), .val (.long e), .second, .val (.long of), .second, .unset, .unset, .unset, .unset, .unset, .unset, .unset, .unset] []
      refine OwnKit.iconst K at_11 ?_
      show OwnKit.Go κ h0 0 0 12 #[.val (.long sh), .second, .val (.int rd), .val (.long sq), .second, .val (.int fl), .val (.long e), .second, .val (.long of), .second, .unset, .unset, .unset, .unset, .unset, .unset, .unset, .unset] [.int (0 : Int32)]
      refine OwnKit.istore K at_12 (l' := #[.val (.long sh), .second, .val (.int rd), .val (.long sq), .second, .val (.int fl), .val (.long e), .second, .val (.long of), .second, .val (.int (0 : Int32)), .unset, .unset, .unset, .unset, .unset, .unset, .unset]) rfl ?_
      show OwnKit.Go κ h0 0 0 14 #[.val (.long sh), .second, .val (.int rd), .val (.long sq), .second, .val (.int fl), .val (.long e), .second, .val (.long of), .second, .val (.int (0 : Int32)), .unset, .unset, .unset, .unset, .unset, .unset, .unset] []
      refine OwnKit.iloadN K at_14 rfl ?_
      show OwnKit.Go κ h0 0 0 15 #[.val (.long sh), .second, .val (.int rd), .val (.long sq), .second, .val (.int fl), .val (.long e), .second, .val (.long of), .second, .val (.int (0 : Int32)), .unset, .unset, .unset, .unset, .unset, .unset, .unset] [.int rd]
      refine OwnKit.ldcI K at_15 (hw _ (List.mem_of_getElem? (i := 0) rfl)) ?_
      show OwnKit.Go κ h0 0 0 17 #[.val (.long sh), .second, .val (.int rd), .val (.long sq), .second, .val (.int fl), .val (.long e), .second, .val (.long of), .second, .val (.int (0 : Int32)), .unset, .unset, .unset, .unset, .unset, .unset, .unset] [.int (2147483647 : Int32), .int rd]
      refine OwnKit.iand K at_17 ?_
      show OwnKit.Go κ h0 0 0 18 #[.val (.long sh), .second, .val (.int rd), .val (.long sq), .second, .val (.int fl), .val (.long e), .second, .val (.long of), .second, .val (.int (0 : Int32)), .unset, .unset, .unset, .unset, .unset, .unset, .unset] [.int (rd &&& (2147483647 : Int32))]
      refine OwnKit.bipush K at_18 ?_
      show OwnKit.Go κ h0 0 0 20 #[.val (.long sh), .second, .val (.int rd), .val (.long sq), .second, .val (.int fl), .val (.long e), .second, .val (.long of), .second, .val (.int (0 : Int32)), .unset, .unset, .unset, .unset, .unset, .unset, .unset] [.int (101 : Int32), .int (rd &&& (2147483647 : Int32))]
      refine OwnKit.irem K at_20 (by decide) ?_
      show OwnKit.Go κ h0 0 0 21 #[.val (.long sh), .second, .val (.int rd), .val (.long sq), .second, .val (.int fl), .val (.long e), .second, .val (.long of), .second, .val (.int (0 : Int32)), .unset, .unset, .unset, .unset, .unset, .unset, .unset] [.int ((rd &&& (2147483647 : Int32)) % (101 : Int32))]
      refine OwnKit.istore K at_21 (l' := #[.val (.long sh), .second, .val (.int rd), .val (.long sq), .second, .val (.int fl), .val (.long e), .second, .val (.long of), .second, .val (.int (0 : Int32)), .val (.int ((rd &&& (2147483647 : Int32)) % (101 : Int32))), .unset, .unset, .unset, .unset, .unset, .unset]) rfl ?_
      show OwnKit.Go κ h0 0 0 23 #[.val (.long sh), .second, .val (.int rd), .val (.long sq), .second, .val (.int fl), .val (.long e), .second, .val (.long of), .second, .val (.int (0 : Int32)), .val (.int ((rd &&& (2147483647 : Int32)) % (101 : Int32))), .unset, .unset, .unset, .unset, .unset, .unset] []
      generalize hr : (rd &&& (2147483647 : Int32)) % (101 : Int32) = r
      show OwnKit.Go κ h0 0 0 23 #[.val (.long sh), .second, .val (.int rd), .val (.long sq), .second, .val (.int fl), .val (.long e), .second, .val (.long of), .second, .val (.int (0 : Int32)), .val (.int r), .unset, .unset, .unset, .unset, .unset, .unset] []
      refine OwnKit.iload K at_23 rfl ?_
      show OwnKit.Go κ h0 0 0 25 #[.val (.long sh), .second, .val (.int rd), .val (.long sq), .second, .val (.int fl), .val (.long e), .second, .val (.long of), .second, .val (.int (0 : Int32)), .val (.int r), .unset, .unset, .unset, .unset, .unset, .unset] [.int fl]
      refine OwnKit.iconst K at_25 ?_
      show OwnKit.Go κ h0 0 0 26 #[.val (.long sh), .second, .val (.int rd), .val (.long sq), .second, .val (.int fl), .val (.long e), .second, .val (.long of), .second, .val (.int (0 : Int32)), .val (.int r), .unset, .unset, .unset, .unset, .unset, .unset] [.int (1 : Int32), .int fl]
      refine OwnKit.ishr K at_26 ?_
      show OwnKit.Go κ h0 0 0 27 #[.val (.long sh), .second, .val (.int rd), .val (.long sq), .second, .val (.int fl), .val (.long e), .second, .val (.long of), .second, .val (.int (0 : Int32)), .val (.int r), .unset, .unset, .unset, .unset, .unset, .unset] [.int (fl >>> ((1 : Int32) &&& 31))]
      refine OwnKit.i2l K at_27 ?_
      show OwnKit.Go κ h0 0 0 28 #[.val (.long sh), .second, .val (.int rd), .val (.long sq), .second, .val (.int fl), .val (.long e), .second, .val (.long of), .second, .val (.int (0 : Int32)), .val (.int r), .unset, .unset, .unset, .unset, .unset, .unset] [.long ((fl >>> ((1 : Int32) &&& 31)).toInt64)]
      refine OwnKit.lstore K at_28 (l' := #[.val (.long sh), .second, .val (.int rd), .val (.long sq), .second, .val (.int fl), .val (.long e), .second, .val (.long of), .second, .val (.int (0 : Int32)), .val (.int r), .val (.long ((fl >>> ((1 : Int32) &&& 31)).toInt64)), .second, .unset, .unset, .unset, .unset]) rfl ?_
      show OwnKit.Go κ h0 0 0 30 #[.val (.long sh), .second, .val (.int rd), .val (.long sq), .second, .val (.int fl), .val (.long e), .second, .val (.long of), .second, .val (.int (0 : Int32)), .val (.int r), .val (.long ((fl >>> ((1 : Int32) &&& 31)).toInt64)), .second, .unset, .unset, .unset, .unset] []
      refine OwnKit.newObj K at_30 (hw _ (List.mem_of_getElem? (i := 1) rfl)) (hw _ (List.mem_of_getElem? (i := 2) rfl)) (hw _ (List.mem_of_getElem? (i := 3) rfl)) (Nat.le_of_ble_eq_true rfl) (Nat.le_of_ble_eq_true rfl) ?_
      intro h2 a3 g4 G5 Ex6 E7 D8 U9
      have F10 : Fld Z h2 a3 "com/example/fair_throttle/fairthrottle/reporting/MeasuredLoss" "combinedShare" "J" (.long (0 : Int64)) := D8 (Or.inr (hw _ (List.mem_of_getElem? (i := 30) rfl))) (show parseFieldDescriptor "J" = some (.long) from by decide +kernel)
      have F11 : Fld Z h2 a3 "com/example/fair_throttle/fairthrottle/reporting/MeasuredLoss" "loss" "Lcom/example/fair_throttle/fairthrottle/reports/Algorithm$Loss;" (.null) := D8 (Or.inr (hw _ (List.mem_of_getElem? (i := 32) rfl))) (show parseFieldDescriptor "Lcom/example/fair_throttle/fairthrottle/reports/Algorithm$Loss;" = some ((.object "com/example/fair_throttle/fairthrottle/reports/Algorithm$Loss")) from by decide +kernel)
      have F12 : Fld Z h2 a3 "com/example/fair_throttle/fairthrottle/reporting/MeasuredLoss" "sequenceNumber" "J" (.long (0 : Int64)) := D8 (Or.inr (hw _ (List.mem_of_getElem? (i := 34) rfl))) (show parseFieldDescriptor "J" = some (.long) from by decide +kernel)
      have F13 : Fld Z h2 a3 "com/example/fair_throttle/fairthrottle/reporting/MeasuredLoss" "measuring" "Z" (.int (0 : Int32)) := D8 (Or.inr (hw _ (List.mem_of_getElem? (i := 36) rfl))) (show parseFieldDescriptor "Z" = some (.boolean) from by decide +kernel)
      have F14 : Fld Z h2 a3 "com/example/fair_throttle/fairthrottle/reporting/MeasuredLoss" "periodEndsAt" "J" (.long (0 : Int64)) := D8 (Or.inr (hw _ (List.mem_of_getElem? (i := 38) rfl))) (show parseFieldDescriptor "J" = some (.long) from by decide +kernel)
      have F15 : Fld Z h2 a3 "com/example/fair_throttle/fairthrottle/reporting/MeasuredLoss" "countedBefore" "J" (.long (0 : Int64)) := D8 (Or.inr (hw _ (List.mem_of_getElem? (i := 40) rfl))) (show parseFieldDescriptor "J" = some (.long) from by decide +kernel)
      show OwnKit.Go κ h2 1 6 33 #[.val (.long sh), .second, .val (.int rd), .val (.long sq), .second, .val (.int fl), .val (.long e), .second, .val (.long of), .second, .val (.int (0 : Int32)), .val (.int r), .val (.long ((fl >>> ((1 : Int32) &&& 31)).toInt64)), .second, .unset, .unset, .unset, .unset] [.ref a3]
      refine OwnKit.dup K at_33 rfl ?_
      show OwnKit.Go κ h2 1 6 34 #[.val (.long sh), .second, .val (.int rd), .val (.long sq), .second, .val (.int fl), .val (.long e), .second, .val (.long of), .second, .val (.int (0 : Int32)), .val (.int r), .val (.long ((fl >>> ((1 : Int32) &&& 31)).toInt64)), .second, .unset, .unset, .unset, .unset] [.ref a3, .ref a3]
      refine OwnKit.lloadN K at_34 rfl ?_
      show OwnKit.Go κ h2 1 6 35 #[.val (.long sh), .second, .val (.int rd), .val (.long sq), .second, .val (.int fl), .val (.long e), .second, .val (.long of), .second, .val (.int (0 : Int32)), .val (.int r), .val (.long ((fl >>> ((1 : Int32) &&& 31)).toInt64)), .second, .unset, .unset, .unset, .unset] [.long sh, .ref a3, .ref a3]
      refine OwnKit.newObj K at_35 (hw _ (List.mem_of_getElem? (i := 4) rfl)) (hw _ (List.mem_of_getElem? (i := 5) rfl)) (hw _ (List.mem_of_getElem? (i := 6) rfl)) (Nat.le_of_ble_eq_true rfl) (Nat.le_of_ble_eq_true rfl) ?_
      intro h16 a17 g18 G19 Ex20 E21 D22 U23
      have ne24 : a3 ≠ a17 := by rw [g18]; exact Nat.ne_of_lt E7.lt
      have E25 := E7.ext Ex20
      have F26 := F10.ext Ex20
      have F27 := F11.ext Ex20
      have F28 := F12.ext Ex20
      have F29 := F13.ext Ex20
      have F30 := F14.ext Ex20
      have F31 := F15.ext Ex20
      have F32 : Fld Z h16 a17 "com/example/fair_throttle/fairthrottle/reports/Algorithm$Loss" "reductionPercent" "I" (.int (0 : Int32)) := D22 (Or.inr (hw _ (List.mem_of_getElem? (i := 24) rfl))) (show parseFieldDescriptor "I" = some (.int) from by decide +kernel)
      show OwnKit.Go κ h16 2 7 38 #[.val (.long sh), .second, .val (.int rd), .val (.long sq), .second, .val (.int fl), .val (.long e), .second, .val (.long of), .second, .val (.int (0 : Int32)), .val (.int r), .val (.long ((fl >>> ((1 : Int32) &&& 31)).toInt64)), .second, .unset, .unset, .unset, .unset] [.ref a17, .long sh, .ref a3, .ref a3]
      refine OwnKit.dup K at_38 rfl ?_
      show OwnKit.Go κ h16 2 7 39 #[.val (.long sh), .second, .val (.int rd), .val (.long sq), .second, .val (.int fl), .val (.long e), .second, .val (.long of), .second, .val (.int (0 : Int32)), .val (.int r), .val (.long ((fl >>> ((1 : Int32) &&& 31)).toInt64)), .second, .unset, .unset, .unset, .unset] [.ref a17, .ref a17, .long sh, .ref a3, .ref a3]
      refine OwnKit.iload K at_39 rfl ?_
      show OwnKit.Go κ h16 2 7 41 #[.val (.long sh), .second, .val (.int rd), .val (.long sq), .second, .val (.int fl), .val (.long e), .second, .val (.long of), .second, .val (.int (0 : Int32)), .val (.int r), .val (.long ((fl >>> ((1 : Int32) &&& 31)).toInt64)), .second, .unset, .unset, .unset, .unset] [.int r, .ref a17, .ref a17, .long sh, .ref a3, .ref a3]
      refine OwnKit.invC (y := (⟨"com/example/fair_throttle/fairthrottle/reports/Algorithm$Loss", "<init>", "(I)V"⟩ : MethodName)) (argsL := [.int r]) (rest := [.ref a17, .long sh, .ref a3, .ref a3]) K (c_loss l Z a0 hw n0 h16 a17 r (own_r hr).1 (own_r hr).2 E21 G19 F32) at_41 rfl (hw _ (List.mem_of_getElem? (i := 7) rfl)) (hw _ (List.mem_of_getElem? (i := 8) rfl)) (hw _ (List.mem_of_getElem? (i := 9) rfl)) (hw _ (List.mem_of_getElem? (i := 6) rfl)) (by decide) (lenOf (by decide +kernel : parseMethodDescriptor "(I)V" = some ⟨[.int], none⟩) rfl) rfl rfl (W := 5) (Nat.le_of_ble_eq_true rfl) (Nat.le_of_ble_eq_true rfl) (Nat.le_of_ble_eq_true rfl) (Nat.le_of_ble_eq_true rfl) (Nat.le_of_ble_eq_true rfl) ?_
      rintro _ h33 ⟨rfl, Kx⟩ g34
      have E35 := E25.keep Kx
      have F36 := F26.keep Kx (ninS ne24 nin0)
      have F37 := F27.keep Kx (ninS ne24 nin0)
      have F38 := F28.keep Kx (ninS ne24 nin0)
      have F39 := F29.keep Kx (ninS ne24 nin0)
      have F40 := F30.keep Kx (ninS ne24 nin0)
      have F41 := F31.keep Kx (ninS ne24 nin0)
      have E42 := E21.keep Kx
      show OwnKit.Go κ h33 2 7 44 #[.val (.long sh), .second, .val (.int rd), .val (.long sq), .second, .val (.int fl), .val (.long e), .second, .val (.long of), .second, .val (.int (0 : Int32)), .val (.int r), .val (.long ((fl >>> ((1 : Int32) &&& 31)).toInt64)), .second, .unset, .unset, .unset, .unset] [.ref a17, .long sh, .ref a3, .ref a3]
      refine OwnKit.lloadN K at_44 rfl ?_
      show OwnKit.Go κ h33 2 7 45 #[.val (.long sh), .second, .val (.int rd), .val (.long sq), .second, .val (.int fl), .val (.long e), .second, .val (.long of), .second, .val (.int (0 : Int32)), .val (.int r), .val (.long ((fl >>> ((1 : Int32) &&& 31)).toInt64)), .second, .unset, .unset, .unset, .unset] [.long sq, .ref a17, .long sh, .ref a3, .ref a3]
      refine OwnKit.iload K at_45 rfl ?_
      show OwnKit.Go κ h33 2 7 47 #[.val (.long sh), .second, .val (.int rd), .val (.long sq), .second, .val (.int fl), .val (.long e), .second, .val (.long of), .second, .val (.int (0 : Int32)), .val (.int r), .val (.long ((fl >>> ((1 : Int32) &&& 31)).toInt64)), .second, .unset, .unset, .unset, .unset] [.int (0 : Int32), .long sq, .ref a17, .long sh, .ref a3, .ref a3]
      refine OwnKit.lload K at_47 rfl ?_
      show OwnKit.Go κ h33 2 7 49 #[.val (.long sh), .second, .val (.int rd), .val (.long sq), .second, .val (.int fl), .val (.long e), .second, .val (.long of), .second, .val (.int (0 : Int32)), .val (.int r), .val (.long ((fl >>> ((1 : Int32) &&& 31)).toInt64)), .second, .unset, .unset, .unset, .unset] [.long e, .int (0 : Int32), .long sq, .ref a17, .long sh, .ref a3, .ref a3]
      refine OwnKit.lload K at_49 rfl ?_
      show OwnKit.Go κ h33 2 7 51 #[.val (.long sh), .second, .val (.int rd), .val (.long sq), .second, .val (.int fl), .val (.long e), .second, .val (.long of), .second, .val (.int (0 : Int32)), .val (.int r), .val (.long ((fl >>> ((1 : Int32) &&& 31)).toInt64)), .second, .unset, .unset, .unset, .unset] [.long ((fl >>> ((1 : Int32) &&& 31)).toInt64), .long e, .int (0 : Int32), .long sq, .ref a17, .long sh, .ref a3, .ref a3]
      refine OwnKit.invC (y := (⟨"com/example/fair_throttle/fairthrottle/reporting/MeasuredLoss", "<init>", "(JLcom/example/fair_throttle/fairthrottle/reports/Algorithm$Loss;JZJJ)V"⟩ : MethodName)) (argsL := [.long sh, .ref a17, .long sq, .int (0 : Int32), .long e, .long ((fl >>> ((1 : Int32) &&& 31)).toInt64)]) (rest := [.ref a3]) K (c_ml l Z a0 hw n0 h33 a3 a17 sh sq e ((fl >>> ((1 : Int32) &&& 31)).toInt64) (0 : Int32) (by decide) E35 G5 F36 F37 F38 F39 F40 F41) at_51 rfl (hw _ (List.mem_of_getElem? (i := 25) rfl)) (hw _ (List.mem_of_getElem? (i := 26) rfl)) (hw _ (List.mem_of_getElem? (i := 27) rfl)) (hw _ (List.mem_of_getElem? (i := 3) rfl)) (by decide) (lenOf (by decide +kernel : parseMethodDescriptor "(JLcom/example/fair_throttle/fairthrottle/reports/Algorithm$Loss;JZJJ)V" = some ⟨[.long, (.object "com/example/fair_throttle/fairthrottle/reports/Algorithm$Loss"), .long, .boolean, .long, .long], none⟩) rfl) rfl rfl (W := 1) (Nat.le_of_ble_eq_true rfl) (Nat.le_of_ble_eq_true rfl) (Nat.le_of_ble_eq_true rfl) (Nat.le_of_ble_eq_true rfl) (Nat.le_of_ble_eq_true rfl) ?_
      rintro _ h43 ⟨rfl, Ee, Fm, Fe⟩ g44
      show OwnKit.Go κ h43 2 7 54 #[.val (.long sh), .second, .val (.int rd), .val (.long sq), .second, .val (.int fl), .val (.long e), .second, .val (.long of), .second, .val (.int (0 : Int32)), .val (.int r), .val (.long ((fl >>> ((1 : Int32) &&& 31)).toInt64)), .second, .unset, .unset, .unset, .unset] [.ref a3]
      refine OwnKit.astore K at_54 rfl (l' := #[.val (.long sh), .second, .val (.int rd), .val (.long sq), .second, .val (.int fl), .val (.long e), .second, .val (.long of), .second, .val (.int (0 : Int32)), .val (.int r), .val (.long ((fl >>> ((1 : Int32) &&& 31)).toInt64)), .second, .val (.ref a3), .unset, .unset, .unset]) rfl ?_
      show OwnKit.Go κ h43 2 7 56 #[.val (.long sh), .second, .val (.int rd), .val (.long sq), .second, .val (.int fl), .val (.long e), .second, .val (.long of), .second, .val (.int (0 : Int32)), .val (.int r), .val (.long ((fl >>> ((1 : Int32) &&& 31)).toInt64)), .second, .val (.ref a3), .unset, .unset, .unset] []
      refine OwnKit.lload K at_56 rfl ?_
      show OwnKit.Go κ h43 2 7 58 #[.val (.long sh), .second, .val (.int rd), .val (.long sq), .second, .val (.int fl), .val (.long e), .second, .val (.long of), .second, .val (.int (0 : Int32)), .val (.int r), .val (.long ((fl >>> ((1 : Int32) &&& 31)).toInt64)), .second, .val (.ref a3), .unset, .unset, .unset] [.long e]
      refine OwnKit.lload K at_58 rfl ?_
      show OwnKit.Go κ h43 2 7 60 #[.val (.long sh), .second, .val (.int rd), .val (.long sq), .second, .val (.int fl), .val (.long e), .second, .val (.long of), .second, .val (.int (0 : Int32)), .val (.int r), .val (.long ((fl >>> ((1 : Int32) &&& 31)).toInt64)), .second, .val (.ref a3), .unset, .unset, .unset] [.long of, .long e]
      refine OwnKit.ladd K at_60 ?_
      show OwnKit.Go κ h43 2 7 61 #[.val (.long sh), .second, .val (.int rd), .val (.long sq), .second, .val (.int fl), .val (.long e), .second, .val (.long of), .second, .val (.int (0 : Int32)), .val (.int r), .val (.long ((fl >>> ((1 : Int32) &&& 31)).toInt64)), .second, .val (.ref a3), .unset, .unset, .unset] [.long (e + of)]
      refine OwnKit.lstore K at_61 (l' := #[.val (.long sh), .second, .val (.int rd), .val (.long sq), .second, .val (.int fl), .val (.long e), .second, .val (.long of), .second, .val (.int (0 : Int32)), .val (.int r), .val (.long ((fl >>> ((1 : Int32) &&& 31)).toInt64)), .second, .val (.ref a3), .val (.long (e + of)), .second, .unset]) rfl ?_
      show OwnKit.Go κ h43 2 7 63 #[.val (.long sh), .second, .val (.int rd), .val (.long sq), .second, .val (.int fl), .val (.long e), .second, .val (.long of), .second, .val (.int (0 : Int32)), .val (.int r), .val (.long ((fl >>> ((1 : Int32) &&& 31)).toInt64)), .second, .val (.ref a3), .val (.long (e + of)), .second, .unset] []
      refine OwnKit.iload K at_63 rfl ?_
      show OwnKit.Go κ h43 2 7 65 #[.val (.long sh), .second, .val (.int rd), .val (.long sq), .second, .val (.int fl), .val (.long e), .second, .val (.long of), .second, .val (.int (0 : Int32)), .val (.int r), .val (.long ((fl >>> ((1 : Int32) &&& 31)).toInt64)), .second, .val (.ref a3), .val (.long (e + of)), .second, .unset] [.int (0 : Int32)]
      refine OwnKit.ifeq K at_65 (by decide) (pc' := 79) rfl  (fun b45 => ?_) (fun b45 => ?_)
      · show OwnKit.Go κ h43 2 7 79 #[.val (.long sh), .second, .val (.int rd), .val (.long sq), .second, .val (.int fl), .val (.long e), .second, .val (.long of), .second, .val (.int (0 : Int32)), .val (.int r), .val (.long ((fl >>> ((1 : Int32) &&& 31)).toInt64)), .second, .val (.ref a3), .val (.long (e + of)), .second, .unset] []
        refine OwnKit.iconst K at_79 ?_
        show OwnKit.Go κ h43 2 7 80 #[.val (.long sh), .second, .val (.int rd), .val (.long sq), .second, .val (.int fl), .val (.long e), .second, .val (.long of), .second, .val (.int (0 : Int32)), .val (.int r), .val (.long ((fl >>> ((1 : Int32) &&& 31)).toInt64)), .second, .val (.ref a3), .val (.long (e + of)), .second, .unset] [.int (0 : Int32)]
        refine OwnKit.istore K at_80 (l' := #[.val (.long sh), .second, .val (.int rd), .val (.long sq), .second, .val (.int fl), .val (.long e), .second, .val (.long of), .second, .val (.int (0 : Int32)), .val (.int r), .val (.long ((fl >>> ((1 : Int32) &&& 31)).toInt64)), .second, .val (.ref a3), .val (.long (e + of)), .second, .val (.int (0 : Int32))]) rfl ?_
        show OwnKit.Go κ h43 2 7 82 #[.val (.long sh), .second, .val (.int rd), .val (.long sq), .second, .val (.int fl), .val (.long e), .second, .val (.long of), .second, .val (.int (0 : Int32)), .val (.int r), .val (.long ((fl >>> ((1 : Int32) &&& 31)).toInt64)), .second, .val (.ref a3), .val (.long (e + of)), .second, .val (.int (0 : Int32))] []
        refine OwnKit.aload K at_82 rfl rfl ?_
        show OwnKit.Go κ h43 2 7 84 #[.val (.long sh), .second, .val (.int rd), .val (.long sq), .second, .val (.int fl), .val (.long e), .second, .val (.long of), .second, .val (.int (0 : Int32)), .val (.int r), .val (.long ((fl >>> ((1 : Int32) &&& 31)).toInt64)), .second, .val (.ref a3), .val (.long (e + of)), .second, .val (.int (0 : Int32))] [.ref a3]
        refine OwnKit.lload K at_84 rfl ?_
        show OwnKit.Go κ h43 2 7 86 #[.val (.long sh), .second, .val (.int rd), .val (.long sq), .second, .val (.int fl), .val (.long e), .second, .val (.long of), .second, .val (.int (0 : Int32)), .val (.int r), .val (.long ((fl >>> ((1 : Int32) &&& 31)).toInt64)), .second, .val (.ref a3), .val (.long (e + of)), .second, .val (.int (0 : Int32))] [.long (e + of), .ref a3]
        refine OwnKit.invV (y := (⟨"com/example/fair_throttle/fairthrottle/reporting/MeasuredLoss", "holds", "(J)Z"⟩ : MethodName)) (z := (⟨"com/example/fair_throttle/fairthrottle/reporting/MeasuredLoss", "holds", "(J)Z"⟩ : MethodName)) (argsL := [.long (e + of)]) (rest := []) K (c_hold l Z a0 hw n0 h43 a3 (0 : Int32) e (e + of) Ee Fm Fe) at_86 Ee (hw _ (List.mem_of_getElem? (i := 41) rfl)) (hw _ (List.mem_of_getElem? (i := 42) rfl)) (OwnKit.nfS (hw _ (List.mem_of_getElem? (i := 44) rfl))) (hw _ (List.mem_of_getElem? (i := 44) rfl)) (hw _ (List.mem_of_getElem? (i := 43) rfl)) (hw _ (List.mem_of_getElem? (i := 45) rfl)) (hw _ (List.mem_of_getElem? (i := 3) rfl)) (by decide) (lenOf (by decide +kernel : parseMethodDescriptor "(J)Z" = some ⟨[.long], some .boolean⟩) rfl) rfl rfl (W := 0) (Nat.le_of_ble_eq_true rfl) (Nat.le_of_ble_eq_true rfl) (Nat.le_of_ble_eq_true rfl) (Nat.le_of_ble_eq_true rfl) (Nat.le_of_ble_eq_true rfl) ?_
        rintro _ h46 ⟨⟨z, rfl, hz⟩, rfl⟩ g47
        show OwnKit.Go κ h43 2 7 89 #[.val (.long sh), .second, .val (.int rd), .val (.long sq), .second, .val (.int fl), .val (.long e), .second, .val (.long of), .second, .val (.int (0 : Int32)), .val (.int r), .val (.long ((fl >>> ((1 : Int32) &&& 31)).toInt64)), .second, .val (.ref a3), .val (.long (e + of)), .second, .val (.int (0 : Int32))] [.int z]
        refine OwnKit.iload K at_89 rfl ?_
        show OwnKit.Go κ h43 2 7 91 #[.val (.long sh), .second, .val (.int rd), .val (.long sq), .second, .val (.int fl), .val (.long e), .second, .val (.long of), .second, .val (.int (0 : Int32)), .val (.int r), .val (.long ((fl >>> ((1 : Int32) &&& 31)).toInt64)), .second, .val (.ref a3), .val (.long (e + of)), .second, .val (.int (0 : Int32))] [.int (0 : Int32), .int z]
        refine OwnKit.icmpne K at_91 (by decide) (pc' := 98) rfl  (fun b48 => ?_) (fun b48 => ?_)
        · exfalso
          have q := OwnKit.cmp_lt of 0
          have e0 : (0 : Int64).toInt = 0 := by decide
          rw [own_sub] at hz
          rcases hz with ⟨⟨e1, e2⟩, e3⟩ | ⟨e1, e3⟩
          · first | exact e1 rfl | exact b48 e3 | omega
          · first | exact b48 e3 | exact e1 ⟨by decide, by omega⟩
        · show OwnKit.Go κ h43 2 7 94 #[.val (.long sh), .second, .val (.int rd), .val (.long sq), .second, .val (.int fl), .val (.long e), .second, .val (.long of), .second, .val (.int (0 : Int32)), .val (.int r), .val (.long ((fl >>> ((1 : Int32) &&& 31)).toInt64)), .second, .val (.ref a3), .val (.long (e + of)), .second, .val (.int (0 : Int32))] []
          refine OwnKit.iconst K at_94 ?_
          show OwnKit.Go κ h43 2 7 95 #[.val (.long sh), .second, .val (.int rd), .val (.long sq), .second, .val (.int fl), .val (.long e), .second, .val (.long of), .second, .val (.int (0 : Int32)), .val (.int r), .val (.long ((fl >>> ((1 : Int32) &&& 31)).toInt64)), .second, .val (.ref a3), .val (.long (e + of)), .second, .val (.int (0 : Int32))] [.int (1 : Int32)]
          refine OwnKit.goto K at_95 (by decide) (pc' := 99) rfl ?_
          show OwnKit.Go κ h43 2 7 99 #[.val (.long sh), .second, .val (.int rd), .val (.long sq), .second, .val (.int fl), .val (.long e), .second, .val (.long of), .second, .val (.int (0 : Int32)), .val (.int r), .val (.long ((fl >>> ((1 : Int32) &&& 31)).toInt64)), .second, .val (.ref a3), .val (.long (e + of)), .second, .val (.int (0 : Int32))] [.int (1 : Int32)]
          refine OwnKit.ireturn K at_99 (Or.inr (Or.inl rfl)) rfl ?_ (Nat.le_of_ble_eq_true rfl) (Nat.le_of_ble_eq_true rfl)
          exact rfl
      · exact absurd b45 (by decide)
    · show OwnKit.Go κ h0 0 0 7 #[.val (.long sh), .second, .val (.int rd), .val (.long sq), .second, .val (.int fl), .val (.long e), .second, .val (.long of), .second, .unset, .unset, .unset, .unset, .unset, .unset, .unset, .unset] []
      refine OwnKit.iconst K at_7 ?_
      show OwnKit.Go κ h0 0 0 8 #[.val (.long sh), .second, .val (.int rd), .val (.long sq), .second, .val (.int fl), .val (.long e), .second, .val (.long of), .second, .unset, .unset, .unset, .unset, .unset, .unset, .unset, .unset] [.int (1 : Int32)]
      refine OwnKit.goto K at_8 (by decide) (pc' := 12) rfl ?_
      show OwnKit.Go κ h0 0 0 12 #[.val (.long sh), .second, .val (.int rd), .val (.long sq), .second, .val (.int fl), .val (.long e), .second, .val (.long of), .second, .unset, .unset, .unset, .unset, .unset, .unset, .unset, .unset] [.int (1 : Int32)]
      refine OwnKit.istore K at_12 (l' := #[.val (.long sh), .second, .val (.int rd), .val (.long sq), .second, .val (.int fl), .val (.long e), .second, .val (.long of), .second, .val (.int (1 : Int32)), .unset, .unset, .unset, .unset, .unset, .unset, .unset]) rfl ?_
      show OwnKit.Go κ h0 0 0 14 #[.val (.long sh), .second, .val (.int rd), .val (.long sq), .second, .val (.int fl), .val (.long e), .second, .val (.long of), .second, .val (.int (1 : Int32)), .unset, .unset, .unset, .unset, .unset, .unset, .unset] []
      refine OwnKit.iloadN K at_14 rfl ?_
      show OwnKit.Go κ h0 0 0 15 #[.val (.long sh), .second, .val (.int rd), .val (.long sq), .second, .val (.int fl), .val (.long e), .second, .val (.long of), .second, .val (.int (1 : Int32)), .unset, .unset, .unset, .unset, .unset, .unset, .unset] [.int rd]
      refine OwnKit.ldcI K at_15 (hw _ (List.mem_of_getElem? (i := 0) rfl)) ?_
      show OwnKit.Go κ h0 0 0 17 #[.val (.long sh), .second, .val (.int rd), .val (.long sq), .second, .val (.int fl), .val (.long e), .second, .val (.long of), .second, .val (.int (1 : Int32)), .unset, .unset, .unset, .unset, .unset, .unset, .unset] [.int (2147483647 : Int32), .int rd]
      refine OwnKit.iand K at_17 ?_
      show OwnKit.Go κ h0 0 0 18 #[.val (.long sh), .second, .val (.int rd), .val (.long sq), .second, .val (.int fl), .val (.long e), .second, .val (.long of), .second, .val (.int (1 : Int32)), .unset, .unset, .unset, .unset, .unset, .unset, .unset] [.int (rd &&& (2147483647 : Int32))]
      refine OwnKit.bipush K at_18 ?_
      show OwnKit.Go κ h0 0 0 20 #[.val (.long sh), .second, .val (.int rd), .val (.long sq), .second, .val (.int fl), .val (.long e), .second, .val (.long of), .second, .val (.int (1 : Int32)), .unset, .unset, .unset, .unset, .unset, .unset, .unset] [.int (101 : Int32), .int (rd &&& (2147483647 : Int32))]
      refine OwnKit.irem K at_20 (by decide) ?_
      show OwnKit.Go κ h0 0 0 21 #[.val (.long sh), .second, .val (.int rd), .val (.long sq), .second, .val (.int fl), .val (.long e), .second, .val (.long of), .second, .val (.int (1 : Int32)), .unset, .unset, .unset, .unset, .unset, .unset, .unset] [.int ((rd &&& (2147483647 : Int32)) % (101 : Int32))]
      refine OwnKit.istore K at_21 (l' := #[.val (.long sh), .second, .val (.int rd), .val (.long sq), .second, .val (.int fl), .val (.long e), .second, .val (.long of), .second, .val (.int (1 : Int32)), .val (.int ((rd &&& (2147483647 : Int32)) % (101 : Int32))), .unset, .unset, .unset, .unset, .unset, .unset]) rfl ?_
      show OwnKit.Go κ h0 0 0 23 #[.val (.long sh), .second, .val (.int rd), .val (.long sq), .second, .val (.int fl), .val (.long e), .second, .val (.long of), .second, .val (.int (1 : Int32)), .val (.int ((rd &&& (2147483647 : Int32)) % (101 : Int32))), .unset, .unset, .unset, .unset, .unset, .unset] []
      generalize hr : (rd &&& (2147483647 : Int32)) % (101 : Int32) = r
      show OwnKit.Go κ h0 0 0 23 #[.val (.long sh), .second, .val (.int rd), .val (.long sq), .second, .val (.int fl), .val (.long e), .second, .val (.long of), .second, .val (.int (1 : Int32)), .val (.int r), .unset, .unset, .unset, .unset, .unset, .unset] []
      refine OwnKit.iload K at_23 rfl ?_
      show OwnKit.Go κ h0 0 0 25 #[.val (.long sh), .second, .val (.int rd), .val (.long sq), .second, .val (.int fl), .val (.long e), .second, .val (.long of), .second, .val (.int (1 : Int32)), .val (.int r), .unset, .unset, .unset, .unset, .unset, .unset] [.int fl]
      refine OwnKit.iconst K at_25 ?_
      show OwnKit.Go κ h0 0 0 26 #[.val (.long sh), .second, .val (.int rd), .val (.long sq), .second, .val (.int fl), .val (.long e), .second, .val (.long of), .second, .val (.int (1 : Int32)), .val (.int r), .unset, .unset, .unset, .unset, .unset, .unset] [.int (1 : Int32), .int fl]
      refine OwnKit.ishr K at_26 ?_
      show OwnKit.Go κ h0 0 0 27 #[.val (.long sh), .second, .val (.int rd), .val (.long sq), .second, .val (.int fl), .val (.long e), .second, .val (.long of), .second, .val (.int (1 : Int32)), .val (.int r), .unset, .unset, .unset, .unset, .unset, .unset] [.int (fl >>> ((1 : Int32) &&& 31))]
      refine OwnKit.i2l K at_27 ?_
      show OwnKit.Go κ h0 0 0 28 #[.val (.long sh), .second, .val (.int rd), .val (.long sq), .second, .val (.int fl), .val (.long e), .second, .val (.long of), .second, .val (.int (1 : Int32)), .val (.int r), .unset, .unset, .unset, .unset, .unset, .unset] [.long ((fl >>> ((1 : Int32) &&& 31)).toInt64)]
      refine OwnKit.lstore K at_28 (l' := #[.val (.long sh), .second, .val (.int rd), .val (.long sq), .second, .val (.int fl), .val (.long e), .second, .val (.long of), .second, .val (.int (1 : Int32)), .val (.int r), .val (.long ((fl >>> ((1 : Int32) &&& 31)).toInt64)), .second, .unset, .unset, .unset, .unset]) rfl ?_
      show OwnKit.Go κ h0 0 0 30 #[.val (.long sh), .second, .val (.int rd), .val (.long sq), .second, .val (.int fl), .val (.long e), .second, .val (.long of), .second, .val (.int (1 : Int32)), .val (.int r), .val (.long ((fl >>> ((1 : Int32) &&& 31)).toInt64)), .second, .unset, .unset, .unset, .unset] []
      refine OwnKit.newObj K at_30 (hw _ (List.mem_of_getElem? (i := 1) rfl)) (hw _ (List.mem_of_getElem? (i := 2) rfl)) (hw _ (List.mem_of_getElem? (i := 3) rfl)) (Nat.le_of_ble_eq_true rfl) (Nat.le_of_ble_eq_true rfl) ?_
      intro h49 a50 g51 G52 Ex53 E54 D55 U56
      have F57 : Fld Z h49 a50 "com/example/fair_throttle/fairthrottle/reporting/MeasuredLoss" "combinedShare" "J" (.long (0 : Int64)) := D55 (Or.inr (hw _ (List.mem_of_getElem? (i := 30) rfl))) (show parseFieldDescriptor "J" = some (.long) from by decide +kernel)
      have F58 : Fld Z h49 a50 "com/example/fair_throttle/fairthrottle/reporting/MeasuredLoss" "loss" "Lcom/example/fair_throttle/fairthrottle/reports/Algorithm$Loss;" (.null) := D55 (Or.inr (hw _ (List.mem_of_getElem? (i := 32) rfl))) (show parseFieldDescriptor "Lcom/example/fair_throttle/fairthrottle/reports/Algorithm$Loss;" = some ((.object "com/example/fair_throttle/fairthrottle/reports/Algorithm$Loss")) from by decide +kernel)
      have F59 : Fld Z h49 a50 "com/example/fair_throttle/fairthrottle/reporting/MeasuredLoss" "sequenceNumber" "J" (.long (0 : Int64)) := D55 (Or.inr (hw _ (List.mem_of_getElem? (i := 34) rfl))) (show parseFieldDescriptor "J" = some (.long) from by decide +kernel)
      have F60 : Fld Z h49 a50 "com/example/fair_throttle/fairthrottle/reporting/MeasuredLoss" "measuring" "Z" (.int (0 : Int32)) := D55 (Or.inr (hw _ (List.mem_of_getElem? (i := 36) rfl))) (show parseFieldDescriptor "Z" = some (.boolean) from by decide +kernel)
      have F61 : Fld Z h49 a50 "com/example/fair_throttle/fairthrottle/reporting/MeasuredLoss" "periodEndsAt" "J" (.long (0 : Int64)) := D55 (Or.inr (hw _ (List.mem_of_getElem? (i := 38) rfl))) (show parseFieldDescriptor "J" = some (.long) from by decide +kernel)
      have F62 : Fld Z h49 a50 "com/example/fair_throttle/fairthrottle/reporting/MeasuredLoss" "countedBefore" "J" (.long (0 : Int64)) := D55 (Or.inr (hw _ (List.mem_of_getElem? (i := 40) rfl))) (show parseFieldDescriptor "J" = some (.long) from by decide +kernel)
      show OwnKit.Go κ h49 1 6 33 #[.val (.long sh), .second, .val (.int rd), .val (.long sq), .second, .val (.int fl), .val (.long e), .second, .val (.long of), .second, .val (.int (1 : Int32)), .val (.int r), .val (.long ((fl >>> ((1 : Int32) &&& 31)).toInt64)), .second, .unset, .unset, .unset, .unset] [.ref a50]
      refine OwnKit.dup K at_33 rfl ?_
      show OwnKit.Go κ h49 1 6 34 #[.val (.long sh), .second, .val (.int rd), .val (.long sq), .second, .val (.int fl), .val (.long e), .second, .val (.long of), .second, .val (.int (1 : Int32)), .val (.int r), .val (.long ((fl >>> ((1 : Int32) &&& 31)).toInt64)), .second, .unset, .unset, .unset, .unset] [.ref a50, .ref a50]
      refine OwnKit.lloadN K at_34 rfl ?_
      show OwnKit.Go κ h49 1 6 35 #[.val (.long sh), .second, .val (.int rd), .val (.long sq), .second, .val (.int fl), .val (.long e), .second, .val (.long of), .second, .val (.int (1 : Int32)), .val (.int r), .val (.long ((fl >>> ((1 : Int32) &&& 31)).toInt64)), .second, .unset, .unset, .unset, .unset] [.long sh, .ref a50, .ref a50]
      refine OwnKit.newObj K at_35 (hw _ (List.mem_of_getElem? (i := 4) rfl)) (hw _ (List.mem_of_getElem? (i := 5) rfl)) (hw _ (List.mem_of_getElem? (i := 6) rfl)) (Nat.le_of_ble_eq_true rfl) (Nat.le_of_ble_eq_true rfl) ?_
      intro h63 a64 g65 G66 Ex67 E68 D69 U70
      have ne71 : a50 ≠ a64 := by rw [g65]; exact Nat.ne_of_lt E54.lt
      have E72 := E54.ext Ex67
      have F73 := F57.ext Ex67
      have F74 := F58.ext Ex67
      have F75 := F59.ext Ex67
      have F76 := F60.ext Ex67
      have F77 := F61.ext Ex67
      have F78 := F62.ext Ex67
      have F79 : Fld Z h63 a64 "com/example/fair_throttle/fairthrottle/reports/Algorithm$Loss" "reductionPercent" "I" (.int (0 : Int32)) := D69 (Or.inr (hw _ (List.mem_of_getElem? (i := 24) rfl))) (show parseFieldDescriptor "I" = some (.int) from by decide +kernel)
      show OwnKit.Go κ h63 2 7 38 #[.val (.long sh), .second, .val (.int rd), .val (.long sq), .second, .val (.int fl), .val (.long e), .second, .val (.long of), .second, .val (.int (1 : Int32)), .val (.int r), .val (.long ((fl >>> ((1 : Int32) &&& 31)).toInt64)), .second, .unset, .unset, .unset, .unset] [.ref a64, .long sh, .ref a50, .ref a50]
      refine OwnKit.dup K at_38 rfl ?_
      show OwnKit.Go κ h63 2 7 39 #[.val (.long sh), .second, .val (.int rd), .val (.long sq), .second, .val (.int fl), .val (.long e), .second, .val (.long of), .second, .val (.int (1 : Int32)), .val (.int r), .val (.long ((fl >>> ((1 : Int32) &&& 31)).toInt64)), .second, .unset, .unset, .unset, .unset] [.ref a64, .ref a64, .long sh, .ref a50, .ref a50]
      refine OwnKit.iload K at_39 rfl ?_
      show OwnKit.Go κ h63 2 7 41 #[.val (.long sh), .second, .val (.int rd), .val (.long sq), .second, .val (.int fl), .val (.long e), .second, .val (.long of), .second, .val (.int (1 : Int32)), .val (.int r), .val (.long ((fl >>> ((1 : Int32) &&& 31)).toInt64)), .second, .unset, .unset, .unset, .unset] [.int r, .ref a64, .ref a64, .long sh, .ref a50, .ref a50]
      refine OwnKit.invC (y := (⟨"com/example/fair_throttle/fairthrottle/reports/Algorithm$Loss", "<init>", "(I)V"⟩ : MethodName)) (argsL := [.int r]) (rest := [.ref a64, .long sh, .ref a50, .ref a50]) K (c_loss l Z a0 hw n0 h63 a64 r (own_r hr).1 (own_r hr).2 E68 G66 F79) at_41 rfl (hw _ (List.mem_of_getElem? (i := 7) rfl)) (hw _ (List.mem_of_getElem? (i := 8) rfl)) (hw _ (List.mem_of_getElem? (i := 9) rfl)) (hw _ (List.mem_of_getElem? (i := 6) rfl)) (by decide) (lenOf (by decide +kernel : parseMethodDescriptor "(I)V" = some ⟨[.int], none⟩) rfl) rfl rfl (W := 5) (Nat.le_of_ble_eq_true rfl) (Nat.le_of_ble_eq_true rfl) (Nat.le_of_ble_eq_true rfl) (Nat.le_of_ble_eq_true rfl) (Nat.le_of_ble_eq_true rfl) ?_
      rintro _ h80 ⟨rfl, Kx⟩ g81
      have E82 := E72.keep Kx
      have F83 := F73.keep Kx (ninS ne71 nin0)
      have F84 := F74.keep Kx (ninS ne71 nin0)
      have F85 := F75.keep Kx (ninS ne71 nin0)
      have F86 := F76.keep Kx (ninS ne71 nin0)
      have F87 := F77.keep Kx (ninS ne71 nin0)
      have F88 := F78.keep Kx (ninS ne71 nin0)
      have E89 := E68.keep Kx
      show OwnKit.Go κ h80 2 7 44 #[.val (.long sh), .second, .val (.int rd), .val (.long sq), .second, .val (.int fl), .val (.long e), .second, .val (.long of), .second, .val (.int (1 : Int32)), .val (.int r), .val (.long ((fl >>> ((1 : Int32) &&& 31)).toInt64)), .second, .unset, .unset, .unset, .unset] [.ref a64, .long sh, .ref a50, .ref a50]
      refine OwnKit.lloadN K at_44 rfl ?_
      show OwnKit.Go κ h80 2 7 45 #[.val (.long sh), .second, .val (.int rd), .val (.long sq), .second, .val (.int fl), .val (.long e), .second, .val (.long of), .second, .val (.int (1 : Int32)), .val (.int r), .val (.long ((fl >>> ((1 : Int32) &&& 31)).toInt64)), .second, .unset, .unset, .unset, .unset] [.long sq, .ref a64, .long sh, .ref a50, .ref a50]
      refine OwnKit.iload K at_45 rfl ?_
      show OwnKit.Go κ h80 2 7 47 #[.val (.long sh), .second, .val (.int rd), .val (.long sq), .second, .val (.int fl), .val (.long e), .second, .val (.long of), .second, .val (.int (1 : Int32)), .val (.int r), .val (.long ((fl >>> ((1 : Int32) &&& 31)).toInt64)), .second, .unset, .unset, .unset, .unset] [.int (1 : Int32), .long sq, .ref a64, .long sh, .ref a50, .ref a50]
      refine OwnKit.lload K at_47 rfl ?_
      show OwnKit.Go κ h80 2 7 49 #[.val (.long sh), .second, .val (.int rd), .val (.long sq), .second, .val (.int fl), .val (.long e), .second, .val (.long of), .second, .val (.int (1 : Int32)), .val (.int r), .val (.long ((fl >>> ((1 : Int32) &&& 31)).toInt64)), .second, .unset, .unset, .unset, .unset] [.long e, .int (1 : Int32), .long sq, .ref a64, .long sh, .ref a50, .ref a50]
      refine OwnKit.lload K at_49 rfl ?_
      show OwnKit.Go κ h80 2 7 51 #[.val (.long sh), .second, .val (.int rd), .val (.long sq), .second, .val (.int fl), .val (.long e), .second, .val (.long of), .second, .val (.int (1 : Int32)), .val (.int r), .val (.long ((fl >>> ((1 : Int32) &&& 31)).toInt64)), .second, .unset, .unset, .unset, .unset] [.long ((fl >>> ((1 : Int32) &&& 31)).toInt64), .long e, .int (1 : Int32), .long sq, .ref a64, .long sh, .ref a50, .ref a50]
      refine OwnKit.invC (y := (⟨"com/example/fair_throttle/fairthrottle/reporting/MeasuredLoss", "<init>", "(JLcom/example/fair_throttle/fairthrottle/reports/Algorithm$Loss;JZJJ)V"⟩ : MethodName)) (argsL := [.long sh, .ref a64, .long sq, .int (1 : Int32), .long e, .long ((fl >>> ((1 : Int32) &&& 31)).toInt64)]) (rest := [.ref a50]) K (c_ml l Z a0 hw n0 h80 a50 a64 sh sq e ((fl >>> ((1 : Int32) &&& 31)).toInt64) (1 : Int32) (by decide) E82 G52 F83 F84 F85 F86 F87 F88) at_51 rfl (hw _ (List.mem_of_getElem? (i := 25) rfl)) (hw _ (List.mem_of_getElem? (i := 26) rfl)) (hw _ (List.mem_of_getElem? (i := 27) rfl)) (hw _ (List.mem_of_getElem? (i := 3) rfl)) (by decide) (lenOf (by decide +kernel : parseMethodDescriptor "(JLcom/example/fair_throttle/fairthrottle/reports/Algorithm$Loss;JZJJ)V" = some ⟨[.long, (.object "com/example/fair_throttle/fairthrottle/reports/Algorithm$Loss"), .long, .boolean, .long, .long], none⟩) rfl) rfl rfl (W := 1) (Nat.le_of_ble_eq_true rfl) (Nat.le_of_ble_eq_true rfl) (Nat.le_of_ble_eq_true rfl) (Nat.le_of_ble_eq_true rfl) (Nat.le_of_ble_eq_true rfl) ?_
      rintro _ h90 ⟨rfl, Ee, Fm, Fe⟩ g91
      show OwnKit.Go κ h90 2 7 54 #[.val (.long sh), .second, .val (.int rd), .val (.long sq), .second, .val (.int fl), .val (.long e), .second, .val (.long of), .second, .val (.int (1 : Int32)), .val (.int r), .val (.long ((fl >>> ((1 : Int32) &&& 31)).toInt64)), .second, .unset, .unset, .unset, .unset] [.ref a50]
      refine OwnKit.astore K at_54 rfl (l' := #[.val (.long sh), .second, .val (.int rd), .val (.long sq), .second, .val (.int fl), .val (.long e), .second, .val (.long of), .second, .val (.int (1 : Int32)), .val (.int r), .val (.long ((fl >>> ((1 : Int32) &&& 31)).toInt64)), .second, .val (.ref a50), .unset, .unset, .unset]) rfl ?_
      show OwnKit.Go κ h90 2 7 56 #[.val (.long sh), .second, .val (.int rd), .val (.long sq), .second, .val (.int fl), .val (.long e), .second, .val (.long of), .second, .val (.int (1 : Int32)), .val (.int r), .val (.long ((fl >>> ((1 : Int32) &&& 31)).toInt64)), .second, .val (.ref a50), .unset, .unset, .unset] []
      refine OwnKit.lload K at_56 rfl ?_
      show OwnKit.Go κ h90 2 7 58 #[.val (.long sh), .second, .val (.int rd), .val (.long sq), .second, .val (.int fl), .val (.long e), .second, .val (.long of), .second, .val (.int (1 : Int32)), .val (.int r), .val (.long ((fl >>> ((1 : Int32) &&& 31)).toInt64)), .second, .val (.ref a50), .unset, .unset, .unset] [.long e]
      refine OwnKit.lload K at_58 rfl ?_
      show OwnKit.Go κ h90 2 7 60 #[.val (.long sh), .second, .val (.int rd), .val (.long sq), .second, .val (.int fl), .val (.long e), .second, .val (.long of), .second, .val (.int (1 : Int32)), .val (.int r), .val (.long ((fl >>> ((1 : Int32) &&& 31)).toInt64)), .second, .val (.ref a50), .unset, .unset, .unset] [.long of, .long e]
      refine OwnKit.ladd K at_60 ?_
      show OwnKit.Go κ h90 2 7 61 #[.val (.long sh), .second, .val (.int rd), .val (.long sq), .second, .val (.int fl), .val (.long e), .second, .val (.long of), .second, .val (.int (1 : Int32)), .val (.int r), .val (.long ((fl >>> ((1 : Int32) &&& 31)).toInt64)), .second, .val (.ref a50), .unset, .unset, .unset] [.long (e + of)]
      refine OwnKit.lstore K at_61 (l' := #[.val (.long sh), .second, .val (.int rd), .val (.long sq), .second, .val (.int fl), .val (.long e), .second, .val (.long of), .second, .val (.int (1 : Int32)), .val (.int r), .val (.long ((fl >>> ((1 : Int32) &&& 31)).toInt64)), .second, .val (.ref a50), .val (.long (e + of)), .second, .unset]) rfl ?_
      show OwnKit.Go κ h90 2 7 63 #[.val (.long sh), .second, .val (.int rd), .val (.long sq), .second, .val (.int fl), .val (.long e), .second, .val (.long of), .second, .val (.int (1 : Int32)), .val (.int r), .val (.long ((fl >>> ((1 : Int32) &&& 31)).toInt64)), .second, .val (.ref a50), .val (.long (e + of)), .second, .unset] []
      refine OwnKit.iload K at_63 rfl ?_
      show OwnKit.Go κ h90 2 7 65 #[.val (.long sh), .second, .val (.int rd), .val (.long sq), .second, .val (.int fl), .val (.long e), .second, .val (.long of), .second, .val (.int (1 : Int32)), .val (.int r), .val (.long ((fl >>> ((1 : Int32) &&& 31)).toInt64)), .second, .val (.ref a50), .val (.long (e + of)), .second, .unset] [.int (1 : Int32)]
      refine OwnKit.ifeq K at_65 (by decide) (pc' := 79) rfl  (fun b92 => ?_) (fun b92 => ?_)
      · exact absurd b92 (by decide)
      · show OwnKit.Go κ h90 2 7 68 #[.val (.long sh), .second, .val (.int rd), .val (.long sq), .second, .val (.int fl), .val (.long e), .second, .val (.long of), .second, .val (.int (1 : Int32)), .val (.int r), .val (.long ((fl >>> ((1 : Int32) &&& 31)).toInt64)), .second, .val (.ref a50), .val (.long (e + of)), .second, .unset] []
        refine OwnKit.lload K at_68 rfl ?_
        show OwnKit.Go κ h90 2 7 70 #[.val (.long sh), .second, .val (.int rd), .val (.long sq), .second, .val (.int fl), .val (.long e), .second, .val (.long of), .second, .val (.int (1 : Int32)), .val (.int r), .val (.long ((fl >>> ((1 : Int32) &&& 31)).toInt64)), .second, .val (.ref a50), .val (.long (e + of)), .second, .unset] [.long of]
        refine OwnKit.lconst K at_70 ?_
        show OwnKit.Go κ h90 2 7 71 #[.val (.long sh), .second, .val (.int rd), .val (.long sq), .second, .val (.int fl), .val (.long e), .second, .val (.long of), .second, .val (.int (1 : Int32)), .val (.int r), .val (.long ((fl >>> ((1 : Int32) &&& 31)).toInt64)), .second, .val (.ref a50), .val (.long (e + of)), .second, .unset] [.long (0 : Int64), .long of]
        refine OwnKit.lcmp K at_71 ?_
        show OwnKit.Go κ h90 2 7 72 #[.val (.long sh), .second, .val (.int rd), .val (.long sq), .second, .val (.int fl), .val (.long e), .second, .val (.long of), .second, .val (.int (1 : Int32)), .val (.int r), .val (.long ((fl >>> ((1 : Int32) &&& 31)).toInt64)), .second, .val (.ref a50), .val (.long (e + of)), .second, .unset] [.int (XT.cmpL of (0 : Int64))]
        refine OwnKit.ifge K at_72 (by decide) (pc' := 79) rfl  (fun b93 => ?_) (fun b93 => ?_)
        · show OwnKit.Go κ h90 2 7 79 #[.val (.long sh), .second, .val (.int rd), .val (.long sq), .second, .val (.int fl), .val (.long e), .second, .val (.long of), .second, .val (.int (1 : Int32)), .val (.int r), .val (.long ((fl >>> ((1 : Int32) &&& 31)).toInt64)), .second, .val (.ref a50), .val (.long (e + of)), .second, .unset] []
          refine OwnKit.iconst K at_79 ?_
          show OwnKit.Go κ h90 2 7 80 #[.val (.long sh), .second, .val (.int rd), .val (.long sq), .second, .val (.int fl), .val (.long e), .second, .val (.long of), .second, .val (.int (1 : Int32)), .val (.int r), .val (.long ((fl >>> ((1 : Int32) &&& 31)).toInt64)), .second, .val (.ref a50), .val (.long (e + of)), .second, .unset] [.int (0 : Int32)]
          refine OwnKit.istore K at_80 (l' := #[.val (.long sh), .second, .val (.int rd), .val (.long sq), .second, .val (.int fl), .val (.long e), .second, .val (.long of), .second, .val (.int (1 : Int32)), .val (.int r), .val (.long ((fl >>> ((1 : Int32) &&& 31)).toInt64)), .second, .val (.ref a50), .val (.long (e + of)), .second, .val (.int (0 : Int32))]) rfl ?_
          show OwnKit.Go κ h90 2 7 82 #[.val (.long sh), .second, .val (.int rd), .val (.long sq), .second, .val (.int fl), .val (.long e), .second, .val (.long of), .second, .val (.int (1 : Int32)), .val (.int r), .val (.long ((fl >>> ((1 : Int32) &&& 31)).toInt64)), .second, .val (.ref a50), .val (.long (e + of)), .second, .val (.int (0 : Int32))] []
          refine OwnKit.aload K at_82 rfl rfl ?_
          show OwnKit.Go κ h90 2 7 84 #[.val (.long sh), .second, .val (.int rd), .val (.long sq), .second, .val (.int fl), .val (.long e), .second, .val (.long of), .second, .val (.int (1 : Int32)), .val (.int r), .val (.long ((fl >>> ((1 : Int32) &&& 31)).toInt64)), .second, .val (.ref a50), .val (.long (e + of)), .second, .val (.int (0 : Int32))] [.ref a50]
          refine OwnKit.lload K at_84 rfl ?_
          show OwnKit.Go κ h90 2 7 86 #[.val (.long sh), .second, .val (.int rd), .val (.long sq), .second, .val (.int fl), .val (.long e), .second, .val (.long of), .second, .val (.int (1 : Int32)), .val (.int r), .val (.long ((fl >>> ((1 : Int32) &&& 31)).toInt64)), .second, .val (.ref a50), .val (.long (e + of)), .second, .val (.int (0 : Int32))] [.long (e + of), .ref a50]
          refine OwnKit.invV (y := (⟨"com/example/fair_throttle/fairthrottle/reporting/MeasuredLoss", "holds", "(J)Z"⟩ : MethodName)) (z := (⟨"com/example/fair_throttle/fairthrottle/reporting/MeasuredLoss", "holds", "(J)Z"⟩ : MethodName)) (argsL := [.long (e + of)]) (rest := []) K (c_hold l Z a0 hw n0 h90 a50 (1 : Int32) e (e + of) Ee Fm Fe) at_86 Ee (hw _ (List.mem_of_getElem? (i := 41) rfl)) (hw _ (List.mem_of_getElem? (i := 42) rfl)) (OwnKit.nfS (hw _ (List.mem_of_getElem? (i := 44) rfl))) (hw _ (List.mem_of_getElem? (i := 44) rfl)) (hw _ (List.mem_of_getElem? (i := 43) rfl)) (hw _ (List.mem_of_getElem? (i := 45) rfl)) (hw _ (List.mem_of_getElem? (i := 3) rfl)) (by decide) (lenOf (by decide +kernel : parseMethodDescriptor "(J)Z" = some ⟨[.long], some .boolean⟩) rfl) rfl rfl (W := 0) (Nat.le_of_ble_eq_true rfl) (Nat.le_of_ble_eq_true rfl) (Nat.le_of_ble_eq_true rfl) (Nat.le_of_ble_eq_true rfl) (Nat.le_of_ble_eq_true rfl) ?_
          rintro _ h94 ⟨⟨z, rfl, hz⟩, rfl⟩ g95
          show OwnKit.Go κ h90 2 7 89 #[.val (.long sh), .second, .val (.int rd), .val (.long sq), .second, .val (.int fl), .val (.long e), .second, .val (.long of), .second, .val (.int (1 : Int32)), .val (.int r), .val (.long ((fl >>> ((1 : Int32) &&& 31)).toInt64)), .second, .val (.ref a50), .val (.long (e + of)), .second, .val (.int (0 : Int32))] [.int z]
          refine OwnKit.iload K at_89 rfl ?_
          show OwnKit.Go κ h90 2 7 91 #[.val (.long sh), .second, .val (.int rd), .val (.long sq), .second, .val (.int fl), .val (.long e), .second, .val (.long of), .second, .val (.int (1 : Int32)), .val (.int r), .val (.long ((fl >>> ((1 : Int32) &&& 31)).toInt64)), .second, .val (.ref a50), .val (.long (e + of)), .second, .val (.int (0 : Int32))] [.int (0 : Int32), .int z]
          refine OwnKit.icmpne K at_91 (by decide) (pc' := 98) rfl  (fun b96 => ?_) (fun b96 => ?_)
          · exfalso
            have q := OwnKit.cmp_lt of 0
            have e0 : (0 : Int64).toInt = 0 := by decide
            rw [own_sub] at hz
            rcases hz with ⟨⟨e1, e2⟩, e3⟩ | ⟨e1, e3⟩
            · first | exact e1 rfl | exact b96 e3 | omega
            · first | exact b96 e3 | exact e1 ⟨by decide, by omega⟩
          · show OwnKit.Go κ h90 2 7 94 #[.val (.long sh), .second, .val (.int rd), .val (.long sq), .second, .val (.int fl), .val (.long e), .second, .val (.long of), .second, .val (.int (1 : Int32)), .val (.int r), .val (.long ((fl >>> ((1 : Int32) &&& 31)).toInt64)), .second, .val (.ref a50), .val (.long (e + of)), .second, .val (.int (0 : Int32))] []
            refine OwnKit.iconst K at_94 ?_
            show OwnKit.Go κ h90 2 7 95 #[.val (.long sh), .second, .val (.int rd), .val (.long sq), .second, .val (.int fl), .val (.long e), .second, .val (.long of), .second, .val (.int (1 : Int32)), .val (.int r), .val (.long ((fl >>> ((1 : Int32) &&& 31)).toInt64)), .second, .val (.ref a50), .val (.long (e + of)), .second, .val (.int (0 : Int32))] [.int (1 : Int32)]
            refine OwnKit.goto K at_95 (by decide) (pc' := 99) rfl ?_
            show OwnKit.Go κ h90 2 7 99 #[.val (.long sh), .second, .val (.int rd), .val (.long sq), .second, .val (.int fl), .val (.long e), .second, .val (.long of), .second, .val (.int (1 : Int32)), .val (.int r), .val (.long ((fl >>> ((1 : Int32) &&& 31)).toInt64)), .second, .val (.ref a50), .val (.long (e + of)), .second, .val (.int (0 : Int32))] [.int (1 : Int32)]
            refine OwnKit.ireturn K at_99 (Or.inr (Or.inl rfl)) rfl ?_ (Nat.le_of_ble_eq_true rfl) (Nat.le_of_ble_eq_true rfl)
            exact rfl
        · show OwnKit.Go κ h90 2 7 75 #[.val (.long sh), .second, .val (.int rd), .val (.long sq), .second, .val (.int fl), .val (.long e), .second, .val (.long of), .second, .val (.int (1 : Int32)), .val (.int r), .val (.long ((fl >>> ((1 : Int32) &&& 31)).toInt64)), .second, .val (.ref a50), .val (.long (e + of)), .second, .unset] []
          refine OwnKit.iconst K at_75 ?_
          show OwnKit.Go κ h90 2 7 76 #[.val (.long sh), .second, .val (.int rd), .val (.long sq), .second, .val (.int fl), .val (.long e), .second, .val (.long of), .second, .val (.int (1 : Int32)), .val (.int r), .val (.long ((fl >>> ((1 : Int32) &&& 31)).toInt64)), .second, .val (.ref a50), .val (.long (e + of)), .second, .unset] [.int (1 : Int32)]
          refine OwnKit.goto K at_76 (by decide) (pc' := 80) rfl ?_
          show OwnKit.Go κ h90 2 7 80 #[.val (.long sh), .second, .val (.int rd), .val (.long sq), .second, .val (.int fl), .val (.long e), .second, .val (.long of), .second, .val (.int (1 : Int32)), .val (.int r), .val (.long ((fl >>> ((1 : Int32) &&& 31)).toInt64)), .second, .val (.ref a50), .val (.long (e + of)), .second, .unset] [.int (1 : Int32)]
          refine OwnKit.istore K at_80 (l' := #[.val (.long sh), .second, .val (.int rd), .val (.long sq), .second, .val (.int fl), .val (.long e), .second, .val (.long of), .second, .val (.int (1 : Int32)), .val (.int r), .val (.long ((fl >>> ((1 : Int32) &&& 31)).toInt64)), .second, .val (.ref a50), .val (.long (e + of)), .second, .val (.int (1 : Int32))]) rfl ?_
          show OwnKit.Go κ h90 2 7 82 #[.val (.long sh), .second, .val (.int rd), .val (.long sq), .second, .val (.int fl), .val (.long e), .second, .val (.long of), .second, .val (.int (1 : Int32)), .val (.int r), .val (.long ((fl >>> ((1 : Int32) &&& 31)).toInt64)), .second, .val (.ref a50), .val (.long (e + of)), .second, .val (.int (1 : Int32))] []
          refine OwnKit.aload K at_82 rfl rfl ?_
          show OwnKit.Go κ h90 2 7 84 #[.val (.long sh), .second, .val (.int rd), .val (.long sq), .second, .val (.int fl), .val (.long e), .second, .val (.long of), .second, .val (.int (1 : Int32)), .val (.int r), .val (.long ((fl >>> ((1 : Int32) &&& 31)).toInt64)), .second, .val (.ref a50), .val (.long (e + of)), .second, .val (.int (1 : Int32))] [.ref a50]
          refine OwnKit.lload K at_84 rfl ?_
          show OwnKit.Go κ h90 2 7 86 #[.val (.long sh), .second, .val (.int rd), .val (.long sq), .second, .val (.int fl), .val (.long e), .second, .val (.long of), .second, .val (.int (1 : Int32)), .val (.int r), .val (.long ((fl >>> ((1 : Int32) &&& 31)).toInt64)), .second, .val (.ref a50), .val (.long (e + of)), .second, .val (.int (1 : Int32))] [.long (e + of), .ref a50]
          refine OwnKit.invV (y := (⟨"com/example/fair_throttle/fairthrottle/reporting/MeasuredLoss", "holds", "(J)Z"⟩ : MethodName)) (z := (⟨"com/example/fair_throttle/fairthrottle/reporting/MeasuredLoss", "holds", "(J)Z"⟩ : MethodName)) (argsL := [.long (e + of)]) (rest := []) K (c_hold l Z a0 hw n0 h90 a50 (1 : Int32) e (e + of) Ee Fm Fe) at_86 Ee (hw _ (List.mem_of_getElem? (i := 41) rfl)) (hw _ (List.mem_of_getElem? (i := 42) rfl)) (OwnKit.nfS (hw _ (List.mem_of_getElem? (i := 44) rfl))) (hw _ (List.mem_of_getElem? (i := 44) rfl)) (hw _ (List.mem_of_getElem? (i := 43) rfl)) (hw _ (List.mem_of_getElem? (i := 45) rfl)) (hw _ (List.mem_of_getElem? (i := 3) rfl)) (by decide) (lenOf (by decide +kernel : parseMethodDescriptor "(J)Z" = some ⟨[.long], some .boolean⟩) rfl) rfl rfl (W := 0) (Nat.le_of_ble_eq_true rfl) (Nat.le_of_ble_eq_true rfl) (Nat.le_of_ble_eq_true rfl) (Nat.le_of_ble_eq_true rfl) (Nat.le_of_ble_eq_true rfl) ?_
          rintro _ h97 ⟨⟨z, rfl, hz⟩, rfl⟩ g98
          show OwnKit.Go κ h90 2 7 89 #[.val (.long sh), .second, .val (.int rd), .val (.long sq), .second, .val (.int fl), .val (.long e), .second, .val (.long of), .second, .val (.int (1 : Int32)), .val (.int r), .val (.long ((fl >>> ((1 : Int32) &&& 31)).toInt64)), .second, .val (.ref a50), .val (.long (e + of)), .second, .val (.int (1 : Int32))] [.int z]
          refine OwnKit.iload K at_89 rfl ?_
          show OwnKit.Go κ h90 2 7 91 #[.val (.long sh), .second, .val (.int rd), .val (.long sq), .second, .val (.int fl), .val (.long e), .second, .val (.long of), .second, .val (.int (1 : Int32)), .val (.int r), .val (.long ((fl >>> ((1 : Int32) &&& 31)).toInt64)), .second, .val (.ref a50), .val (.long (e + of)), .second, .val (.int (1 : Int32))] [.int (1 : Int32), .int z]
          refine OwnKit.icmpne K at_91 (by decide) (pc' := 98) rfl  (fun b99 => ?_) (fun b99 => ?_)
          · exfalso
            have q := OwnKit.cmp_lt of 0
            have e0 : (0 : Int64).toInt = 0 := by decide
            rw [own_sub] at hz
            rcases hz with ⟨⟨e1, e2⟩, e3⟩ | ⟨e1, e3⟩
            · first | exact e1 rfl | exact b99 e3 | omega
            · first | exact b99 e3 | exact e1 ⟨by decide, by omega⟩
          · show OwnKit.Go κ h90 2 7 94 #[.val (.long sh), .second, .val (.int rd), .val (.long sq), .second, .val (.int fl), .val (.long e), .second, .val (.long of), .second, .val (.int (1 : Int32)), .val (.int r), .val (.long ((fl >>> ((1 : Int32) &&& 31)).toInt64)), .second, .val (.ref a50), .val (.long (e + of)), .second, .val (.int (1 : Int32))] []
            refine OwnKit.iconst K at_94 ?_
            show OwnKit.Go κ h90 2 7 95 #[.val (.long sh), .second, .val (.int rd), .val (.long sq), .second, .val (.int fl), .val (.long e), .second, .val (.long of), .second, .val (.int (1 : Int32)), .val (.int r), .val (.long ((fl >>> ((1 : Int32) &&& 31)).toInt64)), .second, .val (.ref a50), .val (.long (e + of)), .second, .val (.int (1 : Int32))] [.int (1 : Int32)]
            refine OwnKit.goto K at_95 (by decide) (pc' := 99) rfl ?_
            show OwnKit.Go κ h90 2 7 99 #[.val (.long sh), .second, .val (.int rd), .val (.long sq), .second, .val (.int fl), .val (.long e), .second, .val (.long of), .second, .val (.int (1 : Int32)), .val (.int r), .val (.long ((fl >>> ((1 : Int32) &&& 31)).toInt64)), .second, .val (.ref a50), .val (.long (e + of)), .second, .val (.int (1 : Int32))] [.int (1 : Int32)]
            refine OwnKit.ireturn K at_99 (Or.inr (Or.inl rfl)) rfl ?_ (Nat.le_of_ble_eq_true rfl) (Nat.le_of_ble_eq_true rfl)
            exact rfl
  · intro m; first | rfl | (simp [entryFrame, mkF, argsToLocals, Value.category, maxLocals]; done)

set_option maxRecDepth 65536 in
set_option maxHeartbeats 40000000 in
theorem comes_1 {Post : Tables → Env → Array Value → State → Outcome → State → Prop} (hpost : ∀ tb e args s v u, (limb_1_1.after args s (.returned v) u = true ∧ limb_1_2.after args s (.returned v) u = true ∧ True) → FrameEnd s (.returned v) u (Jvm.fieldLocs frame_1_writes args s ++ Jvm.arrayLocs frame_1_arrays args s ++ Jvm.staticLocs frame_1_statics s) 16 128 → Post tb e args s (.returned v) u) :
    ArmFor flags0 classFile x code maxLocals ret World_1 tables_1 room_1 Calls_1 rest_1 Pre_1 Post := by
  intro l hfl _ _ p e ha hc hk s m args below hf hA hF happ hP
  obtain ⟨hcalls, hrest, hpre⟩ := hP
  obtain ⟨-, -, -, hnamed, -, -, -, hat⟩ := (Spec.applies_iff hf).mp happ
  obtain ⟨hg, hn⟩ := and_e (Cond.before_iff.mp (show (Jvm.Cond.and given_1 narrow_1).before args s = true from hpre))
  obtain ⟨hg0, hg1⟩ := and_e hg
  obtain ⟨hk1, hg2⟩ := and_e hg1
  obtain ⟨hk2, hg3⟩ := and_e hg2
  obtain ⟨hk3, hg4⟩ := and_e hg3
  obtain ⟨hk4, hg5⟩ := and_e hg4
  obtain ⟨hk5, hg6⟩ := and_e hg5
  obtain ⟨w0, w1, w2, w3, w4, w5, rfl⟩ : ∃ w0 w1 w2 w3 w4 w5 : Value, args = #[w0, w1, w2, w3, w4, w5] := by
    have hs : args.size = 6 := by simpa [Cond.value, given_1] using hg0
    obtain ⟨L⟩ := args
    match L, hs with
    | [w0, w1, w2, w3, w4, w5], _ => exact ⟨w0, w1, w2, w3, w4, w5, rfl⟩
  have hw := fun d (hd : d ∈ tables_1) => atoms_spec (ws := Jvm.Cond.code x code maxLocals ret :: tables_1) hat d (List.mem_cons_of_mem _ hd)
  have hfit : Fit s := fun {y c} hc i hi => by
    obtain ⟨ha, rfl⟩ := Array.getElem?_eq_some_iff.mp hc
    have q := List.all_eq_true.mp ((Array.all_eq_true_iff_forall_mem.mp hF) _ (Array.getElem_mem ha)) i (List.mem_range.mpr hi)
    simpa [Array.getElem?_eq_getElem hi] using q
  obtain ⟨p0, ep0⟩ := isL_v hk1
  obtain rfl : w0 = (.long p0) := Option.some.inj ep0
  obtain ⟨p1, ep1⟩ := is_v hk2
  obtain rfl : w1 = (.int p1) := Option.some.inj ep1
  obtain ⟨p2, ep2⟩ := isL_v hk3
  obtain rfl : w2 = (.long p2) := Option.some.inj ep2
  obtain ⟨p3, ep3⟩ := is_v hk4
  obtain rfl : w3 = (.int p3) := Option.some.inj ep3
  obtain ⟨p4, ep4⟩ := isL_v hk5
  obtain rfl : w4 = (.long p4) := Option.some.inj ep4
  obtain ⟨p5, ep5⟩ := isL_v hg6
  obtain rfl : w5 = (.long p5) := Option.some.inj ep5
  obtain ⟨n, o, h1, h2, h3, v, L, rfl, ⟨q1, N, -, -⟩, hq⟩ := (c_law l s _ hw _ s.heap p0 p1 p2 p3 p4 p5  ) (Old.start s) tables_1 p e ha hc hk s m _ below hf ((Spec.applies_iff_loose hf).mp happ).1 ⟨rfl, State.Warmed39.refl s, rfl⟩ trivial
  obtain rfl : v = some (.int 1) := q1
  refine ⟨n, _, h1, h2, h3, hpost _ _ _ _ _ _ ⟨Cond.after_iff.mpr rfl, Cond.after_iff.mpr (eq_i res_at (Term.int_eval (1)) rfl), trivial⟩ ⟨(hq.1 rfl).1, (hq.1 rfl).2.1, ((hq.1 rfl).2.2.sift fun y hy => Or.inr (N y hy)).mono (by decide) (by decide)⟩⟩
theorem main_1_1 : Claimed_1_1 := comes_1 fun _ _ _ _ _ _ h hF => ⟨h.1, hF⟩
theorem main_1_2 : Claimed_1_2 := comes_1 fun _ _ _ _ _ _ h hF => ⟨h.2.1, hF⟩
end Jvm.Pilot.@@N@@
namespace Jvm.Pilot.@@N@@
open Jvm Jvm.ClassFile Sem Op Lib Jvm.Free Jvm.Stand Jvm.Pilot.@@N@@.Jvm.D
/-! MADE BY PROGRAM (witnessworld.py) out of the Statement's table words and the real class files: 13 classes; the members and pool entries that the words name. The judged class is class 1, her method 1. -/
namespace start1
open Jvm.ClassFile
def u (s : String) : CpInfo := .utf8 (stringToUtf16 s)
/-- a pool by its gaps: so many unusable entries, then the entry; so many at the end -/
def gap : Nat → List CpInfo → List CpInfo
  | 0, r => r
  | n + 1, r => .unusable :: gap n r
def poolList (es : List (Nat × CpInfo)) (last : Nat) : List CpInfo := es.foldr (fun e r => gap e.1 (e.2 :: r)) (gap last [])
def pool (es : List (Nat × CpInfo)) (last : Nat) : Array CpInfo := ⟨poolList es last⟩
def fileOf (pool : Array CpInfo) (this : Nat) (attrs : Array Attribute := #[]) (ms : Array MethodInfo := #[]) (fl : Nat := 33) (sup : Nat := 0) (ifs : Array Nat := #[]) (fds : Array FieldInfo := #[]) : ClassFile where
  minorVersion := 0
  majorVersion := 65
  constantPool := pool
  accessFlags := fl
  thisClass := this
  superClass := sup
  interfaces := ifs
  fields := fds
  methods := ms
  attributes := attrs
def plain (name : String) (sup : Option ClassId) : Class where
  name := name
  kind := .ordinary
  loader := none
  accessFlags := 33
  super := sup
  interfaces := #[]
  cf := none
  fields := #[]
  methods := #[]
  instanceTypes := #[]
  staticTypes := #[]
  resolved := #[]
  callSites := []
  init := .initialized
  statics := none
  mirror := none

def pool0 : Array CpInfo := pool [(5, u "<init>"), (0, u "()V"), (1, .class_ 10), (1, u "java/lang/Object")] 113

def k0c0 : Code := { maxStack := 0, maxLocals := 1, code := object_method_1_code, exceptionTable := #[], attributes := #[] }
def k0m0 : Method := { name := "<init>", desc := "()V", sig := { parameters := [], returnType := none }, accessFlags := 1, code := some k0c0 }
/-- java/lang/Object -/
def k0 : Class := { plain "java/lang/Object" none with
  accessFlags := 33
  interfaces := #[]
  cf := some (fileOf pool0 8 #[] #[{ accessFlags := 1, nameIndex := 5, descriptorIndex := 6, attributes := #[] }] 33 0 #[] #[])
  fields := #[]
  methods := #[k0m0]
  instanceTypes := #[]
  staticTypes := #[]
  resolved := Array.replicate 124 none
  statics := none }

def pool1 : Array CpInfo := pool [(2, .class_ 4), (1, u "java/lang/Object"), (0, u "<init>"), (0, u "()V"), (0, .integer 2147483647), (0, .class_ 9), (0, u "com/example/fair_throttle/fairthrottle/reporting/MeasuredLoss"), (0, .class_ 11), (0, u "com/example/fair_throttle/fairthrottle/reports/Algorithm$Loss"), (0, .methodref 10 13), (0, .nameAndType 5 14), (0, u "(I)V"), (0, .methodref 8 16), (0, .nameAndType 5 17), (0, u "(JLcom/example/fair_throttle/fairthrottle/reports/Algorithm$Loss;JZJJ)V"), (0, .methodref 8 19), (0, .nameAndType 20 21), (0, u "holds"), (0, u "(J)Z"), (0, .class_ 23), (0, u "com/example/fair_throttle/fairthrottle/reporting/MeasuredLossHoldsPinLaw"), (2, u "law"), (0, u "(JIJIJJ)Z")] 7

def k1m0 : Method := { name := "<init>", desc := "()V", sig := { parameters := [], returnType := none }, accessFlags := 2, code := none }
def k1c1 : Code := { maxStack := 12, maxLocals := 18, code := code, exceptionTable := #[], attributes := #[] }
def k1m1 : Method := { name := "law", desc := "(JIJIJJ)Z", sig := { parameters := [.long, .int, .long, .int, .long, .long], returnType := some .boolean }, accessFlags := 9, code := some k1c1 }
/-- com/example/fair_throttle/fairthrottle/reporting/MeasuredLossHoldsPinLaw -/
def k1 : Class := { plain "com/example/fair_throttle/fairthrottle/reporting/MeasuredLossHoldsPinLaw" (some 0) with
  accessFlags := 49
  interfaces := #[]
  cf := some (fileOf pool1 22 #[] #[{ accessFlags := 2, nameIndex := 5, descriptorIndex := 6, attributes := #[] }, { accessFlags := 9, nameIndex := 26, descriptorIndex := 27, attributes := #[] }] 49 2 #[] #[])
  fields := #[]
  methods := #[k1m0, k1m1]
  instanceTypes := #[]
  staticTypes := #[]
  resolved := Array.replicate 35 none
  statics := none }

def pool2 : Array CpInfo := pool [(1, .methodref 2 3), (0, .class_ 4), (0, .nameAndType 5 6), (0, u "java/lang/Object"), (0, u "<init>"), (0, u "()V"), (0, .class_ 8), (0, u "java/lang/Record")] 13

def k2c0 : Code := { maxStack := 1, maxLocals := 1, code := jdk_30_method_1_code, exceptionTable := #[], attributes := #[] }
def k2m0 : Method := { name := "<init>", desc := "()V", sig := { parameters := [], returnType := none }, accessFlags := 4, code := some k2c0 }
/-- java/lang/Record -/
def k2 : Class := { plain "java/lang/Record" (some 0) with
  accessFlags := 1057
  interfaces := #[]
  cf := some (fileOf pool2 7 #[] #[{ accessFlags := 4, nameIndex := 5, descriptorIndex := 6, attributes := #[] }] 1057 2 #[] #[])
  fields := #[]
  methods := #[k2m0]
  instanceTypes := #[]
  staticTypes := #[]
  resolved := Array.replicate 22 none
  statics := none }

def pool3 : Array CpInfo := pool [(1, .methodref 2 3), (0, .class_ 4), (0, .nameAndType 5 6), (0, u "java/lang/Record"), (0, u "<init>"), (0, u "()V"), (0, .fieldref 8 9), (0, .class_ 10), (0, .nameAndType 11 12), (0, u "com/example/fair_throttle/fairthrottle/reporting/MeasuredLoss"), (0, u "combinedShare"), (0, u "J"), (0, .fieldref 8 14), (0, .nameAndType 15 16), (0, u "loss"), (0, u "Lcom/example/fair_throttle/fairthrottle/reports/Algorithm$Loss;"), (0, .fieldref 8 18), (0, .nameAndType 19 12), (0, u "sequenceNumber"), (0, .fieldref 8 21), (0, .nameAndType 22 23), (0, u "measuring"), (0, u "Z"), (0, .fieldref 8 25), (0, .nameAndType 26 12), (0, u "periodEndsAt"), (0, .fieldref 8 28), (0, .nameAndType 29 12), (0, u "countedBefore"), (14, u "(JLcom/example/fair_throttle/fairthrottle/reports/Algorithm$Loss;JZJJ)V"), (52, u "NONE"), (0, u "Lcom/example/fair_throttle/fairthrottle/reporting/MeasuredLoss;"), (0, u "MOST_WHILE_SHARED"), (0, u "I"), (2, u "NANOS_PER_SECOND"), (6, u "holds"), (0, u "(J)Z")] 37

def k3c0 : Code := { maxStack := 3, maxLocals := 11, code := prog_103_method_1_code, exceptionTable := #[], attributes := #[] }
def k3m0 : Method := { name := "<init>", desc := "(JLcom/example/fair_throttle/fairthrottle/reports/Algorithm$Loss;JZJJ)V", sig := { parameters := [.long, (.object "com/example/fair_throttle/fairthrottle/reports/Algorithm$Loss"), .long, .boolean, .long, .long], returnType := none }, accessFlags := 0, code := some k3c0 }
def k3c1 : Code := { maxStack := 4, maxLocals := 3, code := prog_103_method_3_code, exceptionTable := #[], attributes := #[] }
def k3m1 : Method := { name := "holds", desc := "(J)Z", sig := { parameters := [.long], returnType := some .boolean }, accessFlags := 0, code := some k3c1 }
/-- com/example/fair_throttle/fairthrottle/reporting/MeasuredLoss -/
def k3 : Class := { plain "com/example/fair_throttle/fairthrottle/reporting/MeasuredLoss" (some 2) with
  accessFlags := 48
  interfaces := #[]
  cf := some (fileOf pool3 8 #[] #[{ accessFlags := 0, nameIndex := 5, descriptorIndex := 44, attributes := #[] }, { accessFlags := 0, nameIndex := 110, descriptorIndex := 111, attributes := #[] }] 48 2 #[] #[{ accessFlags := 18, nameIndex := 11, descriptorIndex := 12, attributes := #[] }, { accessFlags := 18, nameIndex := 15, descriptorIndex := 16, attributes := #[] }, { accessFlags := 18, nameIndex := 19, descriptorIndex := 12, attributes := #[] }, { accessFlags := 18, nameIndex := 22, descriptorIndex := 23, attributes := #[] }, { accessFlags := 18, nameIndex := 26, descriptorIndex := 12, attributes := #[] }, { accessFlags := 18, nameIndex := 29, descriptorIndex := 12, attributes := #[] }, { accessFlags := 24, nameIndex := 97, descriptorIndex := 98, attributes := #[] }, { accessFlags := 26, nameIndex := 99, descriptorIndex := 100, attributes := #[] }, { accessFlags := 26, nameIndex := 103, descriptorIndex := 12, attributes := #[] }])
  fields := #[{ name := "combinedShare", type := .long, accessFlags := 18, slot := 0, constantValue := 0 }, { name := "loss", type := (.object "com/example/fair_throttle/fairthrottle/reports/Algorithm$Loss"), accessFlags := 18, slot := 1, constantValue := 0 }, { name := "sequenceNumber", type := .long, accessFlags := 18, slot := 2, constantValue := 0 }, { name := "measuring", type := .boolean, accessFlags := 18, slot := 3, constantValue := 0 }, { name := "periodEndsAt", type := .long, accessFlags := 18, slot := 4, constantValue := 0 }, { name := "countedBefore", type := .long, accessFlags := 18, slot := 5, constantValue := 0 }, { name := "NONE", type := (.object "com/example/fair_throttle/fairthrottle/reporting/MeasuredLoss"), accessFlags := 24, slot := 0, constantValue := 0 }, { name := "MOST_WHILE_SHARED", type := .int, accessFlags := 26, slot := 1, constantValue := 0 }, { name := "NANOS_PER_SECOND", type := .long, accessFlags := 26, slot := 2, constantValue := 0 }]
  methods := #[k3m0, k3m1]
  instanceTypes := #[.long, (.object "com/example/fair_throttle/fairthrottle/reports/Algorithm$Loss"), .long, .boolean, .long, .long]
  staticTypes := #[(.object "com/example/fair_throttle/fairthrottle/reporting/MeasuredLoss"), .int, .long]
  resolved := Array.replicate 149 none
  statics := none }

def pool4 : Array CpInfo := pool [(1, .class_ 2), (0, u "com/example/fair_throttle/fairthrottle/reports/Algorithm"), (0, .class_ 4), (0, u "java/lang/Object"), (5, .class_ 11), (0, u "com/example/fair_throttle/fairthrottle/reports/Algorithm$Rate"), (0, .class_ 13), (0, u "com/example/fair_throttle/fairthrottle/reports/Algorithm$Loss"), (0, .class_ 15), (0, u "com/example/fair_throttle/fairthrottle/reports/Algorithm$Kind")] 5

/-- com/example/fair_throttle/fairthrottle/reports/Algorithm -/
def k4 : Class := { plain "com/example/fair_throttle/fairthrottle/reports/Algorithm" (some 0) with
  accessFlags := 1537
  interfaces := #[]
  cf := some (fileOf pool4 1 #[.nestMembers #[10, 12, 14]] #[] 1537 3 #[] #[])
  fields := #[]
  methods := #[]
  instanceTypes := #[]
  staticTypes := #[]
  resolved := Array.replicate 21 none
  statics := none }

def pool5 : Array CpInfo := pool [(1, .methodref 2 3), (0, .class_ 4), (0, .nameAndType 5 6), (0, u "java/lang/Record"), (0, u "<init>"), (0, u "()V"), (0, .methodref 8 9), (0, .class_ 10), (0, .nameAndType 11 12), (0, u "com/example/fair_throttle/fairthrottle/abatement/LossByPriority"), (0, u "checkReduction"), (0, u "(D)V"), (0, .fieldref 14 15), (0, .class_ 16), (0, .nameAndType 17 18), (0, u "com/example/fair_throttle/fairthrottle/reports/Algorithm$Loss"), (0, u "reductionPercent"), (0, u "I"), (18, .class_ 38), (0, u "com/example/fair_throttle/fairthrottle/reports/Algorithm"), (0, u "(I)V")] 30

def k5c0 : Code := { maxStack := 2, maxLocals := 2, code := prog_122_method_1_code, exceptionTable := #[], attributes := #[] }
def k5m0 : Method := { name := "<init>", desc := "(I)V", sig := { parameters := [.int], returnType := none }, accessFlags := 1, code := some k5c0 }
/-- com/example/fair_throttle/fairthrottle/reports/Algorithm$Loss -/
def k5 : Class := { plain "com/example/fair_throttle/fairthrottle/reports/Algorithm$Loss" (some 2) with
  accessFlags := 49
  interfaces := #[4]
  cf := some (fileOf pool5 14 #[.nestHost 37] #[{ accessFlags := 1, nameIndex := 5, descriptorIndex := 39, attributes := #[] }] 49 2 #[37] #[{ accessFlags := 18, nameIndex := 17, descriptorIndex := 18, attributes := #[] }])
  fields := #[{ name := "reductionPercent", type := .int, accessFlags := 18, slot := 0, constantValue := 0 }]
  methods := #[k5m0]
  instanceTypes := #[.int]
  staticTypes := #[]
  resolved := Array.replicate 70 none
  statics := none }

def pool6 : Array CpInfo := pool [(2, .class_ 4), (1, u "java/lang/Object"), (0, u "<init>"), (0, u "()V"), (1, .class_ 10), (1, u "com/example/fair_throttle/fairthrottle/abatement/LossByPriority"), (0, u "checkReduction"), (0, u "(D)V"), (19, .double 4636737291354636288), (23, u "MEETING_TOLERANCE"), (0, u "D")] 24

def k6m0 : Method := { name := "<init>", desc := "()V", sig := { parameters := [], returnType := none }, accessFlags := 2, code := none }
def k6c1 : Code := { maxStack := 4, maxLocals := 2, code := prog_4_method_5_code, exceptionTable := #[], attributes := #[] }
def k6m1 : Method := { name := "checkReduction", desc := "(D)V", sig := { parameters := [.double], returnType := none }, accessFlags := 9, code := some k6c1 }
/-- com/example/fair_throttle/fairthrottle/abatement/LossByPriority -/
def k6 : Class := { plain "com/example/fair_throttle/fairthrottle/abatement/LossByPriority" (some 0) with
  accessFlags := 33
  interfaces := #[]
  cf := some (fileOf pool6 8 #[] #[{ accessFlags := 2, nameIndex := 5, descriptorIndex := 6, attributes := #[] }, { accessFlags := 9, nameIndex := 11, descriptorIndex := 12, attributes := #[] }] 33 2 #[] #[{ accessFlags := 26, nameIndex := 56, descriptorIndex := 57, attributes := #[] }])
  fields := #[{ name := "MEETING_TOLERANCE", type := .double, accessFlags := 26, slot := 0, constantValue := 0 }]
  methods := #[k6m0, k6m1]
  instanceTypes := #[]
  staticTypes := #[.double]
  resolved := Array.replicate 82 none
  statics := none }

def pool7 : Array CpInfo := pool [(1, u "java/lang/Cloneable"), (0, .class_ 1), (0, u "java/lang/Object"), (0, .class_ 3)] 3

/-- java/lang/Cloneable -/
def k7 : Class := { plain "java/lang/Cloneable" (some 0) with
  accessFlags := 1537
  interfaces := #[]
  cf := some (fileOf pool7 2 #[] #[] 1537 4 #[] #[])
  fields := #[]
  methods := #[]
  instanceTypes := #[]
  staticTypes := #[]
  resolved := Array.replicate 8 none
  statics := none }

def pool8 : Array CpInfo := pool [(1, u "java/io/Serializable"), (0, .class_ 1), (0, u "java/lang/Object"), (0, .class_ 3)] 3

/-- java/io/Serializable -/
def k8 : Class := { plain "java/io/Serializable" (some 0) with
  accessFlags := 1537
  interfaces := #[]
  cf := some (fileOf pool8 2 #[] #[] 1537 4 #[] #[])
  fields := #[]
  methods := #[]
  instanceTypes := #[]
  staticTypes := #[]
  resolved := Array.replicate 8 none
  statics := none }

/-- the primitive byte -/
def k9 : Class := { plain "byte" none with kind := .primitive 'B', accessFlags := 0x411 }
/-- [B -/
def k10 : Class := { plain "[B" (some 0) with kind := .array 9 .byte, interfaces := #[7, 8], accessFlags := 1041 }

/-- the primitive int -/
def k11 : Class := { plain "int" none with kind := .primitive 'I', accessFlags := 0x411 }
/-- [I -/
def k12 : Class := { plain "[I" (some 0) with kind := .array 11 .int, interfaces := #[7, 8], accessFlags := 1041 }

def heap : Heap := #[]
def classes : Array Class := #[k0, k1, k2, k3, k4, k5, k6, k7, k8, k9, k10, k11, k12]
def interned : List (Array UInt16 × Addr) := []
def slotsUsed : Nat := 0
def theMethod : MethodId := ⟨1, 1⟩
def args0 : Array Value := #[.long 5, .int 5, .long 5, .int 5, .long 5, .long 5]
def aboutOver (below : List Frame) : State where
  vm := { classes := classes, interned := interned.toArray }
  heap := heap
  slotsUsed := slotsUsed
  threads := #[{ frames := .invoking theMethod args0 :: below }]
def below0 : List Frame := [.native { method := ⟨0, 0⟩, args := #[] }]
def about1 : State := aboutOver below0
def p0 : Program := .bare "" "" ""
def e0 : Env := launch0.env 0 0 0
theorem w_frames : about1.frames = Frame.invoking theMethod args0 :: below0 := rfl
set_option maxRecDepth 65536 in
theorem w_args : argsFit about1.vm theMethod args0 = true := by decide +kernel
set_option maxRecDepth 65536 in
theorem w_heap : heapFits about1 = true := by decide +kernel
set_option maxRecDepth 65536 in
theorem w_runnable : about1.curStatus? = some .runnable := by decide +kernel
set_option maxRecDepth 65536 in
theorem w_alone : about1.alone = true := by decide +kernel
set_option maxRecDepth 65536 in
theorem w_named : about1.methodNamed? x = some theMethod := by decide +kernel
set_option maxRecDepth 65536 in
theorem w_hears : about1.hears theMethod below0 = true := by decide +kernel
set_option maxRecDepth 65536 in
theorem w_ripe : about1.ripe theMethod args0 below0 = true := by decide +kernel
theorem w_running : about1.status = .running := rfl
set_option maxRecDepth 65536 in
theorem w_room : about1.hasRoom e0.platform room_1 = true :=
  launch0.hasRoom_least _ room_1 (by decide +kernel) (by decide +kernel) (by decide +kernel) (by decide +kernel) (by decide +kernel) (by decide +kernel)
theorem allAtoms_all (ts : List Jvm.Cond) (a : Array Jvm.Value) (st : Jvm.State) : (allAtoms ts).before a st = ts.all (fun c => c.before a st) := by
  induction ts with
  | nil => rfl
  | cons c t ih =>
    show (Jvm.Cond.and c (allAtoms t)).before a st = _
    rw [Jvm.Cond.before_and, ih, List.all_cons]
def words1 : List Jvm.Cond := Jvm.Cond.code x code maxLocals ret :: tables_1
/-- a 'code' word, met by the world's own term for the bytes: nothing is compared byte by byte -/
theorem code_word {y : MethodName} {bytes : ByteArray} {mx : Nat} {rt : Option FieldType} {a : Array Value} {s : State} {m : MethodId} {meth : Method} {c : Code} (h1 : s.methodNamed? y = some m) (h2 : s.vm.method? m = some meth) (h3 : meth.code = some c) (h4 : c.code = bytes)
    (h5 : (c.maxLocals == mx && c.exceptionTable.isEmpty && decide (c.maxStack ≤ mostOperands) && decide (meth.sig.returnType = rt) && !meth.locks && decide (parseMethodDescriptor y.desc = some meth.sig)) = true) : (Jvm.Cond.code y bytes mx rt).before a s = true := by
  simp only [Bool.and_eq_true, beq_iff_eq, Bool.not_eq_true', decide_eq_true_eq] at h5
  obtain ⟨⟨⟨⟨⟨g1, g2⟩, g3⟩, g4⟩, g5⟩, g6⟩ := h5
  simp [Cond.before, Cond.holds, Cond.value, h1, h2, h3, h4, g1, g2, g3, g4, g5, g6]
def isCode : Jvm.Cond → Bool
  | .code _ _ _ _ => true
  | _ => false
theorem all_split {L : List Jvm.Cond} {P : Jvm.Cond → Bool} (h1 : L.all (fun c => isCode c || P c) = true) (h2 : ∀ c ∈ L.filter isCode, P c = true) : L.all P = true := by
  refine List.all_eq_true.mpr fun c hc => ?_
  have h := List.all_eq_true.mp h1 c hc
  rcases Bool.eq_false_or_eq_true (isCode c) with hi | hi
  · exact h2 c (List.mem_filter.mpr ⟨hc, hi⟩)
  · simpa [hi] using h
set_option maxRecDepth 65536 in
theorem w_c0 : (Jvm.Cond.code x code maxLocals ret).before args0 about1 = true := code_word (m := ⟨1, 1⟩) (meth := k1m1) (c := k1c1) (by decide +kernel) rfl rfl rfl (by decide +kernel)
set_option maxRecDepth 65536 in
theorem w_c1 : (Jvm.Cond.code ({ cls := "com/example/fair_throttle/fairthrottle/reports/Algorithm$Loss", name := "<init>", desc := "(I)V" } : Jvm.MethodName) prog_122_method_1_code (2 : Nat) (Option.none : Option Jvm.ClassFile.FieldType)).before args0 about1 = true := code_word (m := ⟨5, 0⟩) (meth := k5m0) (c := k5c0) (by decide +kernel) rfl rfl rfl (by decide +kernel)
set_option maxRecDepth 65536 in
theorem w_c2 : (Jvm.Cond.code ({ cls := "java/lang/Record", name := "<init>", desc := "()V" } : Jvm.MethodName) jdk_30_method_1_code (1 : Nat) (Option.none : Option Jvm.ClassFile.FieldType)).before args0 about1 = true := code_word (m := ⟨2, 0⟩) (meth := k2m0) (c := k2c0) (by decide +kernel) rfl rfl rfl (by decide +kernel)
set_option maxRecDepth 65536 in
theorem w_c3 : (Jvm.Cond.code ({ cls := "java/lang/Object", name := "<init>", desc := "()V" } : Jvm.MethodName) object_method_1_code (1 : Nat) (Option.none : Option Jvm.ClassFile.FieldType)).before args0 about1 = true := code_word (m := ⟨0, 0⟩) (meth := k0m0) (c := k0c0) (by decide +kernel) rfl rfl rfl (by decide +kernel)
set_option maxRecDepth 65536 in
theorem w_c4 : (Jvm.Cond.code ({ cls := "com/example/fair_throttle/fairthrottle/abatement/LossByPriority", name := "checkReduction", desc := "(D)V" } : Jvm.MethodName) prog_4_method_5_code (2 : Nat) (Option.none : Option Jvm.ClassFile.FieldType)).before args0 about1 = true := code_word (m := ⟨6, 1⟩) (meth := k6m1) (c := k6c1) (by decide +kernel) rfl rfl rfl (by decide +kernel)
set_option maxRecDepth 65536 in
theorem w_c5 : (Jvm.Cond.code ({ cls := "com/example/fair_throttle/fairthrottle/reporting/MeasuredLoss", name := "<init>", desc := "(JLcom/example/fair_throttle/fairthrottle/reports/Algorithm$Loss;JZJJ)V" } : Jvm.MethodName) prog_103_method_1_code (11 : Nat) (Option.none : Option Jvm.ClassFile.FieldType)).before args0 about1 = true := code_word (m := ⟨3, 0⟩) (meth := k3m0) (c := k3c0) (by decide +kernel) rfl rfl rfl (by decide +kernel)
set_option maxRecDepth 65536 in
theorem w_c6 : (Jvm.Cond.code ({ cls := "com/example/fair_throttle/fairthrottle/reporting/MeasuredLoss", name := "holds", desc := "(J)Z" } : Jvm.MethodName) prog_103_method_3_code (3 : Nat) (Option.some Jvm.ClassFile.FieldType.boolean)).before args0 about1 = true := code_word (m := ⟨3, 1⟩) (meth := k3m1) (c := k3c1) (by decide +kernel) rfl rfl rfl (by decide +kernel)
def codes1 : List Jvm.Cond := [Jvm.Cond.code x code maxLocals ret, Jvm.Cond.code ({ cls := "com/example/fair_throttle/fairthrottle/reports/Algorithm$Loss", name := "<init>", desc := "(I)V" } : Jvm.MethodName) prog_122_method_1_code (2 : Nat) (Option.none : Option Jvm.ClassFile.FieldType), Jvm.Cond.code ({ cls := "java/lang/Record", name := "<init>", desc := "()V" } : Jvm.MethodName) jdk_30_method_1_code (1 : Nat) (Option.none : Option Jvm.ClassFile.FieldType), Jvm.Cond.code ({ cls := "java/lang/Object", name := "<init>", desc := "()V" } : Jvm.MethodName) object_method_1_code (1 : Nat) (Option.none : Option Jvm.ClassFile.FieldType), Jvm.Cond.code ({ cls := "com/example/fair_throttle/fairthrottle/abatement/LossByPriority", name := "checkReduction", desc := "(D)V" } : Jvm.MethodName) prog_4_method_5_code (2 : Nat) (Option.none : Option Jvm.ClassFile.FieldType), Jvm.Cond.code ({ cls := "com/example/fair_throttle/fairthrottle/reporting/MeasuredLoss", name := "<init>", desc := "(JLcom/example/fair_throttle/fairthrottle/reports/Algorithm$Loss;JZJJ)V" } : Jvm.MethodName) prog_103_method_1_code (11 : Nat) (Option.none : Option Jvm.ClassFile.FieldType), Jvm.Cond.code ({ cls := "com/example/fair_throttle/fairthrottle/reporting/MeasuredLoss", name := "holds", desc := "(J)Z" } : Jvm.MethodName) prog_103_method_3_code (3 : Nat) (Option.some Jvm.ClassFile.FieldType.boolean)]
set_option maxRecDepth 65536 in
theorem codes_eq : words1.filter isCode = codes1 := rfl
theorem w_codes : ∀ c ∈ words1.filter isCode, c.before args0 about1 = true := by
  rw [codes_eq]
  intro c hc
  simp only [codes1, List.mem_cons, List.not_mem_nil, or_false] at hc
  rcases hc with rfl | rfl | rfl | rfl | rfl | rfl | rfl
  · exact w_c0
  · exact w_c1
  · exact w_c2
  · exact w_c3
  · exact w_c4
  · exact w_c5
  · exact w_c6
set_option maxRecDepth 65536 in
theorem w_t1 : (words1.take 24).all (fun c => isCode c || c.before args0 about1) = true := by decide +kernel
set_option maxRecDepth 65536 in
theorem w_t2 : (words1.drop 24).all (fun c => isCode c || c.before args0 about1) = true := by decide +kernel
theorem w_tables : (allAtoms (Jvm.Cond.code x code maxLocals ret :: tables_1)).before args0 about1 = true := by
  rw [allAtoms_all]
  show words1.all (fun c => c.before args0 about1) = true
  refine all_split ?_ w_codes
  rw [← List.take_append_drop 24 words1, List.all_append, w_t1, w_t2]
  rfl
set_option maxRecDepth 65536 in
theorem w_case : (Jvm.Cond.and given_1 narrow_1).before args0 about1 = true := by decide +kernel
theorem w_applies : (headSpec (Jvm.Cond.code x code maxLocals ret :: tables_1) room_1).applies x e0.platform about1 = true :=
  (Spec.applies_iff w_frames).mpr ⟨w_running, w_runnable, w_alone, w_named, w_hears, w_ripe, w_room, w_tables⟩
theorem atStart : AtStart classFile x code maxLocals ret World_1 tables_1 room_1 Calls_1 rest_1 Pre_1 launch0 p0 e0 about1 theMethod args0 below0 :=
  ⟨lists_1, trivial, launch0.admits_env _ _ _, launch0.least_env, fairChoices_fair.cas, fairChoices_fair.clock, w_frames, w_args, w_heap, w_applies, trivial, trivial, w_case⟩
end start1
theorem witness_1 : WitnessClaimed_1 := ⟨start1.p0, start1.e0, start1.about1, start1.theMethod, start1.args0, start1.below0, start1.atStart⟩
end Jvm.Pilot.@@N@@
