import JvmDerived
import JvmDerived.Pilot.@@N@@Statement
import JvmDerived.Pilot.@@N@@Code
set_option linter.unusedVariables false
set_option linter.unusedSimpArgs false
namespace Jvm.WpW
open Sem ClassFile Op Lib Jvm.Stand Jvm.Free Jvm.LawKit Jvm.RoadKit
/-- the run's own unknowns: program, environment, the invocation's state, method, arguments, frames below, the method's record, its code -/
abbrev Cx : Type := Program × Env × State × MethodId × Array Value × List Frame × Method × Code
/-- a decoded instruction and the pc behind it -/
def Fet (code : ByteArray) (pc pc' : Nat) (i : Instr) (len : Nat) : Prop := decode code pc = .ok (i, len) ∧ pc + len = pc'
/-- a decoded branch: the pc behind it and its target -/
def Brn (code : ByteArray) (pc pcN pcT : Nat) (i : Instr) (o : Int) : Prop := decode code pc = .ok (i, 3) ∧ pc + 3 = pcN ∧ 0 ≤ (pc : Int) + o ∧ ((pc : Int) + o).toNat = pcT
/-- what is known of the body that is walked -/
def Ok (Z : State) (K : Cx) (code : ByteArray) (own nm : String) (maxL : Nat) (ret : Option FieldType) : Prop :=
  match K with
  | (p, _, s, m, _, _, meth, c) => p.tables.exec = Jvm.exec ∧ c.code = code ∧ Z.Warmed39 s.vm ∧ s.vm.findClass own = some m.cls ∧ meth.name = nm ∧ c.maxLocals = maxL ∧ meth.sig.returnType = ret ∧ meth.locks = false
/-- from this point (heap h, k cells and n slots made so far) the body ends in Q, having written nothing below n0 -/
def Wp (l : Launch) (R : Room) (n0 : Nat) (K : Cx) (Q : Option Value → Heap → Prop) (h : Heap) (k n : Nat) (pc : Nat) (Ls : Array Slot) (st : List Value) : Prop :=
  match K with
  | (p, e, s, m, args, below, meth, c) => ∀ (T : State) (locs : List Loc) (vm0 : Vm) (k0 : Nat), Stand p l e R (s.setVm vm0) m args below meth c T locs k n → s.Since vm0 k0 → k0 ≤ h.size → T.heap = h → Fr n0 locs →
      ∃ s₂ o, Steps p.tables e below (T.setTop (mkF m pc Ls st)) s₂ ∧ s₂.status = .running ∧ Ended s₂ below o ∧ ∃ v L, o = .returned v ∧ (Q v s₂.heap ∧ Fr n0 L) ∧ ReturnedEndW s o s₂ L R.cells R.slots
/-- a body's contract at one call -/
def Con (l : Launch) (Z : State) (n0 : Nat) (y : MethodName) (bytes : ByteArray) (maxL : Nat) (ret : Option FieldType) (ws : List Cond) (rm : Room) (as : Array Value) (h : Heap) (Q : Option Value → Heap → Prop) : Prop :=
  MetFree l y (head1 (Cond.code y bytes maxL ret :: ws) rm) (fun a U => a = as ∧ Z.Warmed39 U.vm ∧ U.heap = h) (fun _ _ _ _ _ => True) (fun _ U o U' => ∃ v L, o = .returned v ∧ (Q v U'.heap ∧ Fr n0 L) ∧ ReturnedEndW U o U' L rm.cells rm.slots)
abbrev ConV (l : Launch) (Z : State) (n0 : Nat) (y : MethodName) (bytes : ByteArray) (maxL : Nat) (ret : Option FieldType) (ws : List Cond) (rm : Room) (as : Array Value) (h : Heap) (Q : Value → Heap → Prop) : Prop :=
  Con l Z n0 y bytes maxL ret ws rm as h (fun v h' => ∃ w, v = some w ∧ Q w h')
abbrev ConN (l : Launch) (Z : State) (n0 : Nat) (y : MethodName) (bytes : ByteArray) (maxL : Nat) (ret : Option FieldType) (ws : List Cond) (rm : Room) (as : Array Value) (h : Heap) (Q : Heap → Prop) : Prop :=
  Con l Z n0 y bytes maxL ret ws rm as h (fun v h' => v = none ∧ Q h')
theorem con_of_wp {l : Launch} {Z : State} {n0 : Nat} {y : MethodName} {bytes : ByteArray} {maxL : Nat} {ret : Option FieldType} {ws : List Cond} {rm : Room} {as : Array Value} {h : Heap} {Q : Option Value → Heap → Prop} {Ls : Array Slot}
    (hpl : plainFor y = true) (hef : ∀ m, entryFrame m as maxL = mkF m 0 Ls []) (H : ∀ K, Ok Z K bytes y.cls y.name maxL ret → Wp l rm n0 K Q h 0 0 0 Ls []) : Con l Z n0 y bytes maxL ret ws rm as h Q := by
  refine MetFree.of_bodySF hpl hisR ?_
  intro p e s m args below meth c s₁ Bd hml0 hP hK
  obtain ⟨rfl, hZ, hh⟩ := hP
  have X0 : Stand p l e rm s m args below meth c s₁ [] 0 0 := Stand.of_body Bd
  have e0 : s₁.heap = h := by rw [← hh, Bd.state]; rfl
  obtain ⟨s₂, o, h1, h2, h3, h4⟩ := H (p, e, s, m, args, below, meth, c) ⟨Bd.exec, Bd.bytes, hZ, findClass_of_methodNamed Bd.named, (name_of_methodNamed Bd.named Bd.method).1, hml0, Bd.returns, Bd.notSynchronized⟩ s₁ [] s.vm 0 X0 ((State.WarmedH.refl s).since 0) (Nat.zero_le _) e0 (Fr.nil n0)
  exact ⟨s₂, o, castTop (hef m) h1, h2, h3, h4⟩
section Rules
variable {l : Launch} {R : Room} {n0 : Nat} {K : Cx} {Q : Option Value → Heap → Prop} {h : Heap} {k n k' n' : Nat} {pc pc' : Nat} {Ls Ls' : Array Slot} {st rest : List Value} {Z : State} {code : ByteArray} {own nm : String} {maxL : Nat} {ret : Option FieldType} {a0 : Array Value}
theorem w_cast {pc1 : Nat} {L1 : Array Slot} {s1 : List Value} (hr : Wp l R n0 K Q h k n pc1 L1 s1) (q1 : pc1 = pc) (q2 : L1 = Ls) (q3 : s1 = st) : Wp l R n0 K Q h k n pc Ls st := by
  subst q1 q2 q3; exact hr
theorem w_mono {Q' : Option Value → Heap → Prop} (hr : Wp l R n0 K Q' h k n pc Ls st) (hq : ∀ v h', Q' v h' → Q v h') : Wp l R n0 K Q h k n pc Ls st := by
  obtain ⟨p, e, s, m, args, below, meth, c⟩ := K
  intro T locs vm0 k0 X hS hk0 hT hF
  obtain ⟨s₂, o, h1, h2, h3, v, L, h4, ⟨h5, h6⟩, h7⟩ := hr T locs vm0 k0 X hS hk0 hT hF
  exact ⟨s₂, o, h1, h2, h3, v, L, h4, ⟨hq _ _ h5, h6⟩, h7⟩
theorem w_int {a b : Int32} (e : a = b) (hr : Wp l R n0 K Q h k n pc Ls (.int b :: st)) : Wp l R n0 K Q h k n pc Ls (.int a :: st) := e ▸ hr
theorem w_long {a b : Int64} (e : a = b) (hr : Wp l R n0 K Q h k n pc Ls (.long b :: st)) : Wp l R n0 K Q h k n pc Ls (.long a :: st) := e ▸ hr
/-- more cells or slots may be booked -/
theorem w_more {k1 n1 : Nat} (hr : Wp l R n0 K Q h k1 n1 pc Ls st) (hk : k ≤ k1) (hn : n ≤ n1) : Wp l R n0 K Q h k n pc Ls st := by
  obtain ⟨p, e, s, m, args, below, meth, c⟩ := K
  intro T locs vm0 k0 X hS hk0 hT hF
  exact hr T locs vm0 k0 (X.more hk hn) hS hk0 hT hF

theorem w_iloadN (ok : Ok Z K code own nm maxL ret) {j : Fin 4} {x : Int32} (hd : Fet code pc pc' (.iload_n j) 1) (hl : Ls[j.val]? = some (.val (.int x))) (hr : Wp l R n0 K Q h k n pc' Ls (.int x :: st)) : Wp l R n0 K Q h k n pc Ls st := by
  obtain ⟨p, e, s, m, args, below, meth, c⟩ := K
  obtain ⟨hx, hby, hZs, howns, hnm, hml, hret, hlk⟩ := ok
  obtain ⟨hd, rfl⟩ := hd
  intro T locs vm0 k0 X hS hk0 hT hF
  have hZ : Z.Warmed39 (s.setVm vm0).vm := State.Warmed39.trans hZs hS.1
  have hown : (s.setVm vm0).vm.findClass own = some m.cls := (hS.1.alike.findClass _ _).trans howns
  obtain ⟨s₂, o, h1, h2⟩ := hr T locs vm0 k0 X hS hk0 hT hF
  exact ⟨s₂, o, XS.iloadN X.here hx rfl (hb hby hd) hl h1, h2⟩
theorem w_iload (ok : Ok Z K code own nm maxL ret) {j : Nat} {x : Int32} (hd : Fet code pc pc' (.iload j) 2) (hl : Ls[j]? = some (.val (.int x))) (hr : Wp l R n0 K Q h k n pc' Ls (.int x :: st)) : Wp l R n0 K Q h k n pc Ls st := by
  obtain ⟨p, e, s, m, args, below, meth, c⟩ := K
  obtain ⟨hx, hby, hZs, howns, hnm, hml, hret, hlk⟩ := ok
  obtain ⟨hd, rfl⟩ := hd
  intro T locs vm0 k0 X hS hk0 hT hF
  have hZ : Z.Warmed39 (s.setVm vm0).vm := State.Warmed39.trans hZs hS.1
  have hown : (s.setVm vm0).vm.findClass own = some m.cls := (hS.1.alike.findClass _ _).trans howns
  obtain ⟨s₂, o, h1, h2⟩ := hr T locs vm0 k0 X hS hk0 hT hF
  exact ⟨s₂, o, XS.iload X.here hx rfl (hb hby hd) hl h1, h2⟩
theorem w_lloadN (ok : Ok Z K code own nm maxL ret) {j : Fin 4} {x : Int64} (hd : Fet code pc pc' (.lload_n j) 1) (hl : Ls[j.val]? = some (.val (.long x))) (hr : Wp l R n0 K Q h k n pc' Ls (.long x :: st)) : Wp l R n0 K Q h k n pc Ls st := by
  obtain ⟨p, e, s, m, args, below, meth, c⟩ := K
  obtain ⟨hx, hby, hZs, howns, hnm, hml, hret, hlk⟩ := ok
  obtain ⟨hd, rfl⟩ := hd
  intro T locs vm0 k0 X hS hk0 hT hF
  have hZ : Z.Warmed39 (s.setVm vm0).vm := State.Warmed39.trans hZs hS.1
  have hown : (s.setVm vm0).vm.findClass own = some m.cls := (hS.1.alike.findClass _ _).trans howns
  obtain ⟨s₂, o, h1, h2⟩ := hr T locs vm0 k0 X hS hk0 hT hF
  exact ⟨s₂, o, XS.lloadN X.here hx rfl (hb hby hd) hl h1, h2⟩
theorem w_lload (ok : Ok Z K code own nm maxL ret) {j : Nat} {x : Int64} (hd : Fet code pc pc' (.lload j) 2) (hl : Ls[j]? = some (.val (.long x))) (hr : Wp l R n0 K Q h k n pc' Ls (.long x :: st)) : Wp l R n0 K Q h k n pc Ls st := by
  obtain ⟨p, e, s, m, args, below, meth, c⟩ := K
  obtain ⟨hx, hby, hZs, howns, hnm, hml, hret, hlk⟩ := ok
  obtain ⟨hd, rfl⟩ := hd
  intro T locs vm0 k0 X hS hk0 hT hF
  have hZ : Z.Warmed39 (s.setVm vm0).vm := State.Warmed39.trans hZs hS.1
  have hown : (s.setVm vm0).vm.findClass own = some m.cls := (hS.1.alike.findClass _ _).trans howns
  obtain ⟨s₂, o, h1, h2⟩ := hr T locs vm0 k0 X hS hk0 hT hF
  exact ⟨s₂, o, XS.lload X.here hx rfl (hb hby hd) hl h1, h2⟩
theorem w_aloadN (ok : Ok Z K code own nm maxL ret) {j : Fin 4} {x : Value} (hd : Fet code pc pc' (.aload_n j) 1) (hl : Ls[j.val]? = some (.val x)) (hv : x.isRef = true) (hr : Wp l R n0 K Q h k n pc' Ls (x :: st)) : Wp l R n0 K Q h k n pc Ls st := by
  obtain ⟨p, e, s, m, args, below, meth, c⟩ := K
  obtain ⟨hx, hby, hZs, howns, hnm, hml, hret, hlk⟩ := ok
  obtain ⟨hd, rfl⟩ := hd
  intro T locs vm0 k0 X hS hk0 hT hF
  have hZ : Z.Warmed39 (s.setVm vm0).vm := State.Warmed39.trans hZs hS.1
  have hown : (s.setVm vm0).vm.findClass own = some m.cls := (hS.1.alike.findClass _ _).trans howns
  obtain ⟨s₂, o, h1, h2⟩ := hr T locs vm0 k0 X hS hk0 hT hF
  exact ⟨s₂, o, XS.aloadN X.here hx rfl (hb hby hd) hl hv h1, h2⟩
theorem w_aload (ok : Ok Z K code own nm maxL ret) {j : Nat} {x : Value} (hd : Fet code pc pc' (.aload j) 2) (hl : Ls[j]? = some (.val x)) (hv : x.isRef = true) (hr : Wp l R n0 K Q h k n pc' Ls (x :: st)) : Wp l R n0 K Q h k n pc Ls st := by
  obtain ⟨p, e, s, m, args, below, meth, c⟩ := K
  obtain ⟨hx, hby, hZs, howns, hnm, hml, hret, hlk⟩ := ok
  obtain ⟨hd, rfl⟩ := hd
  intro T locs vm0 k0 X hS hk0 hT hF
  have hZ : Z.Warmed39 (s.setVm vm0).vm := State.Warmed39.trans hZs hS.1
  have hown : (s.setVm vm0).vm.findClass own = some m.cls := (hS.1.alike.findClass _ _).trans howns
  obtain ⟨s₂, o, h1, h2⟩ := hr T locs vm0 k0 X hS hk0 hT hF
  exact ⟨s₂, o, XS.aload X.here hx rfl (hb hby hd) hl hv h1, h2⟩
theorem w_istoreN (ok : Ok Z K code own nm maxL ret) {j : Fin 4} {x : Int32} (hd : Fet code pc pc' (.istore_n j) 1) (hl : storeLocals Ls j.val (.int x) = some Ls') (hr : Wp l R n0 K Q h k n pc' Ls' st) : Wp l R n0 K Q h k n pc Ls (.int x :: st) := by
  obtain ⟨p, e, s, m, args, below, meth, c⟩ := K
  obtain ⟨hx, hby, hZs, howns, hnm, hml, hret, hlk⟩ := ok
  obtain ⟨hd, rfl⟩ := hd
  intro T locs vm0 k0 X hS hk0 hT hF
  have hZ : Z.Warmed39 (s.setVm vm0).vm := State.Warmed39.trans hZs hS.1
  have hown : (s.setVm vm0).vm.findClass own = some m.cls := (hS.1.alike.findClass _ _).trans howns
  obtain ⟨s₂, o, h1, h2⟩ := hr T locs vm0 k0 X hS hk0 hT hF
  exact ⟨s₂, o, XS.istoreN X.here hx rfl (hb hby hd) rfl hl h1, h2⟩
theorem w_istore (ok : Ok Z K code own nm maxL ret) {j : Nat} {x : Int32} (hd : Fet code pc pc' (.istore j) 2) (hl : storeLocals Ls j (.int x) = some Ls') (hr : Wp l R n0 K Q h k n pc' Ls' st) : Wp l R n0 K Q h k n pc Ls (.int x :: st) := by
  obtain ⟨p, e, s, m, args, below, meth, c⟩ := K
  obtain ⟨hx, hby, hZs, howns, hnm, hml, hret, hlk⟩ := ok
  obtain ⟨hd, rfl⟩ := hd
  intro T locs vm0 k0 X hS hk0 hT hF
  have hZ : Z.Warmed39 (s.setVm vm0).vm := State.Warmed39.trans hZs hS.1
  have hown : (s.setVm vm0).vm.findClass own = some m.cls := (hS.1.alike.findClass _ _).trans howns
  obtain ⟨s₂, o, h1, h2⟩ := hr T locs vm0 k0 X hS hk0 hT hF
  exact ⟨s₂, o, XS.istore X.here hx rfl (hb hby hd) rfl hl h1, h2⟩
theorem w_lstoreN (ok : Ok Z K code own nm maxL ret) {j : Fin 4} {x : Int64} (hd : Fet code pc pc' (.lstore_n j) 1) (hl : storeLocals Ls j.val (.long x) = some Ls') (hr : Wp l R n0 K Q h k n pc' Ls' st) : Wp l R n0 K Q h k n pc Ls (.long x :: st) := by
  obtain ⟨p, e, s, m, args, below, meth, c⟩ := K
  obtain ⟨hx, hby, hZs, howns, hnm, hml, hret, hlk⟩ := ok
  obtain ⟨hd, rfl⟩ := hd
  intro T locs vm0 k0 X hS hk0 hT hF
  have hZ : Z.Warmed39 (s.setVm vm0).vm := State.Warmed39.trans hZs hS.1
  have hown : (s.setVm vm0).vm.findClass own = some m.cls := (hS.1.alike.findClass _ _).trans howns
  obtain ⟨s₂, o, h1, h2⟩ := hr T locs vm0 k0 X hS hk0 hT hF
  exact ⟨s₂, o, XS.lstoreN X.here hx rfl (hb hby hd) rfl hl h1, h2⟩
theorem w_lstore (ok : Ok Z K code own nm maxL ret) {j : Nat} {x : Int64} (hd : Fet code pc pc' (.lstore j) 2) (hl : storeLocals Ls j (.long x) = some Ls') (hr : Wp l R n0 K Q h k n pc' Ls' st) : Wp l R n0 K Q h k n pc Ls (.long x :: st) := by
  obtain ⟨p, e, s, m, args, below, meth, c⟩ := K
  obtain ⟨hx, hby, hZs, howns, hnm, hml, hret, hlk⟩ := ok
  obtain ⟨hd, rfl⟩ := hd
  intro T locs vm0 k0 X hS hk0 hT hF
  have hZ : Z.Warmed39 (s.setVm vm0).vm := State.Warmed39.trans hZs hS.1
  have hown : (s.setVm vm0).vm.findClass own = some m.cls := (hS.1.alike.findClass _ _).trans howns
  obtain ⟨s₂, o, h1, h2⟩ := hr T locs vm0 k0 X hS hk0 hT hF
  exact ⟨s₂, o, XS.lstore X.here hx rfl (hb hby hd) rfl hl h1, h2⟩
theorem w_astoreN (ok : Ok Z K code own nm maxL ret) {j : Fin 4} {x : Value} (hd : Fet code pc pc' (.astore_n j) 1) (hl : storeLocals Ls j.val x = some Ls') (hv : x.isRef = true) (hr : Wp l R n0 K Q h k n pc' Ls' st) : Wp l R n0 K Q h k n pc Ls (x :: st) := by
  obtain ⟨p, e, s, m, args, below, meth, c⟩ := K
  obtain ⟨hx, hby, hZs, howns, hnm, hml, hret, hlk⟩ := ok
  obtain ⟨hd, rfl⟩ := hd
  intro T locs vm0 k0 X hS hk0 hT hF
  have hZ : Z.Warmed39 (s.setVm vm0).vm := State.Warmed39.trans hZs hS.1
  have hown : (s.setVm vm0).vm.findClass own = some m.cls := (hS.1.alike.findClass _ _).trans howns
  obtain ⟨s₂, o, h1, h2⟩ := hr T locs vm0 k0 X hS hk0 hT hF
  exact ⟨s₂, o, XS.astoreN X.here hx rfl (hb hby hd) rfl hv hl h1, h2⟩
theorem w_astore (ok : Ok Z K code own nm maxL ret) {j : Nat} {x : Value} (hd : Fet code pc pc' (.astore j) 2) (hl : storeLocals Ls j x = some Ls') (hv : x.isRef = true) (hr : Wp l R n0 K Q h k n pc' Ls' st) : Wp l R n0 K Q h k n pc Ls (x :: st) := by
  obtain ⟨p, e, s, m, args, below, meth, c⟩ := K
  obtain ⟨hx, hby, hZs, howns, hnm, hml, hret, hlk⟩ := ok
  obtain ⟨hd, rfl⟩ := hd
  intro T locs vm0 k0 X hS hk0 hT hF
  have hZ : Z.Warmed39 (s.setVm vm0).vm := State.Warmed39.trans hZs hS.1
  have hown : (s.setVm vm0).vm.findClass own = some m.cls := (hS.1.alike.findClass _ _).trans howns
  obtain ⟨s₂, o, h1, h2⟩ := hr T locs vm0 k0 X hS hk0 hT hF
  exact ⟨s₂, o, XS.astore X.here hx rfl (hb hby hd) rfl hv hl h1, h2⟩
theorem w_iinc (ok : Ok Z K code own nm maxL ret) {j : Nat} {cst : Int} {x : Int32} (hd : Fet code pc pc' (.iinc j cst) 3) (hl : Ls[j]? = some (.val (.int x))) (hl' : storeLocals Ls j (.int (x + Int32.ofInt cst)) = some Ls') (hr : Wp l R n0 K Q h k n pc' Ls' st) : Wp l R n0 K Q h k n pc Ls st := by
  obtain ⟨p, e, s, m, args, below, meth, c⟩ := K
  obtain ⟨hx, hby, hZs, howns, hnm, hml, hret, hlk⟩ := ok
  obtain ⟨hd, rfl⟩ := hd
  intro T locs vm0 k0 X hS hk0 hT hF
  have hZ : Z.Warmed39 (s.setVm vm0).vm := State.Warmed39.trans hZs hS.1
  have hown : (s.setVm vm0).vm.findClass own = some m.cls := (hS.1.alike.findClass _ _).trans howns
  obtain ⟨s₂, o, h1, h2⟩ := hr T locs vm0 k0 X hS hk0 hT hF
  exact ⟨s₂, o, XS.iinc X.here hx rfl (hb hby hd) hl hl' h1, h2⟩
theorem w_iconst (ok : Ok Z K code own nm maxL ret) {i : Int} {z : Int32} (hd : Fet code pc pc' (.iconst i) 1) (hz : Int32.ofInt i = z) (hr : Wp l R n0 K Q h k n pc' Ls (.int z :: st)) : Wp l R n0 K Q h k n pc Ls st := by
  obtain ⟨p, e, s, m, args, below, meth, c⟩ := K
  obtain ⟨hx, hby, hZs, howns, hnm, hml, hret, hlk⟩ := ok
  obtain ⟨hd, rfl⟩ := hd
  intro T locs vm0 k0 X hS hk0 hT hF
  have hZ : Z.Warmed39 (s.setVm vm0).vm := State.Warmed39.trans hZs hS.1
  have hown : (s.setVm vm0).vm.findClass own = some m.cls := (hS.1.alike.findClass _ _).trans howns
  subst hz
  obtain ⟨s₂, o, h1, h2⟩ := hr T locs vm0 k0 X hS hk0 hT hF
  exact ⟨s₂, o, XS.iconst X.here hx rfl (hb hby hd) h1, h2⟩
theorem w_bipush (ok : Ok Z K code own nm maxL ret) {i : Int} {z : Int32} (hd : Fet code pc pc' (.bipush i) 2) (hz : (Int8.ofInt i).toInt32 = z) (hr : Wp l R n0 K Q h k n pc' Ls (.int z :: st)) : Wp l R n0 K Q h k n pc Ls st := by
  obtain ⟨p, e, s, m, args, below, meth, c⟩ := K
  obtain ⟨hx, hby, hZs, howns, hnm, hml, hret, hlk⟩ := ok
  obtain ⟨hd, rfl⟩ := hd
  intro T locs vm0 k0 X hS hk0 hT hF
  have hZ : Z.Warmed39 (s.setVm vm0).vm := State.Warmed39.trans hZs hS.1
  have hown : (s.setVm vm0).vm.findClass own = some m.cls := (hS.1.alike.findClass _ _).trans howns
  subst hz
  obtain ⟨s₂, o, h1, h2⟩ := hr T locs vm0 k0 X hS hk0 hT hF
  exact ⟨s₂, o, XS.bipush X.here hx rfl (hb hby hd) h1, h2⟩
theorem w_sipush (ok : Ok Z K code own nm maxL ret) {i : Int} {z : Int32} (hd : Fet code pc pc' (.sipush i) 3) (hz : (Int16.ofInt i).toInt32 = z) (hr : Wp l R n0 K Q h k n pc' Ls (.int z :: st)) : Wp l R n0 K Q h k n pc Ls st := by
  obtain ⟨p, e, s, m, args, below, meth, c⟩ := K
  obtain ⟨hx, hby, hZs, howns, hnm, hml, hret, hlk⟩ := ok
  obtain ⟨hd, rfl⟩ := hd
  intro T locs vm0 k0 X hS hk0 hT hF
  have hZ : Z.Warmed39 (s.setVm vm0).vm := State.Warmed39.trans hZs hS.1
  have hown : (s.setVm vm0).vm.findClass own = some m.cls := (hS.1.alike.findClass _ _).trans howns
  subst hz
  obtain ⟨s₂, o, h1, h2⟩ := hr T locs vm0 k0 X hS hk0 hT hF
  exact ⟨s₂, o, XS.sipush X.here hx rfl (hb hby hd) h1, h2⟩
theorem w_lconst (ok : Ok Z K code own nm maxL ret) {i : Fin 2} {z : Int64} (hd : Fet code pc pc' (.lconst i) 1) (hz : Int64.ofNat i = z) (hr : Wp l R n0 K Q h k n pc' Ls (.long z :: st)) : Wp l R n0 K Q h k n pc Ls st := by
  obtain ⟨p, e, s, m, args, below, meth, c⟩ := K
  obtain ⟨hx, hby, hZs, howns, hnm, hml, hret, hlk⟩ := ok
  obtain ⟨hd, rfl⟩ := hd
  intro T locs vm0 k0 X hS hk0 hT hF
  have hZ : Z.Warmed39 (s.setVm vm0).vm := State.Warmed39.trans hZs hS.1
  have hown : (s.setVm vm0).vm.findClass own = some m.cls := (hS.1.alike.findClass _ _).trans howns
  subst hz
  obtain ⟨s₂, o, h1, h2⟩ := hr T locs vm0 k0 X hS hk0 hT hF
  exact ⟨s₂, o, XS.lconst X.here hx rfl (hb hby hd) h1, h2⟩
theorem w_aconstNull (ok : Ok Z K code own nm maxL ret)  (hd : Fet code pc pc' (.aconst_null) 1)  (hr : Wp l R n0 K Q h k n pc' Ls (.null :: st)) : Wp l R n0 K Q h k n pc Ls st := by
  obtain ⟨p, e, s, m, args, below, meth, c⟩ := K
  obtain ⟨hx, hby, hZs, howns, hnm, hml, hret, hlk⟩ := ok
  obtain ⟨hd, rfl⟩ := hd
  intro T locs vm0 k0 X hS hk0 hT hF
  have hZ : Z.Warmed39 (s.setVm vm0).vm := State.Warmed39.trans hZs hS.1
  have hown : (s.setVm vm0).vm.findClass own = some m.cls := (hS.1.alike.findClass _ _).trans howns
  obtain ⟨s₂, o, h1, h2⟩ := hr T locs vm0 k0 X hS hk0 hT hF
  exact ⟨s₂, o, XS.aconstNull X.here hx rfl (hb hby hd)  h1, h2⟩
theorem w_iadd (ok : Ok Z K code own nm maxL ret) {x y : Int32} (hd : Fet code pc pc' (.iadd) 1)  (hr : Wp l R n0 K Q h k n pc' Ls (.int (x + y) :: st)) : Wp l R n0 K Q h k n pc Ls (.int y :: .int x :: st) := by
  obtain ⟨p, e, s, m, args, below, meth, c⟩ := K
  obtain ⟨hx, hby, hZs, howns, hnm, hml, hret, hlk⟩ := ok
  obtain ⟨hd, rfl⟩ := hd
  intro T locs vm0 k0 X hS hk0 hT hF
  have hZ : Z.Warmed39 (s.setVm vm0).vm := State.Warmed39.trans hZs hS.1
  have hown : (s.setVm vm0).vm.findClass own = some m.cls := (hS.1.alike.findClass _ _).trans howns
  obtain ⟨s₂, o, h1, h2⟩ := hr T locs vm0 k0 X hS hk0 hT hF
  exact ⟨s₂, o, XS.iadd X.here hx rfl (hb hby hd) rfl h1, h2⟩
theorem w_isub (ok : Ok Z K code own nm maxL ret) {x y : Int32} (hd : Fet code pc pc' (.isub) 1)  (hr : Wp l R n0 K Q h k n pc' Ls (.int (x - y) :: st)) : Wp l R n0 K Q h k n pc Ls (.int y :: .int x :: st) := by
  obtain ⟨p, e, s, m, args, below, meth, c⟩ := K
  obtain ⟨hx, hby, hZs, howns, hnm, hml, hret, hlk⟩ := ok
  obtain ⟨hd, rfl⟩ := hd
  intro T locs vm0 k0 X hS hk0 hT hF
  have hZ : Z.Warmed39 (s.setVm vm0).vm := State.Warmed39.trans hZs hS.1
  have hown : (s.setVm vm0).vm.findClass own = some m.cls := (hS.1.alike.findClass _ _).trans howns
  obtain ⟨s₂, o, h1, h2⟩ := hr T locs vm0 k0 X hS hk0 hT hF
  exact ⟨s₂, o, XS.isub X.here hx rfl (hb hby hd) rfl h1, h2⟩
theorem w_imul (ok : Ok Z K code own nm maxL ret) {x y : Int32} (hd : Fet code pc pc' (.imul) 1)  (hr : Wp l R n0 K Q h k n pc' Ls (.int (x * y) :: st)) : Wp l R n0 K Q h k n pc Ls (.int y :: .int x :: st) := by
  obtain ⟨p, e, s, m, args, below, meth, c⟩ := K
  obtain ⟨hx, hby, hZs, howns, hnm, hml, hret, hlk⟩ := ok
  obtain ⟨hd, rfl⟩ := hd
  intro T locs vm0 k0 X hS hk0 hT hF
  have hZ : Z.Warmed39 (s.setVm vm0).vm := State.Warmed39.trans hZs hS.1
  have hown : (s.setVm vm0).vm.findClass own = some m.cls := (hS.1.alike.findClass _ _).trans howns
  obtain ⟨s₂, o, h1, h2⟩ := hr T locs vm0 k0 X hS hk0 hT hF
  exact ⟨s₂, o, XS.imul X.here hx rfl (hb hby hd) rfl h1, h2⟩
theorem w_iand (ok : Ok Z K code own nm maxL ret) {x y : Int32} (hd : Fet code pc pc' (.iand) 1)  (hr : Wp l R n0 K Q h k n pc' Ls (.int (x &&& y) :: st)) : Wp l R n0 K Q h k n pc Ls (.int y :: .int x :: st) := by
  obtain ⟨p, e, s, m, args, below, meth, c⟩ := K
  obtain ⟨hx, hby, hZs, howns, hnm, hml, hret, hlk⟩ := ok
  obtain ⟨hd, rfl⟩ := hd
  intro T locs vm0 k0 X hS hk0 hT hF
  have hZ : Z.Warmed39 (s.setVm vm0).vm := State.Warmed39.trans hZs hS.1
  have hown : (s.setVm vm0).vm.findClass own = some m.cls := (hS.1.alike.findClass _ _).trans howns
  obtain ⟨s₂, o, h1, h2⟩ := hr T locs vm0 k0 X hS hk0 hT hF
  exact ⟨s₂, o, XS.iand X.here hx rfl (hb hby hd) rfl h1, h2⟩
theorem w_ior (ok : Ok Z K code own nm maxL ret) {x y : Int32} (hd : Fet code pc pc' (.ior) 1)  (hr : Wp l R n0 K Q h k n pc' Ls (.int (x ||| y) :: st)) : Wp l R n0 K Q h k n pc Ls (.int y :: .int x :: st) := by
  obtain ⟨p, e, s, m, args, below, meth, c⟩ := K
  obtain ⟨hx, hby, hZs, howns, hnm, hml, hret, hlk⟩ := ok
  obtain ⟨hd, rfl⟩ := hd
  intro T locs vm0 k0 X hS hk0 hT hF
  have hZ : Z.Warmed39 (s.setVm vm0).vm := State.Warmed39.trans hZs hS.1
  have hown : (s.setVm vm0).vm.findClass own = some m.cls := (hS.1.alike.findClass _ _).trans howns
  obtain ⟨s₂, o, h1, h2⟩ := hr T locs vm0 k0 X hS hk0 hT hF
  exact ⟨s₂, o, XS.ior X.here hx rfl (hb hby hd) rfl h1, h2⟩
theorem w_ixor (ok : Ok Z K code own nm maxL ret) {x y : Int32} (hd : Fet code pc pc' (.ixor) 1)  (hr : Wp l R n0 K Q h k n pc' Ls (.int (x ^^^ y) :: st)) : Wp l R n0 K Q h k n pc Ls (.int y :: .int x :: st) := by
  obtain ⟨p, e, s, m, args, below, meth, c⟩ := K
  obtain ⟨hx, hby, hZs, howns, hnm, hml, hret, hlk⟩ := ok
  obtain ⟨hd, rfl⟩ := hd
  intro T locs vm0 k0 X hS hk0 hT hF
  have hZ : Z.Warmed39 (s.setVm vm0).vm := State.Warmed39.trans hZs hS.1
  have hown : (s.setVm vm0).vm.findClass own = some m.cls := (hS.1.alike.findClass _ _).trans howns
  obtain ⟨s₂, o, h1, h2⟩ := hr T locs vm0 k0 X hS hk0 hT hF
  exact ⟨s₂, o, XS.ixor X.here hx rfl (hb hby hd) rfl h1, h2⟩
theorem w_ladd (ok : Ok Z K code own nm maxL ret) {x y : Int64} (hd : Fet code pc pc' (.ladd) 1)  (hr : Wp l R n0 K Q h k n pc' Ls (.long (x + y) :: st)) : Wp l R n0 K Q h k n pc Ls (.long y :: .long x :: st) := by
  obtain ⟨p, e, s, m, args, below, meth, c⟩ := K
  obtain ⟨hx, hby, hZs, howns, hnm, hml, hret, hlk⟩ := ok
  obtain ⟨hd, rfl⟩ := hd
  intro T locs vm0 k0 X hS hk0 hT hF
  have hZ : Z.Warmed39 (s.setVm vm0).vm := State.Warmed39.trans hZs hS.1
  have hown : (s.setVm vm0).vm.findClass own = some m.cls := (hS.1.alike.findClass _ _).trans howns
  obtain ⟨s₂, o, h1, h2⟩ := hr T locs vm0 k0 X hS hk0 hT hF
  exact ⟨s₂, o, XS.ladd X.here hx rfl (hb hby hd) rfl h1, h2⟩
theorem w_lsub (ok : Ok Z K code own nm maxL ret) {x y : Int64} (hd : Fet code pc pc' (.lsub) 1)  (hr : Wp l R n0 K Q h k n pc' Ls (.long (x - y) :: st)) : Wp l R n0 K Q h k n pc Ls (.long y :: .long x :: st) := by
  obtain ⟨p, e, s, m, args, below, meth, c⟩ := K
  obtain ⟨hx, hby, hZs, howns, hnm, hml, hret, hlk⟩ := ok
  obtain ⟨hd, rfl⟩ := hd
  intro T locs vm0 k0 X hS hk0 hT hF
  have hZ : Z.Warmed39 (s.setVm vm0).vm := State.Warmed39.trans hZs hS.1
  have hown : (s.setVm vm0).vm.findClass own = some m.cls := (hS.1.alike.findClass _ _).trans howns
  obtain ⟨s₂, o, h1, h2⟩ := hr T locs vm0 k0 X hS hk0 hT hF
  exact ⟨s₂, o, XS.lsub X.here hx rfl (hb hby hd) rfl h1, h2⟩
theorem w_lmul (ok : Ok Z K code own nm maxL ret) {x y : Int64} (hd : Fet code pc pc' (.lmul) 1)  (hr : Wp l R n0 K Q h k n pc' Ls (.long (x * y) :: st)) : Wp l R n0 K Q h k n pc Ls (.long y :: .long x :: st) := by
  obtain ⟨p, e, s, m, args, below, meth, c⟩ := K
  obtain ⟨hx, hby, hZs, howns, hnm, hml, hret, hlk⟩ := ok
  obtain ⟨hd, rfl⟩ := hd
  intro T locs vm0 k0 X hS hk0 hT hF
  have hZ : Z.Warmed39 (s.setVm vm0).vm := State.Warmed39.trans hZs hS.1
  have hown : (s.setVm vm0).vm.findClass own = some m.cls := (hS.1.alike.findClass _ _).trans howns
  obtain ⟨s₂, o, h1, h2⟩ := hr T locs vm0 k0 X hS hk0 hT hF
  exact ⟨s₂, o, XS.lmul X.here hx rfl (hb hby hd) rfl h1, h2⟩
theorem w_land (ok : Ok Z K code own nm maxL ret) {x y : Int64} (hd : Fet code pc pc' (.land) 1)  (hr : Wp l R n0 K Q h k n pc' Ls (.long (x &&& y) :: st)) : Wp l R n0 K Q h k n pc Ls (.long y :: .long x :: st) := by
  obtain ⟨p, e, s, m, args, below, meth, c⟩ := K
  obtain ⟨hx, hby, hZs, howns, hnm, hml, hret, hlk⟩ := ok
  obtain ⟨hd, rfl⟩ := hd
  intro T locs vm0 k0 X hS hk0 hT hF
  have hZ : Z.Warmed39 (s.setVm vm0).vm := State.Warmed39.trans hZs hS.1
  have hown : (s.setVm vm0).vm.findClass own = some m.cls := (hS.1.alike.findClass _ _).trans howns
  obtain ⟨s₂, o, h1, h2⟩ := hr T locs vm0 k0 X hS hk0 hT hF
  exact ⟨s₂, o, XS.land X.here hx rfl (hb hby hd) rfl h1, h2⟩
theorem w_lor (ok : Ok Z K code own nm maxL ret) {x y : Int64} (hd : Fet code pc pc' (.lor) 1)  (hr : Wp l R n0 K Q h k n pc' Ls (.long (x ||| y) :: st)) : Wp l R n0 K Q h k n pc Ls (.long y :: .long x :: st) := by
  obtain ⟨p, e, s, m, args, below, meth, c⟩ := K
  obtain ⟨hx, hby, hZs, howns, hnm, hml, hret, hlk⟩ := ok
  obtain ⟨hd, rfl⟩ := hd
  intro T locs vm0 k0 X hS hk0 hT hF
  have hZ : Z.Warmed39 (s.setVm vm0).vm := State.Warmed39.trans hZs hS.1
  have hown : (s.setVm vm0).vm.findClass own = some m.cls := (hS.1.alike.findClass _ _).trans howns
  obtain ⟨s₂, o, h1, h2⟩ := hr T locs vm0 k0 X hS hk0 hT hF
  exact ⟨s₂, o, XS.lor X.here hx rfl (hb hby hd) rfl h1, h2⟩
theorem w_lxor (ok : Ok Z K code own nm maxL ret) {x y : Int64} (hd : Fet code pc pc' (.lxor) 1)  (hr : Wp l R n0 K Q h k n pc' Ls (.long (x ^^^ y) :: st)) : Wp l R n0 K Q h k n pc Ls (.long y :: .long x :: st) := by
  obtain ⟨p, e, s, m, args, below, meth, c⟩ := K
  obtain ⟨hx, hby, hZs, howns, hnm, hml, hret, hlk⟩ := ok
  obtain ⟨hd, rfl⟩ := hd
  intro T locs vm0 k0 X hS hk0 hT hF
  have hZ : Z.Warmed39 (s.setVm vm0).vm := State.Warmed39.trans hZs hS.1
  have hown : (s.setVm vm0).vm.findClass own = some m.cls := (hS.1.alike.findClass _ _).trans howns
  obtain ⟨s₂, o, h1, h2⟩ := hr T locs vm0 k0 X hS hk0 hT hF
  exact ⟨s₂, o, XS.lxor X.here hx rfl (hb hby hd) rfl h1, h2⟩
theorem w_ishl (ok : Ok Z K code own nm maxL ret) {x y : Int32} (hd : Fet code pc pc' (.ishl) 1)  (hr : Wp l R n0 K Q h k n pc' Ls (.int (x <<< (y &&& 31)) :: st)) : Wp l R n0 K Q h k n pc Ls (.int y :: .int x :: st) := by
  obtain ⟨p, e, s, m, args, below, meth, c⟩ := K
  obtain ⟨hx, hby, hZs, howns, hnm, hml, hret, hlk⟩ := ok
  obtain ⟨hd, rfl⟩ := hd
  intro T locs vm0 k0 X hS hk0 hT hF
  have hZ : Z.Warmed39 (s.setVm vm0).vm := State.Warmed39.trans hZs hS.1
  have hown : (s.setVm vm0).vm.findClass own = some m.cls := (hS.1.alike.findClass _ _).trans howns
  obtain ⟨s₂, o, h1, h2⟩ := hr T locs vm0 k0 X hS hk0 hT hF
  exact ⟨s₂, o, XS.ishl X.here hx rfl (hb hby hd) rfl h1, h2⟩
theorem w_ishr (ok : Ok Z K code own nm maxL ret) {x y : Int32} (hd : Fet code pc pc' (.ishr) 1)  (hr : Wp l R n0 K Q h k n pc' Ls (.int (x >>> (y &&& 31)) :: st)) : Wp l R n0 K Q h k n pc Ls (.int y :: .int x :: st) := by
  obtain ⟨p, e, s, m, args, below, meth, c⟩ := K
  obtain ⟨hx, hby, hZs, howns, hnm, hml, hret, hlk⟩ := ok
  obtain ⟨hd, rfl⟩ := hd
  intro T locs vm0 k0 X hS hk0 hT hF
  have hZ : Z.Warmed39 (s.setVm vm0).vm := State.Warmed39.trans hZs hS.1
  have hown : (s.setVm vm0).vm.findClass own = some m.cls := (hS.1.alike.findClass _ _).trans howns
  obtain ⟨s₂, o, h1, h2⟩ := hr T locs vm0 k0 X hS hk0 hT hF
  exact ⟨s₂, o, XS.ishr X.here hx rfl (hb hby hd) rfl h1, h2⟩
theorem w_iushr (ok : Ok Z K code own nm maxL ret) {x y : Int32} (hd : Fet code pc pc' (.iushr) 1)  (hr : Wp l R n0 K Q h k n pc' Ls (.int ((x.toUInt32 >>> (y &&& 31).toUInt32).toInt32) :: st)) : Wp l R n0 K Q h k n pc Ls (.int y :: .int x :: st) := by
  obtain ⟨p, e, s, m, args, below, meth, c⟩ := K
  obtain ⟨hx, hby, hZs, howns, hnm, hml, hret, hlk⟩ := ok
  obtain ⟨hd, rfl⟩ := hd
  intro T locs vm0 k0 X hS hk0 hT hF
  have hZ : Z.Warmed39 (s.setVm vm0).vm := State.Warmed39.trans hZs hS.1
  have hown : (s.setVm vm0).vm.findClass own = some m.cls := (hS.1.alike.findClass _ _).trans howns
  obtain ⟨s₂, o, h1, h2⟩ := hr T locs vm0 k0 X hS hk0 hT hF
  exact ⟨s₂, o, XS.iushr X.here hx rfl (hb hby hd) rfl h1, h2⟩
theorem w_lshl (ok : Ok Z K code own nm maxL ret) {x : Int64} {y : Int32} (hd : Fet code pc pc' (.lshl) 1)  (hr : Wp l R n0 K Q h k n pc' Ls (.long (x <<< (y &&& 0x3f).toInt64) :: st)) : Wp l R n0 K Q h k n pc Ls (.int y :: .long x :: st) := by
  obtain ⟨p, e, s, m, args, below, meth, c⟩ := K
  obtain ⟨hx, hby, hZs, howns, hnm, hml, hret, hlk⟩ := ok
  obtain ⟨hd, rfl⟩ := hd
  intro T locs vm0 k0 X hS hk0 hT hF
  have hZ : Z.Warmed39 (s.setVm vm0).vm := State.Warmed39.trans hZs hS.1
  have hown : (s.setVm vm0).vm.findClass own = some m.cls := (hS.1.alike.findClass _ _).trans howns
  obtain ⟨s₂, o, h1, h2⟩ := hr T locs vm0 k0 X hS hk0 hT hF
  exact ⟨s₂, o, XS.lshl X.here hx rfl (hb hby hd) rfl h1, h2⟩
theorem w_lshr (ok : Ok Z K code own nm maxL ret) {x : Int64} {y : Int32} (hd : Fet code pc pc' (.lshr) 1)  (hr : Wp l R n0 K Q h k n pc' Ls (.long (x >>> (y &&& 0x3f).toInt64) :: st)) : Wp l R n0 K Q h k n pc Ls (.int y :: .long x :: st) := by
  obtain ⟨p, e, s, m, args, below, meth, c⟩ := K
  obtain ⟨hx, hby, hZs, howns, hnm, hml, hret, hlk⟩ := ok
  obtain ⟨hd, rfl⟩ := hd
  intro T locs vm0 k0 X hS hk0 hT hF
  have hZ : Z.Warmed39 (s.setVm vm0).vm := State.Warmed39.trans hZs hS.1
  have hown : (s.setVm vm0).vm.findClass own = some m.cls := (hS.1.alike.findClass _ _).trans howns
  obtain ⟨s₂, o, h1, h2⟩ := hr T locs vm0 k0 X hS hk0 hT hF
  exact ⟨s₂, o, XS.lshr X.here hx rfl (hb hby hd) rfl h1, h2⟩
theorem w_lushr (ok : Ok Z K code own nm maxL ret) {x : Int64} {y : Int32} (hd : Fet code pc pc' (.lushr) 1)  (hr : Wp l R n0 K Q h k n pc' Ls (.long ((x.toUInt64 >>> (y &&& 0x3f).toInt64.toUInt64).toInt64) :: st)) : Wp l R n0 K Q h k n pc Ls (.int y :: .long x :: st) := by
  obtain ⟨p, e, s, m, args, below, meth, c⟩ := K
  obtain ⟨hx, hby, hZs, howns, hnm, hml, hret, hlk⟩ := ok
  obtain ⟨hd, rfl⟩ := hd
  intro T locs vm0 k0 X hS hk0 hT hF
  have hZ : Z.Warmed39 (s.setVm vm0).vm := State.Warmed39.trans hZs hS.1
  have hown : (s.setVm vm0).vm.findClass own = some m.cls := (hS.1.alike.findClass _ _).trans howns
  obtain ⟨s₂, o, h1, h2⟩ := hr T locs vm0 k0 X hS hk0 hT hF
  exact ⟨s₂, o, XS.lushr X.here hx rfl (hb hby hd) rfl h1, h2⟩
theorem w_idiv (ok : Ok Z K code own nm maxL ret) {x y : Int32} (hd : Fet code pc pc' (.idiv) 1) (hy : y ≠ 0) (hr : Wp l R n0 K Q h k n pc' Ls (.int (x / y) :: st)) : Wp l R n0 K Q h k n pc Ls (.int y :: .int x :: st) := by
  obtain ⟨p, e, s, m, args, below, meth, c⟩ := K
  obtain ⟨hx, hby, hZs, howns, hnm, hml, hret, hlk⟩ := ok
  obtain ⟨hd, rfl⟩ := hd
  intro T locs vm0 k0 X hS hk0 hT hF
  have hZ : Z.Warmed39 (s.setVm vm0).vm := State.Warmed39.trans hZs hS.1
  have hown : (s.setVm vm0).vm.findClass own = some m.cls := (hS.1.alike.findClass _ _).trans howns
  obtain ⟨s₂, o, h1, h2⟩ := hr T locs vm0 k0 X hS hk0 hT hF
  exact ⟨s₂, o, XS.idiv X.here hx rfl (hb hby hd) rfl hy h1, h2⟩
theorem w_ldiv (ok : Ok Z K code own nm maxL ret) {x y : Int64} (hd : Fet code pc pc' (.ldiv) 1) (hy : y ≠ 0) (hr : Wp l R n0 K Q h k n pc' Ls (.long (x / y) :: st)) : Wp l R n0 K Q h k n pc Ls (.long y :: .long x :: st) := by
  obtain ⟨p, e, s, m, args, below, meth, c⟩ := K
  obtain ⟨hx, hby, hZs, howns, hnm, hml, hret, hlk⟩ := ok
  obtain ⟨hd, rfl⟩ := hd
  intro T locs vm0 k0 X hS hk0 hT hF
  have hZ : Z.Warmed39 (s.setVm vm0).vm := State.Warmed39.trans hZs hS.1
  have hown : (s.setVm vm0).vm.findClass own = some m.cls := (hS.1.alike.findClass _ _).trans howns
  obtain ⟨s₂, o, h1, h2⟩ := hr T locs vm0 k0 X hS hk0 hT hF
  exact ⟨s₂, o, XS.ldiv X.here hx rfl (hb hby hd) rfl hy h1, h2⟩
theorem w_ineg (ok : Ok Z K code own nm maxL ret) {x : Int32} (hd : Fet code pc pc' (.ineg) 1)  (hr : Wp l R n0 K Q h k n pc' Ls (.int (-x) :: st)) : Wp l R n0 K Q h k n pc Ls (.int x :: st) := by
  obtain ⟨p, e, s, m, args, below, meth, c⟩ := K
  obtain ⟨hx, hby, hZs, howns, hnm, hml, hret, hlk⟩ := ok
  obtain ⟨hd, rfl⟩ := hd
  intro T locs vm0 k0 X hS hk0 hT hF
  have hZ : Z.Warmed39 (s.setVm vm0).vm := State.Warmed39.trans hZs hS.1
  have hown : (s.setVm vm0).vm.findClass own = some m.cls := (hS.1.alike.findClass _ _).trans howns
  obtain ⟨s₂, o, h1, h2⟩ := hr T locs vm0 k0 X hS hk0 hT hF
  exact ⟨s₂, o, XS.ineg X.here hx rfl (hb hby hd) rfl h1, h2⟩
theorem w_lneg (ok : Ok Z K code own nm maxL ret) {x : Int64} (hd : Fet code pc pc' (.lneg) 1)  (hr : Wp l R n0 K Q h k n pc' Ls (.long (-x) :: st)) : Wp l R n0 K Q h k n pc Ls (.long x :: st) := by
  obtain ⟨p, e, s, m, args, below, meth, c⟩ := K
  obtain ⟨hx, hby, hZs, howns, hnm, hml, hret, hlk⟩ := ok
  obtain ⟨hd, rfl⟩ := hd
  intro T locs vm0 k0 X hS hk0 hT hF
  have hZ : Z.Warmed39 (s.setVm vm0).vm := State.Warmed39.trans hZs hS.1
  have hown : (s.setVm vm0).vm.findClass own = some m.cls := (hS.1.alike.findClass _ _).trans howns
  obtain ⟨s₂, o, h1, h2⟩ := hr T locs vm0 k0 X hS hk0 hT hF
  exact ⟨s₂, o, XS.lneg X.here hx rfl (hb hby hd) rfl h1, h2⟩
theorem w_i2l (ok : Ok Z K code own nm maxL ret) {x : Int32} (hd : Fet code pc pc' (.i2l) 1)  (hr : Wp l R n0 K Q h k n pc' Ls (.long x.toInt64 :: st)) : Wp l R n0 K Q h k n pc Ls (.int x :: st) := by
  obtain ⟨p, e, s, m, args, below, meth, c⟩ := K
  obtain ⟨hx, hby, hZs, howns, hnm, hml, hret, hlk⟩ := ok
  obtain ⟨hd, rfl⟩ := hd
  intro T locs vm0 k0 X hS hk0 hT hF
  have hZ : Z.Warmed39 (s.setVm vm0).vm := State.Warmed39.trans hZs hS.1
  have hown : (s.setVm vm0).vm.findClass own = some m.cls := (hS.1.alike.findClass _ _).trans howns
  obtain ⟨s₂, o, h1, h2⟩ := hr T locs vm0 k0 X hS hk0 hT hF
  exact ⟨s₂, o, XS.i2l X.here hx rfl (hb hby hd) rfl h1, h2⟩
theorem w_l2i (ok : Ok Z K code own nm maxL ret) {x : Int64} (hd : Fet code pc pc' (.l2i) 1)  (hr : Wp l R n0 K Q h k n pc' Ls (.int x.toInt32 :: st)) : Wp l R n0 K Q h k n pc Ls (.long x :: st) := by
  obtain ⟨p, e, s, m, args, below, meth, c⟩ := K
  obtain ⟨hx, hby, hZs, howns, hnm, hml, hret, hlk⟩ := ok
  obtain ⟨hd, rfl⟩ := hd
  intro T locs vm0 k0 X hS hk0 hT hF
  have hZ : Z.Warmed39 (s.setVm vm0).vm := State.Warmed39.trans hZs hS.1
  have hown : (s.setVm vm0).vm.findClass own = some m.cls := (hS.1.alike.findClass _ _).trans howns
  obtain ⟨s₂, o, h1, h2⟩ := hr T locs vm0 k0 X hS hk0 hT hF
  exact ⟨s₂, o, XS.l2i X.here hx rfl (hb hby hd) rfl h1, h2⟩
theorem w_i2b (ok : Ok Z K code own nm maxL ret) {x : Int32} (hd : Fet code pc pc' (.i2b) 1)  (hr : Wp l R n0 K Q h k n pc' Ls (.int x.toInt8.toInt32 :: st)) : Wp l R n0 K Q h k n pc Ls (.int x :: st) := by
  obtain ⟨p, e, s, m, args, below, meth, c⟩ := K
  obtain ⟨hx, hby, hZs, howns, hnm, hml, hret, hlk⟩ := ok
  obtain ⟨hd, rfl⟩ := hd
  intro T locs vm0 k0 X hS hk0 hT hF
  have hZ : Z.Warmed39 (s.setVm vm0).vm := State.Warmed39.trans hZs hS.1
  have hown : (s.setVm vm0).vm.findClass own = some m.cls := (hS.1.alike.findClass _ _).trans howns
  obtain ⟨s₂, o, h1, h2⟩ := hr T locs vm0 k0 X hS hk0 hT hF
  exact ⟨s₂, o, XS.i2b X.here hx rfl (hb hby hd) rfl h1, h2⟩
theorem w_i2s (ok : Ok Z K code own nm maxL ret) {x : Int32} (hd : Fet code pc pc' (.i2s) 1)  (hr : Wp l R n0 K Q h k n pc' Ls (.int x.toInt16.toInt32 :: st)) : Wp l R n0 K Q h k n pc Ls (.int x :: st) := by
  obtain ⟨p, e, s, m, args, below, meth, c⟩ := K
  obtain ⟨hx, hby, hZs, howns, hnm, hml, hret, hlk⟩ := ok
  obtain ⟨hd, rfl⟩ := hd
  intro T locs vm0 k0 X hS hk0 hT hF
  have hZ : Z.Warmed39 (s.setVm vm0).vm := State.Warmed39.trans hZs hS.1
  have hown : (s.setVm vm0).vm.findClass own = some m.cls := (hS.1.alike.findClass _ _).trans howns
  obtain ⟨s₂, o, h1, h2⟩ := hr T locs vm0 k0 X hS hk0 hT hF
  exact ⟨s₂, o, XS.i2s X.here hx rfl (hb hby hd) rfl h1, h2⟩
theorem w_i2c (ok : Ok Z K code own nm maxL ret) {x : Int32} (hd : Fet code pc pc' (.i2c) 1)  (hr : Wp l R n0 K Q h k n pc' Ls (.int x.toUInt32.toUInt16.toUInt32.toInt32 :: st)) : Wp l R n0 K Q h k n pc Ls (.int x :: st) := by
  obtain ⟨p, e, s, m, args, below, meth, c⟩ := K
  obtain ⟨hx, hby, hZs, howns, hnm, hml, hret, hlk⟩ := ok
  obtain ⟨hd, rfl⟩ := hd
  intro T locs vm0 k0 X hS hk0 hT hF
  have hZ : Z.Warmed39 (s.setVm vm0).vm := State.Warmed39.trans hZs hS.1
  have hown : (s.setVm vm0).vm.findClass own = some m.cls := (hS.1.alike.findClass _ _).trans howns
  obtain ⟨s₂, o, h1, h2⟩ := hr T locs vm0 k0 X hS hk0 hT hF
  exact ⟨s₂, o, XS.i2c X.here hx rfl (hb hby hd) rfl h1, h2⟩
theorem w_dup (ok : Ok Z K code own nm maxL ret) {x : Value} (hd : Fet code pc pc' (.dup) 1) (hc : x.category = 1) (hr : Wp l R n0 K Q h k n pc' Ls (x :: x :: st)) : Wp l R n0 K Q h k n pc Ls (x :: st) := by
  obtain ⟨p, e, s, m, args, below, meth, c⟩ := K
  obtain ⟨hx, hby, hZs, howns, hnm, hml, hret, hlk⟩ := ok
  obtain ⟨hd, rfl⟩ := hd
  intro T locs vm0 k0 X hS hk0 hT hF
  have hZ : Z.Warmed39 (s.setVm vm0).vm := State.Warmed39.trans hZs hS.1
  have hown : (s.setVm vm0).vm.findClass own = some m.cls := (hS.1.alike.findClass _ _).trans howns
  obtain ⟨s₂, o, h1, h2⟩ := hr T locs vm0 k0 X hS hk0 hT hF
  exact ⟨s₂, o, XS.dup X.here hx rfl (hb hby hd) rfl hc h1, h2⟩
theorem w_pop (ok : Ok Z K code own nm maxL ret) {x : Value} (hd : Fet code pc pc' (.pop) 1) (hc : x.category = 1) (hr : Wp l R n0 K Q h k n pc' Ls st) : Wp l R n0 K Q h k n pc Ls (x :: st) := by
  obtain ⟨p, e, s, m, args, below, meth, c⟩ := K
  obtain ⟨hx, hby, hZs, howns, hnm, hml, hret, hlk⟩ := ok
  obtain ⟨hd, rfl⟩ := hd
  intro T locs vm0 k0 X hS hk0 hT hF
  have hZ : Z.Warmed39 (s.setVm vm0).vm := State.Warmed39.trans hZs hS.1
  have hown : (s.setVm vm0).vm.findClass own = some m.cls := (hS.1.alike.findClass _ _).trans howns
  obtain ⟨s₂, o, h1, h2⟩ := hr T locs vm0 k0 X hS hk0 hT hF
  exact ⟨s₂, o, XS.pop X.here hx rfl (hb hby hd) rfl hc h1, h2⟩
theorem w_dupX1 (ok : Ok Z K code own nm maxL ret) {x y : Value} (hd : Fet code pc pc' (.dup_x1) 1) (hc : x.category = 1) (hc' : y.category = 1) (hr : Wp l R n0 K Q h k n pc' Ls (x :: y :: x :: st)) : Wp l R n0 K Q h k n pc Ls (x :: y :: st) := by
  obtain ⟨p, e, s, m, args, below, meth, c⟩ := K
  obtain ⟨hx, hby, hZs, howns, hnm, hml, hret, hlk⟩ := ok
  obtain ⟨hd, rfl⟩ := hd
  intro T locs vm0 k0 X hS hk0 hT hF
  have hZ : Z.Warmed39 (s.setVm vm0).vm := State.Warmed39.trans hZs hS.1
  have hown : (s.setVm vm0).vm.findClass own = some m.cls := (hS.1.alike.findClass _ _).trans howns
  obtain ⟨s₂, o, h1, h2⟩ := hr T locs vm0 k0 X hS hk0 hT hF
  exact ⟨s₂, o, XS.dupX1 X.here hx rfl (hb hby hd) rfl hc hc' h1, h2⟩
theorem w_dup2 (ok : Ok Z K code own nm maxL ret) {x y : Value} (hd : Fet code pc pc' (.dup2) 1) (hc : x.category = 1) (hc' : y.category = 1) (hr : Wp l R n0 K Q h k n pc' Ls (x :: y :: x :: y :: st)) : Wp l R n0 K Q h k n pc Ls (x :: y :: st) := by
  obtain ⟨p, e, s, m, args, below, meth, c⟩ := K
  obtain ⟨hx, hby, hZs, howns, hnm, hml, hret, hlk⟩ := ok
  obtain ⟨hd, rfl⟩ := hd
  intro T locs vm0 k0 X hS hk0 hT hF
  have hZ : Z.Warmed39 (s.setVm vm0).vm := State.Warmed39.trans hZs hS.1
  have hown : (s.setVm vm0).vm.findClass own = some m.cls := (hS.1.alike.findClass _ _).trans howns
  obtain ⟨s₂, o, h1, h2⟩ := hr T locs vm0 k0 X hS hk0 hT hF
  exact ⟨s₂, o, Jvm.Free.XT.dup2 X.here hx rfl (hb hby hd) rfl hc hc' h1, h2⟩
theorem w_dup2L (ok : Ok Z K code own nm maxL ret) {x : Int64} (hd : Fet code pc pc' (.dup2) 1)  (hr : Wp l R n0 K Q h k n pc' Ls (.long x :: .long x :: st)) : Wp l R n0 K Q h k n pc Ls (.long x :: st) := by
  obtain ⟨p, e, s, m, args, below, meth, c⟩ := K
  obtain ⟨hx, hby, hZs, howns, hnm, hml, hret, hlk⟩ := ok
  obtain ⟨hd, rfl⟩ := hd
  intro T locs vm0 k0 X hS hk0 hT hF
  have hZ : Z.Warmed39 (s.setVm vm0).vm := State.Warmed39.trans hZs hS.1
  have hown : (s.setVm vm0).vm.findClass own = some m.cls := (hS.1.alike.findClass _ _).trans howns
  obtain ⟨s₂, o, h1, h2⟩ := hr T locs vm0 k0 X hS hk0 hT hF
  exact ⟨s₂, o, Jvm.Free.XT.dup2L X.here hx rfl (hb hby hd) rfl h1, h2⟩
theorem w_irem (ok : Ok Z K code own nm maxL ret) {x y : Int32} (hd : Fet code pc pc' (.irem) 1) (hy : y ≠ 0) (hr : Wp l R n0 K Q h k n pc' Ls (.int (x % y) :: st)) : Wp l R n0 K Q h k n pc Ls (.int y :: .int x :: st) := by
  obtain ⟨p, e, s, m, args, below, meth, c⟩ := K
  obtain ⟨hx, hby, hZs, howns, hnm, hml, hret, hlk⟩ := ok
  obtain ⟨hd, rfl⟩ := hd
  intro T locs vm0 k0 X hS hk0 hT hF
  have hZ : Z.Warmed39 (s.setVm vm0).vm := State.Warmed39.trans hZs hS.1
  have hown : (s.setVm vm0).vm.findClass own = some m.cls := (hS.1.alike.findClass _ _).trans howns
  obtain ⟨s₂, o, h1, h2⟩ := hr T locs vm0 k0 X hS hk0 hT hF
  exact ⟨s₂, o, iremM X hx rfl (hb hby hd) rfl hy h1, h2⟩
theorem lrem_mod (x y : Int64) : x - (x / y) * y = x % y := by
  apply Int64.toInt_inj.mp
  have h1 := Int64.le_toInt (x % y)
  have h2 := Int64.toInt_lt (x % y)
  rw [Int64.toInt_sub, Int64.toInt_mul, Int64.toInt_div, Int.bmod_mul_bmod, Int.sub_bmod_bmod, Int.mul_comm (x.toInt.tdiv y.toInt), ← Int.tmod_def, ← Int64.toInt_mod]
  exact Int.bmod_eq_of_le_mul_two (by omega) (by omega)

theorem w_lrem (ok : Ok Z K code own nm maxL ret) {x y : Int64} (hd : Fet code pc pc' (.lrem) 1) (hy : y ≠ 0) (hr : Wp l R n0 K Q h k n pc' Ls (.long (x % y) :: st)) : Wp l R n0 K Q h k n pc Ls (.long y :: .long x :: st) := by
  obtain ⟨p, e, s, m, args, below, meth, c⟩ := K
  obtain ⟨hx, hby, hZs, howns, hnm, hml, hret, hlk⟩ := ok
  obtain ⟨hd, rfl⟩ := hd
  intro T locs vm0 k0 X hS hk0 hT hF
  have hZ : Z.Warmed39 (s.setVm vm0).vm := State.Warmed39.trans hZs hS.1
  have hown : (s.setVm vm0).vm.findClass own = some m.cls := (hS.1.alike.findClass _ _).trans howns
  obtain ⟨s₂, o, h1, h2⟩ := hr T locs vm0 k0 X hS hk0 hT hF
  exact ⟨s₂, o, XS.lrem X.here hx rfl (hb hby hd) rfl hy (by rw [lrem_mod]; exact h1), h2⟩
theorem w_ldc (ok : Ok Z K code own nm maxL ret) {i : Nat} {x : Int32} (w : (Cond.constant own i x).before a0 Z = true) (hd : Fet code pc pc' (.ldc i) 2) (hr : Wp l R n0 K Q h k n pc' Ls (.int x :: st)) : Wp l R n0 K Q h k n pc Ls st := by
  obtain ⟨p, e, s, m, args, below, meth, c⟩ := K
  obtain ⟨hx, hby, hZs, howns, hnm, hml, hret, hlk⟩ := ok
  obtain ⟨hd, rfl⟩ := hd
  intro T locs vm0 k0 X hS hk0 hT hF
  have hZ : Z.Warmed39 (s.setVm vm0).vm := State.Warmed39.trans hZs hS.1
  have hown : (s.setVm vm0).vm.findClass own = some m.cls := (hS.1.alike.findClass _ _).trans howns
  obtain ⟨s₂, o, h1, h2⟩ := hr T locs vm0 k0 X hS hk0 hT hF
  exact ⟨s₂, o, X.ldcInt hx hown (mvT hZ w) (g := mkF m pc Ls st) rfl (hb hby hd) _ h1, h2⟩
theorem w_ldc2 (ok : Ok Z K code own nm maxL ret) {i : Nat} {x : Int64} (w : (Cond.constantLong own i x).before a0 Z = true) (hd : Fet code pc pc' (.ldc2_w i) 3) (hr : Wp l R n0 K Q h k n pc' Ls (.long x :: st)) : Wp l R n0 K Q h k n pc Ls st := by
  obtain ⟨p, e, s, m, args, below, meth, c⟩ := K
  obtain ⟨hx, hby, hZs, howns, hnm, hml, hret, hlk⟩ := ok
  obtain ⟨hd, rfl⟩ := hd
  intro T locs vm0 k0 X hS hk0 hT hF
  have hZ : Z.Warmed39 (s.setVm vm0).vm := State.Warmed39.trans hZs hS.1
  have hown : (s.setVm vm0).vm.findClass own = some m.cls := (hS.1.alike.findClass _ _).trans howns
  obtain ⟨s₂, o, h1, h2⟩ := hr T locs vm0 k0 X hS hk0 hT hF
  exact ⟨s₂, o, X.ldc2Long hx hown (mvT hZ w) (g := mkF m pc Ls st) rfl (hb hby hd) _ h1, h2⟩
theorem w_goto (ok : Ok Z K code own nm maxL ret) {pcN : Nat} {o : Int} (hd : Brn code pc pcN pc' (.goto o) o) (hr : Wp l R n0 K Q h k n pc' Ls st) : Wp l R n0 K Q h k n pc Ls st := by
  obtain ⟨p, e, s, m, args, below, meth, c⟩ := K
  obtain ⟨hx, hby, hZs, howns, hnm, hml, hret, hlk⟩ := ok
  obtain ⟨hd, rfl, ho, hp⟩ := hd
  intro T locs vm0 k0 X hS hk0 hT hF
  have hZ : Z.Warmed39 (s.setVm vm0).vm := State.Warmed39.trans hZs hS.1
  have hown : (s.setVm vm0).vm.findClass own = some m.cls := (hS.1.alike.findClass _ _).trans howns
  obtain ⟨s₂, o, h1, h2⟩ := hr T locs vm0 k0 X hS hk0 hT hF
  exact ⟨s₂, o, XS.goto X.here hx rfl rfl (hb hby hd) ho hp h1, h2⟩
theorem w_if0 (ok : Ok Z K code own nm maxL ret) {pcN pcT : Nat} {o : Int} {cd : ClassFile.Cond} {x : Int32} (hd : Brn code pc pcN pcT (.ifCond cd o) o) (hy : ifCond.holds cd x = true → Wp l R n0 K Q h k n pcT Ls st) (hn : ifCond.holds cd x = false → Wp l R n0 K Q h k n pcN Ls st) : Wp l R n0 K Q h k n pc Ls (.int x :: st) := by
  obtain ⟨p, e, s, m, args, below, meth, c⟩ := K
  obtain ⟨hx, hby, hZs, howns, hnm, hml, hret, hlk⟩ := ok
  obtain ⟨hd, rfl, ho, hp⟩ := hd
  intro T locs vm0 k0 X hS hk0 hT hF
  have hZ : Z.Warmed39 (s.setVm vm0).vm := State.Warmed39.trans hZs hS.1
  have hown : (s.setVm vm0).vm.findClass own = some m.cls := (hS.1.alike.findClass _ _).trans howns
  cases hc : ifCond.holds cd x
  · obtain ⟨s₂, o, h1, h2⟩ := hn hc T locs vm0 k0 X hS hk0 hT hF
    exact ⟨s₂, o, XS.ifNo X.here hx rfl (hb hby hd) rfl hc h1, h2⟩
  · obtain ⟨s₂, o, h1, h2⟩ := hy hc T locs vm0 k0 X hS hk0 hT hF
    exact ⟨s₂, o, XS.ifYes X.here hx rfl rfl (hb hby hd) rfl hc ho hp h1, h2⟩
theorem w_ic (ok : Ok Z K code own nm maxL ret) {pcN pcT : Nat} {o : Int} {cd : ClassFile.Cond} {x y : Int32} (hd : Brn code pc pcN pcT (.if_icmp cd o) o) (hy : if_icmp.holds cd x y = true → Wp l R n0 K Q h k n pcT Ls st) (hn : if_icmp.holds cd x y = false → Wp l R n0 K Q h k n pcN Ls st) : Wp l R n0 K Q h k n pc Ls (.int y :: .int x :: st) := by
  obtain ⟨p, e, s, m, args, below, meth, c⟩ := K
  obtain ⟨hx, hby, hZs, howns, hnm, hml, hret, hlk⟩ := ok
  obtain ⟨hd, rfl, ho, hp⟩ := hd
  intro T locs vm0 k0 X hS hk0 hT hF
  have hZ : Z.Warmed39 (s.setVm vm0).vm := State.Warmed39.trans hZs hS.1
  have hown : (s.setVm vm0).vm.findClass own = some m.cls := (hS.1.alike.findClass _ _).trans howns
  cases hc : if_icmp.holds cd x y
  · obtain ⟨s₂, o, h1, h2⟩ := hn hc T locs vm0 k0 X hS hk0 hT hF
    exact ⟨s₂, o, XS.icmpNo X.here hx rfl (hb hby hd) rfl hc h1, h2⟩
  · obtain ⟨s₂, o, h1, h2⟩ := hy hc T locs vm0 k0 X hS hk0 hT hF
    exact ⟨s₂, o, XS.icmpYes X.here hx rfl rfl (hb hby hd) rfl hc ho hp h1, h2⟩
theorem w_lcmp (ok : Ok Z K code own nm maxL ret) {x y : Int64} (hd : Fet code pc pc' .lcmp 1) (hr : Wp l R n0 K Q h k n pc' Ls (.int (lcmpW x y) :: st)) : Wp l R n0 K Q h k n pc Ls (.long y :: .long x :: st) := by
  obtain ⟨p, e, s, m, args, below, meth, c⟩ := K
  obtain ⟨hx, hby, hZs, howns, hnm, hml, hret, hlk⟩ := ok
  obtain ⟨hd, rfl⟩ := hd
  intro T locs vm0 k0 X hS hk0 hT hF
  have hZ : Z.Warmed39 (s.setVm vm0).vm := State.Warmed39.trans hZs hS.1
  have hown : (s.setVm vm0).vm.findClass own = some m.cls := (hS.1.alike.findClass _ _).trans howns
  obtain ⟨s₂, o, h1, h2⟩ := hr T locs vm0 k0 X hS hk0 hT hF
  exact ⟨s₂, o, XS.lcmp X.here hx rfl (hb hby hd) rfl h1, h2⟩
theorem h_eq {x y : Int32} : if_icmp.holds .eq x y = decide (x = y) := by rw [Bool.eq_iff_iff]; simp [if_icmp.holds]
theorem h_ne {x y : Int32} : if_icmp.holds .ne x y = decide (¬ x = y) := by rw [Bool.eq_iff_iff]; simp [if_icmp.holds]
theorem h_lt {x y : Int32} : if_icmp.holds .lt x y = decide (x < y) := by simp [if_icmp.holds]
theorem h_ge {x y : Int32} : if_icmp.holds .ge x y = decide (¬ x < y) := by simp [if_icmp.holds]
theorem h_gt {x y : Int32} : if_icmp.holds .gt x y = decide (y < x) := by simp [if_icmp.holds]
theorem h_le {x y : Int32} : if_icmp.holds .le x y = decide (¬ y < x) := by simp [if_icmp.holds]
theorem w_ic_eq (ok : Ok Z K code own nm maxL ret) {pcN pcT : Nat} {o : Int} {x y : Int32} (hd : Brn code pc pcN pcT (.if_icmp .eq o) o) (hy : x = y → Wp l R n0 K Q h k n pcT Ls st) (hn : ¬ x = y → Wp l R n0 K Q h k n pcN Ls st) : Wp l R n0 K Q h k n pc Ls (.int y :: .int x :: st) :=
  w_ic ok hd (fun q => hy (by rw [h_eq] at q; simpa using q)) (fun q => hn (by rw [h_eq] at q; simpa using q))
theorem w_if_eq (ok : Ok Z K code own nm maxL ret) {pcN pcT : Nat} {o : Int} {x : Int32} (hd : Brn code pc pcN pcT (.ifCond .eq o) o) (hy : x = 0 → Wp l R n0 K Q h k n pcT Ls st) (hn : ¬ x = 0 → Wp l R n0 K Q h k n pcN Ls st) : Wp l R n0 K Q h k n pc Ls (.int x :: st) :=
  w_if0 ok hd (fun q => hy (by rw [if0, h_eq] at q; simpa using q)) (fun q => hn (by rw [if0, h_eq] at q; simpa using q))
theorem w_lc_eq (ok : Ok Z K code own nm maxL ret) {pcM pcN pcT : Nat} {o : Int} {x y : Int64} (hd1 : Fet code pc pcM .lcmp 1) (hd : Brn code pcM pcN pcT (.ifCond .eq o) o) (hy : x = y → Wp l R n0 K Q h k n pcT Ls st) (hn : ¬ x = y → Wp l R n0 K Q h k n pcN Ls st) : Wp l R n0 K Q h k n pc Ls (.long y :: .long x :: st) :=
  w_lcmp ok hd1 (w_if_eq ok hd (fun q => hy ((lw_eq x y).mp q)) (fun q => hn (fun r => q ((lw_eq x y).mpr r))))
theorem w_ic_ne (ok : Ok Z K code own nm maxL ret) {pcN pcT : Nat} {o : Int} {x y : Int32} (hd : Brn code pc pcN pcT (.if_icmp .ne o) o) (hy : ¬ x = y → Wp l R n0 K Q h k n pcT Ls st) (hn : x = y → Wp l R n0 K Q h k n pcN Ls st) : Wp l R n0 K Q h k n pc Ls (.int y :: .int x :: st) :=
  w_ic ok hd (fun q => hy (by rw [h_ne] at q; simpa using q)) (fun q => hn (by rw [h_ne] at q; simpa using q))
theorem w_if_ne (ok : Ok Z K code own nm maxL ret) {pcN pcT : Nat} {o : Int} {x : Int32} (hd : Brn code pc pcN pcT (.ifCond .ne o) o) (hy : ¬ x = 0 → Wp l R n0 K Q h k n pcT Ls st) (hn : x = 0 → Wp l R n0 K Q h k n pcN Ls st) : Wp l R n0 K Q h k n pc Ls (.int x :: st) :=
  w_if0 ok hd (fun q => hy (by rw [if0, h_ne] at q; simpa using q)) (fun q => hn (by rw [if0, h_ne] at q; simpa using q))
theorem w_lc_ne (ok : Ok Z K code own nm maxL ret) {pcM pcN pcT : Nat} {o : Int} {x y : Int64} (hd1 : Fet code pc pcM .lcmp 1) (hd : Brn code pcM pcN pcT (.ifCond .ne o) o) (hy : ¬ x = y → Wp l R n0 K Q h k n pcT Ls st) (hn : x = y → Wp l R n0 K Q h k n pcN Ls st) : Wp l R n0 K Q h k n pc Ls (.long y :: .long x :: st) :=
  w_lcmp ok hd1 (w_if_ne ok hd (fun q => hy (fun r => q ((lw_eq x y).mpr r))) (fun q => hn ((lw_eq x y).mp q)))
theorem w_ic_lt (ok : Ok Z K code own nm maxL ret) {pcN pcT : Nat} {o : Int} {x y : Int32} (hd : Brn code pc pcN pcT (.if_icmp .lt o) o) (hy : x < y → Wp l R n0 K Q h k n pcT Ls st) (hn : ¬ x < y → Wp l R n0 K Q h k n pcN Ls st) : Wp l R n0 K Q h k n pc Ls (.int y :: .int x :: st) :=
  w_ic ok hd (fun q => hy (by rw [h_lt] at q; simpa using q)) (fun q => hn (by rw [h_lt] at q; simpa using q))
theorem w_if_lt (ok : Ok Z K code own nm maxL ret) {pcN pcT : Nat} {o : Int} {x : Int32} (hd : Brn code pc pcN pcT (.ifCond .lt o) o) (hy : x < 0 → Wp l R n0 K Q h k n pcT Ls st) (hn : ¬ x < 0 → Wp l R n0 K Q h k n pcN Ls st) : Wp l R n0 K Q h k n pc Ls (.int x :: st) :=
  w_if0 ok hd (fun q => hy (by rw [if0, h_lt] at q; simpa using q)) (fun q => hn (by rw [if0, h_lt] at q; simpa using q))
theorem w_lc_lt (ok : Ok Z K code own nm maxL ret) {pcM pcN pcT : Nat} {o : Int} {x y : Int64} (hd1 : Fet code pc pcM .lcmp 1) (hd : Brn code pcM pcN pcT (.ifCond .lt o) o) (hy : x < y → Wp l R n0 K Q h k n pcT Ls st) (hn : ¬ x < y → Wp l R n0 K Q h k n pcN Ls st) : Wp l R n0 K Q h k n pc Ls (.long y :: .long x :: st) :=
  w_lcmp ok hd1 (w_if_lt ok hd (fun q => hy ((lw_lt x y).mp q)) (fun q => hn (fun r => q ((lw_lt x y).mpr r))))
theorem w_ic_ge (ok : Ok Z K code own nm maxL ret) {pcN pcT : Nat} {o : Int} {x y : Int32} (hd : Brn code pc pcN pcT (.if_icmp .ge o) o) (hy : ¬ x < y → Wp l R n0 K Q h k n pcT Ls st) (hn : x < y → Wp l R n0 K Q h k n pcN Ls st) : Wp l R n0 K Q h k n pc Ls (.int y :: .int x :: st) :=
  w_ic ok hd (fun q => hy (by rw [h_ge] at q; simpa using q)) (fun q => hn (by rw [h_ge] at q; simpa using q))
theorem w_if_ge (ok : Ok Z K code own nm maxL ret) {pcN pcT : Nat} {o : Int} {x : Int32} (hd : Brn code pc pcN pcT (.ifCond .ge o) o) (hy : ¬ x < 0 → Wp l R n0 K Q h k n pcT Ls st) (hn : x < 0 → Wp l R n0 K Q h k n pcN Ls st) : Wp l R n0 K Q h k n pc Ls (.int x :: st) :=
  w_if0 ok hd (fun q => hy (by rw [if0, h_ge] at q; simpa using q)) (fun q => hn (by rw [if0, h_ge] at q; simpa using q))
theorem w_lc_ge (ok : Ok Z K code own nm maxL ret) {pcM pcN pcT : Nat} {o : Int} {x y : Int64} (hd1 : Fet code pc pcM .lcmp 1) (hd : Brn code pcM pcN pcT (.ifCond .ge o) o) (hy : ¬ x < y → Wp l R n0 K Q h k n pcT Ls st) (hn : x < y → Wp l R n0 K Q h k n pcN Ls st) : Wp l R n0 K Q h k n pc Ls (.long y :: .long x :: st) :=
  w_lcmp ok hd1 (w_if_ge ok hd (fun q => hy (fun r => q ((lw_lt x y).mpr r))) (fun q => hn ((lw_lt x y).mp q)))
theorem w_ic_gt (ok : Ok Z K code own nm maxL ret) {pcN pcT : Nat} {o : Int} {x y : Int32} (hd : Brn code pc pcN pcT (.if_icmp .gt o) o) (hy : y < x → Wp l R n0 K Q h k n pcT Ls st) (hn : ¬ y < x → Wp l R n0 K Q h k n pcN Ls st) : Wp l R n0 K Q h k n pc Ls (.int y :: .int x :: st) :=
  w_ic ok hd (fun q => hy (by rw [h_gt] at q; simpa using q)) (fun q => hn (by rw [h_gt] at q; simpa using q))
theorem w_if_gt (ok : Ok Z K code own nm maxL ret) {pcN pcT : Nat} {o : Int} {x : Int32} (hd : Brn code pc pcN pcT (.ifCond .gt o) o) (hy : 0 < x → Wp l R n0 K Q h k n pcT Ls st) (hn : ¬ 0 < x → Wp l R n0 K Q h k n pcN Ls st) : Wp l R n0 K Q h k n pc Ls (.int x :: st) :=
  w_if0 ok hd (fun q => hy (by rw [if0, h_gt] at q; simpa using q)) (fun q => hn (by rw [if0, h_gt] at q; simpa using q))
theorem w_lc_gt (ok : Ok Z K code own nm maxL ret) {pcM pcN pcT : Nat} {o : Int} {x y : Int64} (hd1 : Fet code pc pcM .lcmp 1) (hd : Brn code pcM pcN pcT (.ifCond .gt o) o) (hy : y < x → Wp l R n0 K Q h k n pcT Ls st) (hn : ¬ y < x → Wp l R n0 K Q h k n pcN Ls st) : Wp l R n0 K Q h k n pc Ls (.long y :: .long x :: st) :=
  w_lcmp ok hd1 (w_if_gt ok hd (fun q => hy ((lw_gt x y).mp q)) (fun q => hn (fun r => q ((lw_gt x y).mpr r))))
theorem w_ic_le (ok : Ok Z K code own nm maxL ret) {pcN pcT : Nat} {o : Int} {x y : Int32} (hd : Brn code pc pcN pcT (.if_icmp .le o) o) (hy : ¬ y < x → Wp l R n0 K Q h k n pcT Ls st) (hn : y < x → Wp l R n0 K Q h k n pcN Ls st) : Wp l R n0 K Q h k n pc Ls (.int y :: .int x :: st) :=
  w_ic ok hd (fun q => hy (by rw [h_le] at q; simpa using q)) (fun q => hn (by rw [h_le] at q; simpa using q))
theorem w_if_le (ok : Ok Z K code own nm maxL ret) {pcN pcT : Nat} {o : Int} {x : Int32} (hd : Brn code pc pcN pcT (.ifCond .le o) o) (hy : ¬ 0 < x → Wp l R n0 K Q h k n pcT Ls st) (hn : 0 < x → Wp l R n0 K Q h k n pcN Ls st) : Wp l R n0 K Q h k n pc Ls (.int x :: st) :=
  w_if0 ok hd (fun q => hy (by rw [if0, h_le] at q; simpa using q)) (fun q => hn (by rw [if0, h_le] at q; simpa using q))
theorem w_lc_le (ok : Ok Z K code own nm maxL ret) {pcM pcN pcT : Nat} {o : Int} {x y : Int64} (hd1 : Fet code pc pcM .lcmp 1) (hd : Brn code pcM pcN pcT (.ifCond .le o) o) (hy : ¬ y < x → Wp l R n0 K Q h k n pcT Ls st) (hn : y < x → Wp l R n0 K Q h k n pcN Ls st) : Wp l R n0 K Q h k n pc Ls (.long y :: .long x :: st) :=
  w_lcmp ok hd1 (w_if_le ok hd (fun q => hy (fun r => q ((lw_gt x y).mpr r))) (fun q => hn ((lw_gt x y).mp q)))
theorem w_ifnull_yes (ok : Ok Z K code own nm maxL ret) {pcN pcT : Nat} {o : Int} (hd : Brn code pc pcN pcT (.ifnull o) o) (hr : Wp l R n0 K Q h k n pcT Ls st) : Wp l R n0 K Q h k n pc Ls (.null :: st) := by
  obtain ⟨p, e, s, m, args, below, meth, c⟩ := K
  obtain ⟨hx, hby, hZs, howns, hnm, hml, hret, hlk⟩ := ok
  obtain ⟨hd, rfl, ho, hp⟩ := hd
  intro T locs vm0 k0 X hS hk0 hT hF
  have hZ : Z.Warmed39 (s.setVm vm0).vm := State.Warmed39.trans hZs hS.1
  have hown : (s.setVm vm0).vm.findClass own = some m.cls := (hS.1.alike.findClass _ _).trans howns
  obtain ⟨s₂, o, h1, h2⟩ := hr T locs vm0 k0 X hS hk0 hT hF
  exact ⟨s₂, o, XS.ifnullYes X.here hx rfl rfl (hb hby hd) rfl ho hp h1, h2⟩
theorem w_ifnull_no (ok : Ok Z K code own nm maxL ret) {pcN pcT : Nat} {o : Int} {b : Addr} (hd : Brn code pc pcN pcT (.ifnull o) o) (hr : Wp l R n0 K Q h k n pcN Ls st) : Wp l R n0 K Q h k n pc Ls (.ref b :: st) := by
  obtain ⟨p, e, s, m, args, below, meth, c⟩ := K
  obtain ⟨hx, hby, hZs, howns, hnm, hml, hret, hlk⟩ := ok
  obtain ⟨hd, rfl, ho, hp⟩ := hd
  intro T locs vm0 k0 X hS hk0 hT hF
  have hZ : Z.Warmed39 (s.setVm vm0).vm := State.Warmed39.trans hZs hS.1
  have hown : (s.setVm vm0).vm.findClass own = some m.cls := (hS.1.alike.findClass _ _).trans howns
  obtain ⟨s₂, o, h1, h2⟩ := hr T locs vm0 k0 X hS hk0 hT hF
  exact ⟨s₂, o, XS.ifnullNo X.here hx rfl (hb hby hd) rfl h1, h2⟩
theorem w_ifnonnull_yes (ok : Ok Z K code own nm maxL ret) {pcN pcT : Nat} {o : Int} {b : Addr} (hd : Brn code pc pcN pcT (.ifnonnull o) o) (hr : Wp l R n0 K Q h k n pcT Ls st) : Wp l R n0 K Q h k n pc Ls (.ref b :: st) := by
  obtain ⟨p, e, s, m, args, below, meth, c⟩ := K
  obtain ⟨hx, hby, hZs, howns, hnm, hml, hret, hlk⟩ := ok
  obtain ⟨hd, rfl, ho, hp⟩ := hd
  intro T locs vm0 k0 X hS hk0 hT hF
  have hZ : Z.Warmed39 (s.setVm vm0).vm := State.Warmed39.trans hZs hS.1
  have hown : (s.setVm vm0).vm.findClass own = some m.cls := (hS.1.alike.findClass _ _).trans howns
  obtain ⟨s₂, o, h1, h2⟩ := hr T locs vm0 k0 X hS hk0 hT hF
  exact ⟨s₂, o, XS.ifnonnullYes X.here hx rfl rfl (hb hby hd) rfl ho hp h1, h2⟩
theorem w_ifnonnull_no (ok : Ok Z K code own nm maxL ret) {pcN pcT : Nat} {o : Int} (hd : Brn code pc pcN pcT (.ifnonnull o) o) (hr : Wp l R n0 K Q h k n pcN Ls st) : Wp l R n0 K Q h k n pc Ls (.null :: st) := by
  obtain ⟨p, e, s, m, args, below, meth, c⟩ := K
  obtain ⟨hx, hby, hZs, howns, hnm, hml, hret, hlk⟩ := ok
  obtain ⟨hd, rfl, ho, hp⟩ := hd
  intro T locs vm0 k0 X hS hk0 hT hF
  have hZ : Z.Warmed39 (s.setVm vm0).vm := State.Warmed39.trans hZs hS.1
  have hown : (s.setVm vm0).vm.findClass own = some m.cls := (hS.1.alike.findClass _ _).trans howns
  obtain ⟨s₂, o, h1, h2⟩ := hr T locs vm0 k0 X hS hk0 hT hF
  exact ⟨s₂, o, XS.ifnonnullNo X.here hx rfl (hb hby hd) rfl h1, h2⟩
theorem w_acmp_eq (ok : Ok Z K code own nm maxL ret) {pcN pcT : Nat} {o : Int} {x y : Value} (hd : Brn code pc pcN pcT (.if_acmp .eq o) o) (hx' : x.isRef = true) (hy' : y.isRef = true) (hy : x = y → Wp l R n0 K Q h k n pcT Ls st) (hn : ¬ x = y → Wp l R n0 K Q h k n pcN Ls st) : Wp l R n0 K Q h k n pc Ls (y :: x :: st) := by
  obtain ⟨p, e, s, m, args, below, meth, c⟩ := K
  obtain ⟨hx, hby, hZs, howns, hnm, hml, hret, hlk⟩ := ok
  obtain ⟨hd, rfl, ho, hp⟩ := hd
  intro T locs vm0 k0 X hS hk0 hT hF
  have hZ : Z.Warmed39 (s.setVm vm0).vm := State.Warmed39.trans hZs hS.1
  have hown : (s.setVm vm0).vm.findClass own = some m.cls := (hS.1.alike.findClass _ _).trans howns
  by_cases q : x = y
  · obtain ⟨s₂, o, h1, h2⟩ := hy q T locs vm0 k0 X hS hk0 hT hF
    exact ⟨s₂, o, Jvm.RoadKit.acmp X hx rfl hx' hy' rfl (hb hby hd) rfl (decide_eq_true q) ho (by simp [acV, hp]) h1, h2⟩
  · obtain ⟨s₂, o, h1, h2⟩ := hn q T locs vm0 k0 X hS hk0 hT hF
    exact ⟨s₂, o, Jvm.RoadKit.acmp X hx rfl hx' hy' rfl (hb hby hd) rfl (decide_eq_false q) ho (by simp [acV, hp]) h1, h2⟩
theorem w_acmp_ne (ok : Ok Z K code own nm maxL ret) {pcN pcT : Nat} {o : Int} {x y : Value} (hd : Brn code pc pcN pcT (.if_acmp .ne o) o) (hx' : x.isRef = true) (hy' : y.isRef = true) (hy : ¬ x = y → Wp l R n0 K Q h k n pcT Ls st) (hn : x = y → Wp l R n0 K Q h k n pcN Ls st) : Wp l R n0 K Q h k n pc Ls (y :: x :: st) := by
  obtain ⟨p, e, s, m, args, below, meth, c⟩ := K
  obtain ⟨hx, hby, hZs, howns, hnm, hml, hret, hlk⟩ := ok
  obtain ⟨hd, rfl, ho, hp⟩ := hd
  intro T locs vm0 k0 X hS hk0 hT hF
  have hZ : Z.Warmed39 (s.setVm vm0).vm := State.Warmed39.trans hZs hS.1
  have hown : (s.setVm vm0).vm.findClass own = some m.cls := (hS.1.alike.findClass _ _).trans howns
  by_cases q : x = y
  · obtain ⟨s₂, o, h1, h2⟩ := hn q T locs vm0 k0 X hS hk0 hT hF
    exact ⟨s₂, o, Jvm.RoadKit.acmp X hx rfl hx' hy' rfl (hb hby hd) rfl (decide_eq_true q) ho (by simp [acV, hp]) h1, h2⟩
  · obtain ⟨s₂, o, h1, h2⟩ := hy q T locs vm0 k0 X hS hk0 hT hF
    exact ⟨s₂, o, Jvm.RoadKit.acmp X hx rfl hx' hy' rfl (hb hby hd) rfl (decide_eq_false q) ho (by simp [acV, hp]) h1, h2⟩
theorem w_return (ok : Ok Z K code own nm maxL none) (hd : Fet code pc pc' .return_ 1) (hk : k ≤ R.cells) (hn : n ≤ R.slots) (hQ : Q none h) : Wp l R n0 K Q h k n pc Ls [] := by
  obtain ⟨p, e, s, m, args, below, meth, c⟩ := K
  obtain ⟨hx, hby, hZs, howns, hnm, hml, hret, hlk⟩ := ok
  obtain ⟨hd, -⟩ := hd
  intro T locs vm0 k0 X hS hk0 hT hF
  have hZ : Z.Warmed39 (s.setVm vm0).vm := State.Warmed39.trans hZs hS.1
  have hown : (s.setVm vm0).vm.findClass own = some m.cls := (hS.1.alike.findClass _ _).trans howns
  obtain ⟨fs, hr, hrun, hended, hW, hsame⟩ := X.leave (v := none) (fun _ => rfl) hlk
  refine ⟨_, _, X.returnOut hx hret (hb hby hd) hr, hrun, hended, _, locs, rfl, ⟨?_, hF⟩, ⟨_, rfl⟩, State.Warmed39.trans hS.1 hW.wide, (hS.trans (hW.since T.heap.size) (by rw [hT]; exact hk0)).2, (hsame.mono hk hn).setVm s.vm⟩
  show Q _ T.heap
  rw [hT]; exact hQ
theorem w_ireturnN {t : FieldType} (ok : Ok Z K code own nm maxL (some t)) {x : Int32} (ht : t = .boolean ∨ t = .byte ∨ t = .char ∨ t = .short) (hd : Fet code pc pc' .ireturn 1) (hk : k ≤ R.cells) (hn : n ≤ R.slots) (hQ : Q (some (.int (nar t x))) h) : Wp l R n0 K Q h k n pc Ls (.int x :: st) := by
  obtain ⟨p, e, s, m, args, below, meth, c⟩ := K
  obtain ⟨hx, hby, hZs, howns, hnm, hml, hret, hlk⟩ := ok
  obtain ⟨hd, -⟩ := hd
  intro T locs vm0 k0 X hS hk0 hT hF
  have hZ : Z.Warmed39 (s.setVm vm0).vm := State.Warmed39.trans hZs hS.1
  have hown : (s.setVm vm0).vm.findClass own = some m.cls := (hS.1.alike.findClass _ _).trans howns
  obtain ⟨fs, hr, hrun, hended, hW, hsame⟩ := X.leave (v := some (.int (nar t x))) (fun q => by rw [hret] at q; cases q) hlk
  refine ⟨_, _, retN X hx hret ht (hb hby hd) hr, hrun, hended, _, locs, rfl, ⟨?_, hF⟩, ⟨_, rfl⟩, State.Warmed39.trans hS.1 hW.wide, (hS.trans (hW.since T.heap.size) (by rw [hT]; exact hk0)).2, (hsame.mono hk hn).setVm s.vm⟩
  show Q _ T.heap
  rw [hT]; exact hQ
theorem w_ireturnI (ok : Ok Z K code own nm maxL (some .int)) {x : Int32} (hd : Fet code pc pc' .ireturn 1) (hk : k ≤ R.cells) (hn : n ≤ R.slots) (hQ : Q (some (.int x)) h) : Wp l R n0 K Q h k n pc Ls (.int x :: st) := by
  obtain ⟨p, e, s, m, args, below, meth, c⟩ := K
  obtain ⟨hx, hby, hZs, howns, hnm, hml, hret, hlk⟩ := ok
  obtain ⟨hd, -⟩ := hd
  intro T locs vm0 k0 X hS hk0 hT hF
  have hZ : Z.Warmed39 (s.setVm vm0).vm := State.Warmed39.trans hZs hS.1
  have hown : (s.setVm vm0).vm.findClass own = some m.cls := (hS.1.alike.findClass _ _).trans howns
  obtain ⟨fs, hr, hrun, hended, hW, hsame⟩ := X.leave (v := some (.int x)) (fun q => by rw [hret] at q; cases q) hlk
  refine ⟨_, _, retOut X hx hret (by rfl) (Or.inl ⟨rfl, Or.inl rfl, _, rfl⟩) (hb hby hd) hr, hrun, hended, _, locs, rfl, ⟨?_, hF⟩, ⟨_, rfl⟩, State.Warmed39.trans hS.1 hW.wide, (hS.trans (hW.since T.heap.size) (by rw [hT]; exact hk0)).2, (hsame.mono hk hn).setVm s.vm⟩
  show Q _ T.heap
  rw [hT]; exact hQ
theorem w_lreturn (ok : Ok Z K code own nm maxL (some .long)) {x : Int64} (hd : Fet code pc pc' .lreturn 1) (hk : k ≤ R.cells) (hn : n ≤ R.slots) (hQ : Q (some (.long x)) h) : Wp l R n0 K Q h k n pc Ls (.long x :: st) := by
  obtain ⟨p, e, s, m, args, below, meth, c⟩ := K
  obtain ⟨hx, hby, hZs, howns, hnm, hml, hret, hlk⟩ := ok
  obtain ⟨hd, -⟩ := hd
  intro T locs vm0 k0 X hS hk0 hT hF
  have hZ : Z.Warmed39 (s.setVm vm0).vm := State.Warmed39.trans hZs hS.1
  have hown : (s.setVm vm0).vm.findClass own = some m.cls := (hS.1.alike.findClass _ _).trans howns
  obtain ⟨fs, hr, hrun, hended, hW, hsame⟩ := X.leave (v := some (.long x)) (fun q => by rw [hret] at q; cases q) hlk
  refine ⟨_, _, retOut X hx hret (by rfl) (Or.inr (Or.inl ⟨rfl, rfl, _, rfl⟩)) (hb hby hd) hr, hrun, hended, _, locs, rfl, ⟨?_, hF⟩, ⟨_, rfl⟩, State.Warmed39.trans hS.1 hW.wide, (hS.trans (hW.since T.heap.size) (by rw [hT]; exact hk0)).2, (hsame.mono hk hn).setVm s.vm⟩
  show Q _ T.heap
  rw [hT]; exact hQ
theorem w_areturn {t : FieldType} (ok : Ok Z K code own nm maxL (some t)) {x : Value} (ht : t.isReference = true) (hv : x.isRef = true) (hnar : narrow t x = x) (hd : Fet code pc pc' .areturn 1) (hk : k ≤ R.cells) (hn : n ≤ R.slots) (hQ : Q (some x) h) : Wp l R n0 K Q h k n pc Ls (x :: st) := by
  obtain ⟨p, e, s, m, args, below, meth, c⟩ := K
  obtain ⟨hx, hby, hZs, howns, hnm, hml, hret, hlk⟩ := ok
  obtain ⟨hd, -⟩ := hd
  intro T locs vm0 k0 X hS hk0 hT hF
  have hZ : Z.Warmed39 (s.setVm vm0).vm := State.Warmed39.trans hZs hS.1
  have hown : (s.setVm vm0).vm.findClass own = some m.cls := (hS.1.alike.findClass _ _).trans howns
  obtain ⟨fs, hr, hrun, hended, hW, hsame⟩ := X.leave (v := some x) (fun q => by rw [hret] at q; cases q) hlk
  refine ⟨_, _, retOut X hx hret hnar (Or.inr (Or.inr (Or.inr (Or.inr ⟨rfl, ht, hv⟩)))) (hb hby hd) hr, hrun, hended, _, locs, rfl, ⟨?_, hF⟩, ⟨_, rfl⟩, State.Warmed39.trans hS.1 hW.wide, (hS.trans (hW.since T.heap.size) (by rw [hT]; exact hk0)).2, (hsame.mono hk hn).setVm s.vm⟩
  show Q _ T.heap
  rw [hT]; exact hQ
theorem w_getfield (ok : Ok Z K code own nm maxL ret) {R0 O f d host : String} {i : Nat} {a : Addr} {x : Value} (w : (Cond.fieldLink own i R0 f d).before a0 Z = true ∨ (Cond.fieldLinkNest own i R0 f d host).before a0 Z = true) (via : Via Z R0 O f d) (F : Fld Z h a O f d x) (hd : Fet code pc pc' (.getfield i) 3) (hr : Wp l R n0 K Q h k n pc' Ls (x :: st)) : Wp l R n0 K Q h k n pc Ls (.ref a :: st) := by
  obtain ⟨p, e, s, m, args, below, meth, c⟩ := K
  obtain ⟨hx, hby, hZs, howns, hnm, hml, hret, hlk⟩ := ok
  obtain ⟨hd, rfl⟩ := hd
  intro T locs vm0 k0 X hS hk0 hT hF
  have hZ : Z.Warmed39 (s.setVm vm0).vm := State.Warmed39.trans hZs hS.1
  have hown : (s.setVm vm0).vm.findClass own = some m.cls := (hS.1.alike.findClass _ _).trans howns
  obtain ⟨T', X', e', stp⟩ := getF X hx hZ hown w via hT F (g := mkF m pc Ls (.ref a :: st)) rfl rfl (hb hby hd)
  obtain ⟨s₂, o, h1, h2⟩ := hr T' locs vm0 k0 X' hS hk0 e' hF
  exact ⟨s₂, o, stp _ h1, h2⟩
theorem w_getstatic (ok : Ok Z K code own nm maxL ret) {R0 O f d : String} {i : Nat} {x : Value} (w : (Cond.fieldLink own i R0 f d).before a0 Z = true) (via : Via Z R0 O f d) (F : Sta Z h O f d x) (hd : Fet code pc pc' (.getstatic i) 3) (hr : Wp l R n0 K Q h k n pc' Ls (x :: st)) : Wp l R n0 K Q h k n pc Ls st := by
  obtain ⟨p, e, s, m, args, below, meth, c⟩ := K
  obtain ⟨hx, hby, hZs, howns, hnm, hml, hret, hlk⟩ := ok
  obtain ⟨hd, rfl⟩ := hd
  intro T locs vm0 k0 X hS hk0 hT hF
  have hZ : Z.Warmed39 (s.setVm vm0).vm := State.Warmed39.trans hZs hS.1
  have hown : (s.setVm vm0).vm.findClass own = some m.cls := (hS.1.alike.findClass _ _).trans howns
  obtain ⟨T', X', e', stp⟩ := getS (host := "") X hx hZ hown w via hT F (g := mkF m pc Ls st) rfl (hb hby hd)
  obtain ⟨s₂, o, h1, h2⟩ := hr T' locs vm0 k0 X' hS hk0 e' hF
  exact ⟨s₂, o, stp _ h1, h2⟩
theorem w_putfield (ok : Ok Z K code own nm maxL ret) {R0 O f d host C : String} {i kk : Nat} {ty : FieldType} {a : Addr} {x old : Value} (w : (Cond.fieldLink own i R0 f d).before a0 Z = true ∨ (Cond.fieldLinkNest own i R0 f d host).before a0 Z = true) (via : Via Z R0 O f d) (F : Fld Z h a O f d old) (E : Exa Z h a C)
    (L : (Cond.lays C O f d).before a0 Z = true ∨ ((Cond.laysFinal C O f d).before a0 Z = true ∧ own = O ∧ nm = "<init>")) (wi : (Cond.instantiable C kk).before a0 Z = true) (hty : parseFieldDescriptor d = some ty) (hna : narrow ty x = x) (hfi : fits ty x = true) (ha : n0 ≤ a) (hd : Fet code pc pc' (.putfield i) 3)
    (hr : ∀ h', Wr h h' a (Jvm.RoadKit.slotOf Z O f d) x → Wp l R n0 K Q h' k n pc' Ls st) : Wp l R n0 K Q h k n pc Ls (x :: .ref a :: st) := by
  obtain ⟨p, e, s, m, args, below, meth, c⟩ := K
  obtain ⟨hx, hby, hZs, howns, hnm, hml, hret, hlk⟩ := ok
  obtain ⟨hd, rfl⟩ := hd
  intro T locs vm0 k0 X hS hk0 hT hF
  have hZ : Z.Warmed39 (s.setVm vm0).vm := State.Warmed39.trans hZs hS.1
  have hown : (s.setVm vm0).vm.findClass own = some m.cls := (hS.1.alike.findClass _ _).trans howns
  obtain ⟨T', h', X', e', W', stp⟩ := putF X hx hZ hown w via hT F E (L.imp id fun q => ⟨q.1, q.2.1, hnm.trans q.2.2⟩) wi hty hna hfi (g := mkF m pc Ls (x :: .ref a :: st)) rfl rfl (hb hby hd)
  obtain ⟨s₂, o, h1, h2⟩ := hr h' W' T' _ vm0 k0 X' hS (Nat.le_trans hk0 (Keep.of_wr W').1) e' (Fr.snoc X' hF ha)
  exact ⟨s₂, o, stp _ h1, h2⟩
theorem w_putfieldN (ok : Ok Z K code own nm maxL ret) {R0 O f d C : String} {i kk : Nat} {ty : FieldType} {a : Addr} {x x' old : Value} (w : (Cond.fieldLink own i R0 f d).before a0 Z = true) (via : Via Z R0 O f d) (F : Fld Z h a O f d old) (E : Exa Z h a C)
    (L : (Cond.lays C O f d).before a0 Z = true ∨ ((Cond.laysFinal C O f d).before a0 Z = true ∧ own = O ∧ nm = "<init>")) (wi : (Cond.instantiable C kk).before a0 Z = true) (hty : parseFieldDescriptor d = some ty) (hna : narrow ty x = x') (hfi : fits ty x' = true) (ha : n0 ≤ a) (hd : Fet code pc pc' (.putfield i) 3)
    (hr : ∀ h', Wr h h' a (Jvm.RoadKit.slotOf Z O f d) x' → Wp l R n0 K Q h' k n pc' Ls st) : Wp l R n0 K Q h k n pc Ls (x :: .ref a :: st) := by
  obtain ⟨p, e, s, m, args, below, meth, c⟩ := K
  obtain ⟨hx, hby, hZs, howns, hnm, hml, hret, hlk⟩ := ok
  obtain ⟨hd, rfl⟩ := hd
  intro T locs vm0 k0 X hS hk0 hT hF
  have hZ : Z.Warmed39 (s.setVm vm0).vm := State.Warmed39.trans hZs hS.1
  have hown : (s.setVm vm0).vm.findClass own = some m.cls := (hS.1.alike.findClass _ _).trans howns
  obtain ⟨T', h', X', e', W', stp⟩ := putFN X hx hZ hown w via hT F E (L.imp id fun q => ⟨q.1, q.2.1, hnm.trans q.2.2⟩) wi hty hna hfi (g := mkF m pc Ls (x :: .ref a :: st)) rfl rfl (hb hby hd)
  obtain ⟨s₂, o, h1, h2⟩ := hr h' W' T' _ vm0 k0 X' hS (Nat.le_trans hk0 (Keep.of_wr W').1) e' (Fr.snoc X' hF ha)
  exact ⟨s₂, o, stp _ h1, h2⟩
theorem w_new (ok : Ok Z K code own nm maxL ret) {C : String} {i nn : Nat} (w : (Cond.classLink own i C).before a0 Z = true) (wi : (Cond.instantiable C nn).before a0 Z = true) (wz : (Cond.initialized C).before a0 Z = true) (hd : Fet code pc pc' (.new i) 3) (ek : k + 1 = k') (en : n + nn = n') (hc : k' ≤ R.cells) (hl : n' ≤ R.slots)
    (hr : ∀ h' b, b = h.size → Ext h h' → Exa Z h' b C → (∀ {O f d : String} {ty : FieldType}, Laid Z a0 C O f d → parseFieldDescriptor d = some ty → Fld Z h' b O f d (defaultValue ty)) → Wp l R n0 K Q h' k' n' pc' Ls (.ref b :: st)) : Wp l R n0 K Q h k n pc Ls st := by
  obtain ⟨p, e, s, m, args, below, meth, c⟩ := K
  obtain ⟨hx, hby, hZs, howns, hnm, hml, hret, hlk⟩ := ok
  obtain ⟨hd, rfl⟩ := hd
  intro T locs vm0 k0 X hS hk0 hT hF
  have hZ : Z.Warmed39 (s.setVm vm0).vm := State.Warmed39.trans hZs hS.1
  have hown : (s.setVm vm0).vm.findClass own = some m.cls := (hS.1.alike.findClass _ _).trans howns
  subst ek en
  obtain ⟨T', h', X', e', E', A', D', -, stp⟩ := newO X hx hZ hown w wi wz hT (g := mkF m pc Ls st) rfl (hb hby hd) hc hl
  obtain ⟨s₂, o, h1, h2⟩ := hr h' _ rfl E' A' D' T' _ vm0 k0 X' hS (Nat.le_trans hk0 E'.1) e' hF
  exact ⟨s₂, o, stp _ h1, h2⟩
theorem w_newarray (ok : Ok Z K code own nm maxL ret) {aty : ArrayType} {z : Int32} {cap : Nat} (w : (Cond.arrayClass (newarray.typeOf aty)).before a0 Z = true) (hd : Fet code pc pc' (.newarray aty) 2) (hz : ¬ z < 0) (hcap : z.toNatClampNeg ≤ cap) (hb8 : cap * 8 ≤ 536870912) (ek : k + 1 = k') (en : n + cap = n') (hc : k' ≤ R.cells) (hl : n' ≤ R.slots)
    (hr : ∀ h' b cA, b = h.size → Ext h h' → Arr Z h' b (newA cA (newarray.typeOf aty) z) (newarray.typeOf aty) → Wp l R n0 K Q h' k' n' pc' Ls (.ref b :: st)) : Wp l R n0 K Q h k n pc Ls (.int z :: st) := by
  obtain ⟨p, e, s, m, args, below, meth, c⟩ := K
  obtain ⟨hx, hby, hZs, howns, hnm, hml, hret, hlk⟩ := ok
  obtain ⟨hd, rfl⟩ := hd
  intro T locs vm0 k0 X hS hk0 hT hF
  have hZ : Z.Warmed39 (s.setVm vm0).vm := State.Warmed39.trans hZs hS.1
  have hown : (s.setVm vm0).vm.findClass own = some m.cls := (hS.1.alike.findClass _ _).trans howns
  subst ek en
  obtain ⟨T', h', cA, X', e', E', A', stp⟩ := newP X hx hZ w hT (g := mkF m pc Ls (.int z :: st)) rfl (hb hby hd) rfl hz hcap hb8 hc hl
  obtain ⟨s₂, o, h1, h2⟩ := hr h' _ cA rfl E' A' T' _ vm0 k0 X' hS (Nat.le_trans hk0 E'.1) e' hF
  exact ⟨s₂, o, stp _ h1, h2⟩
theorem w_initO (ok : Ok Z K code own nm maxL ret) {i : Nat} {a : Addr} (w1 : (Cond.methodLink own i Lib.objectInit).before a0 Z = true) (w2 : (Cond.instanceMethod Lib.objectInit).before a0 Z = true) (w3 : (Cond.code Lib.objectInit ⟨#[0xb1]⟩ 1 none).before a0 Z = true) (hd : Fet code pc pc' (.invokespecial i) 3)
    (hsz : Ls.size = maxL) (hf : 1 ≤ R.frames) (hl : (st.map fun v => v.category).sum + 12 ≤ R.locals) (hr : Wp l R n0 K Q h k n pc' Ls st) : Wp l R n0 K Q h k n pc Ls (.ref a :: st) := by
  obtain ⟨p, e, s, m, args, below, meth, c⟩ := K
  obtain ⟨hx, hby, hZs, howns, hnm, hml, hret, hlk⟩ := ok
  obtain ⟨hd, rfl⟩ := hd
  intro T locs vm0 k0 X hS hk0 hT hF
  have hZ : Z.Warmed39 (s.setVm vm0).vm := State.Warmed39.trans hZs hS.1
  have hown : (s.setVm vm0).vm.findClass own = some m.cls := (hS.1.alike.findClass _ _).trans howns
  obtain ⟨T', X', e', stp⟩ := initO X hx hZ hown w1 w2 w3 hT (g := mkF m pc Ls (.ref a :: st)) rfl (hsz.trans hml.symm) rfl (hb hby hd) hf (W := (st.map fun v => v.category).sum) (by show 2 * 0 + _ ≤ _; omega) hl
  obtain ⟨s₂, o, h1, h2⟩ := hr T' locs vm0 k0 X' hS hk0 e' hF
  exact ⟨s₂, o, stp _ h1, h2⟩
theorem w_iastore (ok : Ok Z K code own nm maxL ret) {a : Addr} {cl : Cell} {j : Int32} {x : Int32} (A : Arr Z h a cl .int) (hj : ¬ (j < 0 ∨ cl.slots.size ≤ j.toNatClampNeg)) (ha : n0 ≤ a) (hd : Fet code pc pc' .iastore 1)
    (hr : ∀ h', Wr h h' a j.toNatClampNeg (.int x) → Wp l R n0 K Q h' k n pc' Ls st) : Wp l R n0 K Q h k n pc Ls ((.int x) :: .int j :: .ref a :: st) := by
  obtain ⟨p, e, s, m, args, below, meth, c⟩ := K
  obtain ⟨hx, hby, hZs, howns, hnm, hml, hret, hlk⟩ := ok
  obtain ⟨hd, rfl⟩ := hd
  intro T locs vm0 k0 X hS hk0 hT hF
  have hZ : Z.Warmed39 (s.setVm vm0).vm := State.Warmed39.trans hZs hS.1
  have hown : (s.setVm vm0).vm.findClass own = some m.cls := (hS.1.alike.findClass _ _).trans howns
  obtain ⟨T', h', X', e', W', stp⟩ := stI X hx hZ hT A hj (g := mkF m pc Ls ((.int x) :: .int j :: .ref a :: st)) rfl rfl (hb hby hd)
  obtain ⟨s₂, o, h1, h2⟩ := hr h' W' T' _ vm0 k0 X' hS (Nat.le_trans hk0 (Keep.of_wr W').1) e' (Fr.snoc X' hF ha)
  exact ⟨s₂, o, stp _ h1, h2⟩
theorem w_lastore (ok : Ok Z K code own nm maxL ret) {a : Addr} {cl : Cell} {j : Int32} {x : Int64} (A : Arr Z h a cl .long) (hj : ¬ (j < 0 ∨ cl.slots.size ≤ j.toNatClampNeg)) (ha : n0 ≤ a) (hd : Fet code pc pc' .lastore 1)
    (hr : ∀ h', Wr h h' a j.toNatClampNeg (.long x) → Wp l R n0 K Q h' k n pc' Ls st) : Wp l R n0 K Q h k n pc Ls ((.long x) :: .int j :: .ref a :: st) := by
  obtain ⟨p, e, s, m, args, below, meth, c⟩ := K
  obtain ⟨hx, hby, hZs, howns, hnm, hml, hret, hlk⟩ := ok
  obtain ⟨hd, rfl⟩ := hd
  intro T locs vm0 k0 X hS hk0 hT hF
  have hZ : Z.Warmed39 (s.setVm vm0).vm := State.Warmed39.trans hZs hS.1
  have hown : (s.setVm vm0).vm.findClass own = some m.cls := (hS.1.alike.findClass _ _).trans howns
  obtain ⟨T', h', X', e', W', stp⟩ := stJ X hx hZ hT A hj (g := mkF m pc Ls ((.long x) :: .int j :: .ref a :: st)) rfl rfl (hb hby hd)
  obtain ⟨s₂, o, h1, h2⟩ := hr h' W' T' _ vm0 k0 X' hS (Nat.le_trans hk0 (Keep.of_wr W').1) e' (Fr.snoc X' hF ha)
  exact ⟨s₂, o, stp _ h1, h2⟩
theorem w_castore (ok : Ok Z K code own nm maxL ret) {a : Addr} {cl : Cell} {j : Int32} {x : Int32} (A : Arr Z h a cl .char) (hj : ¬ (j < 0 ∨ cl.slots.size ≤ j.toNatClampNeg)) (ha : n0 ≤ a) (hd : Fet code pc pc' .castore 1)
    (hr : ∀ h', Wr h h' a j.toNatClampNeg (.int (nar .char x)) → Wp l R n0 K Q h' k n pc' Ls st) : Wp l R n0 K Q h k n pc Ls ((.int x) :: .int j :: .ref a :: st) := by
  obtain ⟨p, e, s, m, args, below, meth, c⟩ := K
  obtain ⟨hx, hby, hZs, howns, hnm, hml, hret, hlk⟩ := ok
  obtain ⟨hd, rfl⟩ := hd
  intro T locs vm0 k0 X hS hk0 hT hF
  have hZ : Z.Warmed39 (s.setVm vm0).vm := State.Warmed39.trans hZs hS.1
  have hown : (s.setVm vm0).vm.findClass own = some m.cls := (hS.1.alike.findClass _ _).trans howns
  obtain ⟨T', h', X', e', W', stp⟩ := stC X hx hZ hT A hj (g := mkF m pc Ls ((.int x) :: .int j :: .ref a :: st)) rfl rfl (hb hby hd)
  obtain ⟨s₂, o, h1, h2⟩ := hr h' W' T' _ vm0 k0 X' hS (Nat.le_trans hk0 (Keep.of_wr W').1) e' (Fr.snoc X' hF ha)
  exact ⟨s₂, o, stp _ h1, h2⟩
theorem w_bastoreB (ok : Ok Z K code own nm maxL ret) {a : Addr} {cl : Cell} {j : Int32} {x : Int32} (A : Arr Z h a cl .byte) (hj : ¬ (j < 0 ∨ cl.slots.size ≤ j.toNatClampNeg)) (ha : n0 ≤ a) (hd : Fet code pc pc' .bastore 1)
    (hr : ∀ h', Wr h h' a j.toNatClampNeg (.int (nar .byte x)) → Wp l R n0 K Q h' k n pc' Ls st) : Wp l R n0 K Q h k n pc Ls ((.int x) :: .int j :: .ref a :: st) := by
  obtain ⟨p, e, s, m, args, below, meth, c⟩ := K
  obtain ⟨hx, hby, hZs, howns, hnm, hml, hret, hlk⟩ := ok
  obtain ⟨hd, rfl⟩ := hd
  intro T locs vm0 k0 X hS hk0 hT hF
  have hZ : Z.Warmed39 (s.setVm vm0).vm := State.Warmed39.trans hZs hS.1
  have hown : (s.setVm vm0).vm.findClass own = some m.cls := (hS.1.alike.findClass _ _).trans howns
  obtain ⟨T', h', X', e', W', stp⟩ := stB X hx hZ hT A hj (g := mkF m pc Ls ((.int x) :: .int j :: .ref a :: st)) rfl rfl (hb hby hd)
  obtain ⟨s₂, o, h1, h2⟩ := hr h' W' T' _ vm0 k0 X' hS (Nat.le_trans hk0 (Keep.of_wr W').1) e' (Fr.snoc X' hF ha)
  exact ⟨s₂, o, stp _ h1, h2⟩
theorem w_bastoreZ (ok : Ok Z K code own nm maxL ret) {a : Addr} {cl : Cell} {j : Int32} {x : Int32} (A : Arr Z h a cl .boolean) (hj : ¬ (j < 0 ∨ cl.slots.size ≤ j.toNatClampNeg)) (ha : n0 ≤ a) (hd : Fet code pc pc' .bastore 1)
    (hr : ∀ h', Wr h h' a j.toNatClampNeg (.int (nar .boolean x)) → Wp l R n0 K Q h' k n pc' Ls st) : Wp l R n0 K Q h k n pc Ls ((.int x) :: .int j :: .ref a :: st) := by
  obtain ⟨p, e, s, m, args, below, meth, c⟩ := K
  obtain ⟨hx, hby, hZs, howns, hnm, hml, hret, hlk⟩ := ok
  obtain ⟨hd, rfl⟩ := hd
  intro T locs vm0 k0 X hS hk0 hT hF
  have hZ : Z.Warmed39 (s.setVm vm0).vm := State.Warmed39.trans hZs hS.1
  have hown : (s.setVm vm0).vm.findClass own = some m.cls := (hS.1.alike.findClass _ _).trans howns
  obtain ⟨T', h', X', e', W', stp⟩ := stZ X hx hZ hT A hj (g := mkF m pc Ls ((.int x) :: .int j :: .ref a :: st)) rfl rfl (hb hby hd)
  obtain ⟨s₂, o, h1, h2⟩ := hr h' W' T' _ vm0 k0 X' hS (Nat.le_trans hk0 (Keep.of_wr W').1) e' (Fr.snoc X' hF ha)
  exact ⟨s₂, o, stp _ h1, h2⟩
theorem w_callSV (ok : Ok Z K code own nm maxL ret) {y : MethodName} {bytes : ByteArray} {mL i : Nat} {rt : Option FieldType} {rm : Room} {Qc : Value → Heap → Prop} {argsL : List Value}  (w1 : (Cond.methodLink own i y).before a0 Z = true) (w2 : (Cond.static y).before a0 Z = true) (wz : (Cond.initialized y.cls).before a0 Z = true) (wc : (Cond.code y bytes mL rt).before a0 Z = true) (hy : y.cls ≠ "java/lang/invoke/MethodHandle" ∧ y.cls ≠ "java/lang/invoke/VarHandle")
    (hM : ConV l Z n0 y bytes mL rt [] rm (argsL).toArray h Qc) (hd : Fet code pc pc' (.invokestatic i) 3) (hlen : ∀ sig, parseMethodDescriptor y.desc = some sig → argsL.length = sig.parameters.length) (hst : st = argsL.reverse ++ rest) (hsz : Ls.size = maxL) (hf : rm.frames + 1 ≤ R.frames) (hl : (rest.map fun v => v.category).sum + (mL + 11) + rm.locals ≤ R.locals)
    (ek : k + rm.cells = k') (en : n + rm.slots = n') (hc : k' ≤ R.cells) (hs : n' ≤ R.slots) (hr : ∀ w h', Qc w h' → Wp l R n0 K Q h' k' n' pc' Ls (w :: rest)) : Wp l R n0 K Q h k n pc Ls st := by
  obtain ⟨p, e, s, m, args, below, meth, c⟩ := K
  obtain ⟨hx, hby, hZs, howns, hnm, hml, hret, hlk⟩ := ok
  obtain ⟨hd, rfl⟩ := hd
  intro T locs vm0 k0 X hS hk0 hT hF
  have hZ : Z.Warmed39 (s.setVm vm0).vm := State.Warmed39.trans hZs hS.1
  have hown : (s.setVm vm0).vm.findClass own = some m.cls := (hS.1.alike.findClass _ _).trans howns
  subst hst ek en
  obtain ⟨v, _, ⟨T', L', k1, n1⟩, -, X', hS', hg', ⟨Lc, hQ, l1, y1, z1⟩, stp⟩ := callSS X hx (y := y) hown (mvT hZ w1) (mvT hZ w2) (mvT hZ wz) (mvT hZ wc) hy (backOfS (W := (rest.map fun v => v.category).sum) (Q := fun v h' L => (∃ w, v = some w ∧ Qc w h') ∧ Fr n0 L) (as' := (argsL).toArray) (rm := rm) (bytes := bytes) (maxL := mL) (ret := rt) (h := h) (Z := Z) hM hZ wc wz hf hl) (g := mkF m pc Ls (argsL.reverse ++ rest)) rfl (hsz.trans hml.symm) (argsL := argsL) (rest := rest) hlen rfl (by show 2 * 0 + _ ≤ _; omega) (hb hby hd) (fun _ _ => ⟨rfl, hT, hc, hs⟩)
  dsimp only [Pt.U, Pt.locs, Pt.cells, Pt.slots] at X' hS' hg' l1 y1 z1 stp hQ
  obtain ⟨X', hS', -, -⟩ := rebS hS (by rw [hT]; exact hk0) X' hS' hg' hZ hown
  subst l1 y1 z1

  obtain ⟨⟨w, rfl, hQ⟩, hFc⟩ := hQ
  obtain ⟨s₂, o, h1, h2⟩ := hr _ _ hQ T' _ T'.vm T'.heap.size X' hS' (Nat.le_refl _) rfl (Fr.app hF hFc)
  exact ⟨s₂, o, stp.trans h1, h2⟩
theorem w_callSN (ok : Ok Z K code own nm maxL ret) {y : MethodName} {bytes : ByteArray} {mL i : Nat} {rt : Option FieldType} {rm : Room} {Qc : Heap → Prop} {argsL : List Value}  (w1 : (Cond.methodLink own i y).before a0 Z = true) (w2 : (Cond.static y).before a0 Z = true) (wz : (Cond.initialized y.cls).before a0 Z = true) (wc : (Cond.code y bytes mL rt).before a0 Z = true) (hy : y.cls ≠ "java/lang/invoke/MethodHandle" ∧ y.cls ≠ "java/lang/invoke/VarHandle")
    (hM : ConN l Z n0 y bytes mL rt [] rm (argsL).toArray h Qc) (hd : Fet code pc pc' (.invokestatic i) 3) (hlen : ∀ sig, parseMethodDescriptor y.desc = some sig → argsL.length = sig.parameters.length) (hst : st = argsL.reverse ++ rest) (hsz : Ls.size = maxL) (hf : rm.frames + 1 ≤ R.frames) (hl : (rest.map fun v => v.category).sum + (mL + 11) + rm.locals ≤ R.locals)
    (ek : k + rm.cells = k') (en : n + rm.slots = n') (hc : k' ≤ R.cells) (hs : n' ≤ R.slots) (hr : ∀ h', Qc h' → Wp l R n0 K Q h' k' n' pc' Ls rest) : Wp l R n0 K Q h k n pc Ls st := by
  obtain ⟨p, e, s, m, args, below, meth, c⟩ := K
  obtain ⟨hx, hby, hZs, howns, hnm, hml, hret, hlk⟩ := ok
  obtain ⟨hd, rfl⟩ := hd
  intro T locs vm0 k0 X hS hk0 hT hF
  have hZ : Z.Warmed39 (s.setVm vm0).vm := State.Warmed39.trans hZs hS.1
  have hown : (s.setVm vm0).vm.findClass own = some m.cls := (hS.1.alike.findClass _ _).trans howns
  subst hst ek en
  obtain ⟨v, _, ⟨T', L', k1, n1⟩, -, X', hS', hg', ⟨Lc, hQ, l1, y1, z1⟩, stp⟩ := callSS X hx (y := y) hown (mvT hZ w1) (mvT hZ w2) (mvT hZ wz) (mvT hZ wc) hy (backOfS (W := (rest.map fun v => v.category).sum) (Q := fun v h' L => (v = none ∧ Qc h') ∧ Fr n0 L) (as' := (argsL).toArray) (rm := rm) (bytes := bytes) (maxL := mL) (ret := rt) (h := h) (Z := Z) hM hZ wc wz hf hl) (g := mkF m pc Ls (argsL.reverse ++ rest)) rfl (hsz.trans hml.symm) (argsL := argsL) (rest := rest) hlen rfl (by show 2 * 0 + _ ≤ _; omega) (hb hby hd) (fun _ _ => ⟨rfl, hT, hc, hs⟩)
  dsimp only [Pt.U, Pt.locs, Pt.cells, Pt.slots] at X' hS' hg' l1 y1 z1 stp hQ
  obtain ⟨X', hS', -, -⟩ := rebS hS (by rw [hT]; exact hk0) X' hS' hg' hZ hown
  subst l1 y1 z1

  obtain ⟨⟨rfl, hQ⟩, hFc⟩ := hQ
  obtain ⟨s₂, o, h1, h2⟩ := hr _ hQ T' _ T'.vm T'.heap.size X' hS' (Nat.le_refl _) rfl (Fr.app hF hFc)
  exact ⟨s₂, o, stp.trans h1, h2⟩
theorem w_init (ok : Ok Z K code own nm maxL ret) {y : MethodName} {bytes : ByteArray} {mL i : Nat} {rt : Option FieldType} {rm : Room} {Qc : Heap → Prop} {argsL : List Value} {a : Addr} (hy1 : y.name = "<init>") (hrt : rt = none) (w1 : (Cond.methodLink own i y).before a0 Z = true) (w2 : (Cond.instanceMethod y).before a0 Z = true) (wz : (Cond.initialized y.cls).before a0 Z = true) (wc : (Cond.code y bytes mL rt).before a0 Z = true) (hy : y.cls ≠ "java/lang/invoke/MethodHandle" ∧ y.cls ≠ "java/lang/invoke/VarHandle")
    (hM : ConN l Z n0 y bytes mL rt [] rm (.ref a :: argsL).toArray h Qc) (hd : Fet code pc pc' (.invokespecial i) 3) (hlen : ∀ sig, parseMethodDescriptor y.desc = some sig → argsL.length = sig.parameters.length) (hst : st = argsL.reverse ++ .ref a :: rest) (hsz : Ls.size = maxL) (hf : rm.frames + 1 ≤ R.frames) (hl : (rest.map fun v => v.category).sum + (mL + 11) + rm.locals ≤ R.locals)
    (ek : k + rm.cells = k') (en : n + rm.slots = n') (hc : k' ≤ R.cells) (hs : n' ≤ R.slots) (hr : ∀ h', Qc h' → Wp l R n0 K Q h' k' n' pc' Ls rest) : Wp l R n0 K Q h k n pc Ls st := by
  obtain ⟨p, e, s, m, args, below, meth, c⟩ := K
  obtain ⟨hx, hby, hZs, howns, hnm, hml, hret, hlk⟩ := ok
  obtain ⟨hd, rfl⟩ := hd
  intro T locs vm0 k0 X hS hk0 hT hF
  have hZ : Z.Warmed39 (s.setVm vm0).vm := State.Warmed39.trans hZs hS.1
  have hown : (s.setVm vm0).vm.findClass own = some m.cls := (hS.1.alike.findClass _ _).trans howns
  subst hst ek en
  subst hrt
  obtain ⟨v, _, ⟨T', L', k1, n1⟩, -, X', hS', hg', ⟨Lc, hQ, l1, y1, z1⟩, stp⟩ := X.specialBackS hx (y := y) hy1 hown (mvT hZ w1) (mvT hZ w2) (mvT hZ wc) hy (backOfS (W := (rest.map fun v => v.category).sum) (Q := fun v h' L => (v = none ∧ Qc h') ∧ Fr n0 L) (as' := (Value.ref a :: argsL).toArray) (rm := rm) (bytes := bytes) (maxL := mL) (ret := none) (h := h) (Z := Z) hM hZ wc wz hf hl) (g := mkF m pc Ls (argsL.reverse ++ .ref a :: rest)) rfl (hsz.trans hml.symm) (Steps.refl _) (a := a) (argsL := argsL) (rest := rest) hlen rfl (by show 2 * 0 + _ ≤ _; omega) (hb hby hd) (fun _ _ => ⟨rfl, hT, hc, hs⟩)
  dsimp only [Pt.U, Pt.locs, Pt.cells, Pt.slots] at X' hS' hg' l1 y1 z1 stp hQ
  obtain ⟨X', hS', -, -⟩ := rebS hS (by rw [hT]; exact hk0) X' hS' hg' hZ hown
  subst l1 y1 z1

  obtain ⟨⟨rfl, hQ⟩, hFc⟩ := hQ
  obtain ⟨s₂, o, h1, h2⟩ := hr _ hQ T' _ T'.vm T'.heap.size X' hS' (Nat.le_refl _) rfl (Fr.app hF hFc)
  exact ⟨s₂, o, stp.trans h1, h2⟩
theorem w_virtV (ok : Ok Z K code own nm maxL ret) {y : MethodName} {bytes : ByteArray} {mL i : Nat} {rt : Option FieldType} {rm : Room} {Qc : Value → Heap → Prop} {argsL : List Value} {a : Addr} {C : String} (w1 : (Cond.methodLink own i y).before a0 Z = true) (w2 : (Cond.declares y).before a0 Z = true) (w3 : (Cond.selects C y y).before a0 Z = true) (w4 : (Cond.instanceMethod y).before a0 Z = true) (wz : (Cond.initialized y.cls).before a0 Z = true) (wc : (Cond.code y bytes mL rt).before a0 Z = true) (E : Exa Z h a C) (hy : y.cls ≠ "java/lang/invoke/MethodHandle" ∧ y.cls ≠ "java/lang/invoke/VarHandle")
    (hM : ConV l Z n0 y bytes mL rt [] rm (.ref a :: argsL).toArray h Qc) (hd : Fet code pc pc' (.invokevirtual i) 3) (hlen : ∀ sig, parseMethodDescriptor y.desc = some sig → argsL.length = sig.parameters.length) (hst : st = argsL.reverse ++ .ref a :: rest) (hsz : Ls.size = maxL) (hf : rm.frames + 1 ≤ R.frames) (hl : (rest.map fun v => v.category).sum + (mL + 11) + rm.locals ≤ R.locals)
    (ek : k + rm.cells = k') (en : n + rm.slots = n') (hc : k' ≤ R.cells) (hs : n' ≤ R.slots) (hr : ∀ w h', Qc w h' → Wp l R n0 K Q h' k' n' pc' Ls (w :: rest)) : Wp l R n0 K Q h k n pc Ls st := by
  obtain ⟨p, e, s, m, args, below, meth, c⟩ := K
  obtain ⟨hx, hby, hZs, howns, hnm, hml, hret, hlk⟩ := ok
  obtain ⟨hd, rfl⟩ := hd
  intro T locs vm0 k0 X hS hk0 hT hF
  have hZ : Z.Warmed39 (s.setVm vm0).vm := State.Warmed39.trans hZs hS.1
  have hown : (s.setVm vm0).vm.findClass own = some m.cls := (hS.1.alike.findClass _ _).trans howns
  subst hst ek en
  obtain ⟨cB, kB, qa, qb, qc⟩ := isOf hZ hT E
  obtain ⟨v, _, ⟨T', L', k1, n1⟩, -, X', hS', hg', ⟨Lc, hQ, l1, y1, z1⟩, stp⟩ := X.virtualBackS hx (y := y) (z := y) hown (mvT hZ w1) (mvT hZ w2) (notFace_of_selects (args := #[]) (mvT hZ w3)) (mvT hZ w3) (mvT hZ w4) hy (backOfS (W := (rest.map fun v => v.category).sum) (Q := fun v h' L => (∃ w, v = some w ∧ Qc w h') ∧ Fr n0 L) (as' := (Value.ref a :: argsL).toArray) (rm := rm) (bytes := bytes) (maxL := mL) (ret := rt) (h := h) (Z := Z) hM hZ wc wz hf hl) qa qc (g := mkF m pc Ls (argsL.reverse ++ .ref a :: rest)) rfl (hsz.trans hml.symm) (Steps.refl _) (argsL := argsL) (rest := rest) hlen rfl (by show 2 * 0 + _ ≤ _; omega) (hb hby hd) (fun _ _ => ⟨rfl, hT, hc, hs⟩)
  dsimp only [Pt.U, Pt.locs, Pt.cells, Pt.slots] at X' hS' hg' l1 y1 z1 stp hQ
  obtain ⟨X', hS', -, -⟩ := rebS hS (by rw [hT]; exact hk0) X' hS' hg' hZ hown
  subst l1 y1 z1

  obtain ⟨⟨w, rfl, hQ⟩, hFc⟩ := hQ
  obtain ⟨s₂, o, h1, h2⟩ := hr _ _ hQ T' _ T'.vm T'.heap.size X' hS' (Nat.le_refl _) rfl (Fr.app hF hFc)
  exact ⟨s₂, o, stp.trans h1, h2⟩
theorem w_virtN (ok : Ok Z K code own nm maxL ret) {y : MethodName} {bytes : ByteArray} {mL i : Nat} {rt : Option FieldType} {rm : Room} {Qc : Heap → Prop} {argsL : List Value} {a : Addr} {C : String} (w1 : (Cond.methodLink own i y).before a0 Z = true) (w2 : (Cond.declares y).before a0 Z = true) (w3 : (Cond.selects C y y).before a0 Z = true) (w4 : (Cond.instanceMethod y).before a0 Z = true) (wz : (Cond.initialized y.cls).before a0 Z = true) (wc : (Cond.code y bytes mL rt).before a0 Z = true) (E : Exa Z h a C) (hy : y.cls ≠ "java/lang/invoke/MethodHandle" ∧ y.cls ≠ "java/lang/invoke/VarHandle")
    (hM : ConN l Z n0 y bytes mL rt [] rm (.ref a :: argsL).toArray h Qc) (hd : Fet code pc pc' (.invokevirtual i) 3) (hlen : ∀ sig, parseMethodDescriptor y.desc = some sig → argsL.length = sig.parameters.length) (hst : st = argsL.reverse ++ .ref a :: rest) (hsz : Ls.size = maxL) (hf : rm.frames + 1 ≤ R.frames) (hl : (rest.map fun v => v.category).sum + (mL + 11) + rm.locals ≤ R.locals)
    (ek : k + rm.cells = k') (en : n + rm.slots = n') (hc : k' ≤ R.cells) (hs : n' ≤ R.slots) (hr : ∀ h', Qc h' → Wp l R n0 K Q h' k' n' pc' Ls rest) : Wp l R n0 K Q h k n pc Ls st := by
  obtain ⟨p, e, s, m, args, below, meth, c⟩ := K
  obtain ⟨hx, hby, hZs, howns, hnm, hml, hret, hlk⟩ := ok
  obtain ⟨hd, rfl⟩ := hd
  intro T locs vm0 k0 X hS hk0 hT hF
  have hZ : Z.Warmed39 (s.setVm vm0).vm := State.Warmed39.trans hZs hS.1
  have hown : (s.setVm vm0).vm.findClass own = some m.cls := (hS.1.alike.findClass _ _).trans howns
  subst hst ek en
  obtain ⟨cB, kB, qa, qb, qc⟩ := isOf hZ hT E
  obtain ⟨v, _, ⟨T', L', k1, n1⟩, -, X', hS', hg', ⟨Lc, hQ, l1, y1, z1⟩, stp⟩ := X.virtualBackS hx (y := y) (z := y) hown (mvT hZ w1) (mvT hZ w2) (notFace_of_selects (args := #[]) (mvT hZ w3)) (mvT hZ w3) (mvT hZ w4) hy (backOfS (W := (rest.map fun v => v.category).sum) (Q := fun v h' L => (v = none ∧ Qc h') ∧ Fr n0 L) (as' := (Value.ref a :: argsL).toArray) (rm := rm) (bytes := bytes) (maxL := mL) (ret := rt) (h := h) (Z := Z) hM hZ wc wz hf hl) qa qc (g := mkF m pc Ls (argsL.reverse ++ .ref a :: rest)) rfl (hsz.trans hml.symm) (Steps.refl _) (argsL := argsL) (rest := rest) hlen rfl (by show 2 * 0 + _ ≤ _; omega) (hb hby hd) (fun _ _ => ⟨rfl, hT, hc, hs⟩)
  dsimp only [Pt.U, Pt.locs, Pt.cells, Pt.slots] at X' hS' hg' l1 y1 z1 stp hQ
  obtain ⟨X', hS', -, -⟩ := rebS hS (by rw [hT]; exact hk0) X' hS' hg' hZ hown
  subst l1 y1 z1

  obtain ⟨⟨rfl, hQ⟩, hFc⟩ := hQ
  obtain ⟨s₂, o, h1, h2⟩ := hr _ hQ T' _ T'.vm T'.heap.size X' hS' (Nat.le_refl _) rfl (Fr.app hF hFc)
  exact ⟨s₂, o, stp.trans h1, h2⟩
end Rules
/-- an array of this kind with these values -/
def Ary (Z : State) (h : Heap) (a : Addr) (ty : FieldType) (vs : List Value) : Prop := ∃ c : Cell, Arr Z h a c ty ∧ c.slots.toList = vs
section AryFacts
variable {Z : State} {h h' : Heap} {a b : Addr} {ty : FieldType} {vs : List Value} {v : Value} {sl i : Nat} {ws : List Addr}
theorem Ary.lt (A : Ary Z h a ty vs) : a < h.size := by obtain ⟨c, A, -⟩ := A; exact A.lt
theorem Ary.ext (A : Ary Z h a ty vs) (E : Ext h h') : Ary Z h' a ty vs := by obtain ⟨c, A, r⟩ := A; exact ⟨c, A.ext E, r⟩
theorem Ary.other (A : Ary Z h b ty vs) (W : Wr h h' a sl v) (q : b ≠ a) : Ary Z h' b ty vs := by obtain ⟨c, A, r⟩ := A; exact ⟨c, A.other W q, r⟩
theorem Ary.keep (A : Ary Z h a ty vs) (K : Keep h h' ws) (q : a ∉ ws) : Ary Z h' a ty vs := by obtain ⟨c, A, r⟩ := A; exact ⟨c, ⟨K.2.1 a c A.1 q, A.2⟩, r⟩
theorem Ary.same (A : Ary Z h a ty vs) (W : Wr h h' a i v) : Ary Z h' a ty (vs.set i v) := by
  obtain ⟨c, A, r⟩ := A
  refine ⟨_, A.same W, ?_⟩
  rw [← r]
  simp [Cell.setSlot, Array.toList_setIfInBounds]
theorem Ary.cast {vs' : List Value} (A : Ary Z h a ty vs) (e : vs = vs') : Ary Z h a ty vs' := e ▸ A
theorem ary_new {cA : ClassId} {z : Int32} (A : Arr Z h a (newA cA ty z) ty) : Ary Z h a ty (List.replicate z.toNatClampNeg (defaultValue ty)) := ⟨_, A, by simp [newA]⟩
theorem idx_ok {i n : Nat} (hi : i < n) (hn : n < 2 ^ 31) : ¬ (Int32.ofNat i < 0 ∨ n ≤ (Int32.ofNat i).toNatClampNeg) := idx_in hi hn
theorem idx_nat {i : Nat} (hi : i < 2 ^ 31) : (Int32.ofNat i).toNatClampNeg = i := by
  have q : (Int32.ofNat i).toInt = i := Int32.toInt_ofNat_of_lt (by omega)
  simp only [Int32.toNatClampNeg, q]; omega
end AryFacts
section AryRules
variable {l : Launch} {R : Room} {n0 : Nat} {K : Cx} {Q : Option Value → Heap → Prop} {h : Heap} {k n k' n' : Nat} {pc pc' : Nat} {Ls Ls' : Array Slot} {st rest : List Value} {Z : State} {code : ByteArray} {own nm : String} {maxL : Nat} {ret : Option FieldType} {a0 : Array Value}
theorem w_arraylength (ok : Ok Z K code own nm maxL ret) {a : Addr} {ty : FieldType} {vs : List Value} (A : Ary Z h a ty vs) (hd : Fet code pc pc' .arraylength 1) (hr : Wp l R n0 K Q h k n pc' Ls (.int (Int32.ofNat vs.length) :: st)) : Wp l R n0 K Q h k n pc Ls (.ref a :: st) := by
  obtain ⟨p, e, s, m, args, below, meth, c⟩ := K
  obtain ⟨hx, hby, hZs, howns, hnm, hml, hret, hlk⟩ := ok
  obtain ⟨hd, rfl⟩ := hd
  intro T locs vm0 k0 X hS hk0 hT hF
  have hZ : Z.Warmed39 (s.setVm vm0).vm := State.Warmed39.trans hZs hS.1
  have hown : (s.setVm vm0).vm.findClass own = some m.cls := (hS.1.alike.findClass _ _).trans howns
  obtain ⟨c, A, rfl⟩ := A
  obtain ⟨s₂, o, h1, h2⟩ := hr T locs vm0 k0 X hS hk0 hT hF
  exact ⟨s₂, o, X.arraylength hx (by rw [hT]; exact A.1) (State.isArrayOf_alike hZ.alike A.2.1) (g := mkF m pc Ls (.ref a :: st)) rfl rfl (hb hby hd) _ (by rw [Array.length_toList] at h1; exact h1), h2⟩
theorem w_iaload (ok : Ok Z K code own nm maxL ret) {a : Addr} {i : Nat} {v : Value} {vs : List Value} (A : Ary Z h a .int vs) (hl : vs.length < 2 ^ 31) (hv : vs[i]? = some v) (hd : Fet code pc pc' .iaload 1) (hr : Wp l R n0 K Q h k n pc' Ls (v :: st)) : Wp l R n0 K Q h k n pc Ls (.int (Int32.ofNat i) :: .ref a :: st) := by
  obtain ⟨p, e, s, m, args, below, meth, c⟩ := K
  obtain ⟨hx, hby, hZs, howns, hnm, hml, hret, hlk⟩ := ok
  obtain ⟨hd, rfl⟩ := hd
  intro T locs vm0 k0 X hS hk0 hT hF
  have hZ : Z.Warmed39 (s.setVm vm0).vm := State.Warmed39.trans hZs hS.1
  have hown : (s.setVm vm0).vm.findClass own = some m.cls := (hS.1.alike.findClass _ _).trans howns
  obtain ⟨c, A, rfl⟩ := A
  obtain ⟨s₂, o, h1, h2⟩ := hr T locs vm0 k0 X hS hk0 hT hF
  have hi : i < c.slots.toList.length := (List.getElem?_eq_some_iff.mp hv).1
  rw [Array.length_toList] at hi hl
  exact ⟨s₂, o, X.iaload hx (j := Int32.ofNat i) (v := v) (by rw [hT]; exact A.1) (State.isArrayOf_alike hZ.alike A.2.1) A.2.2 (idx_ok hi hl) (by rw [idx_nat (Nat.lt_trans hi hl), ← hv, Array.getElem?_toList]) (g := mkF m pc Ls (.int (Int32.ofNat i) :: .ref a :: st)) rfl rfl (hb hby hd) _ h1, h2⟩
theorem w_laload (ok : Ok Z K code own nm maxL ret) {a : Addr} {i : Nat} {v : Value} {vs : List Value} (A : Ary Z h a .long vs) (hl : vs.length < 2 ^ 31) (hv : vs[i]? = some v) (hd : Fet code pc pc' .laload 1) (hr : Wp l R n0 K Q h k n pc' Ls (v :: st)) : Wp l R n0 K Q h k n pc Ls (.int (Int32.ofNat i) :: .ref a :: st) := by
  obtain ⟨p, e, s, m, args, below, meth, c⟩ := K
  obtain ⟨hx, hby, hZs, howns, hnm, hml, hret, hlk⟩ := ok
  obtain ⟨hd, rfl⟩ := hd
  intro T locs vm0 k0 X hS hk0 hT hF
  have hZ : Z.Warmed39 (s.setVm vm0).vm := State.Warmed39.trans hZs hS.1
  have hown : (s.setVm vm0).vm.findClass own = some m.cls := (hS.1.alike.findClass _ _).trans howns
  obtain ⟨c, A, rfl⟩ := A
  obtain ⟨s₂, o, h1, h2⟩ := hr T locs vm0 k0 X hS hk0 hT hF
  have hi : i < c.slots.toList.length := (List.getElem?_eq_some_iff.mp hv).1
  rw [Array.length_toList] at hi hl
  exact ⟨s₂, o, X.laload hx (j := Int32.ofNat i) (v := v) (by rw [hT]; exact A.1) (State.isArrayOf_alike hZ.alike A.2.1) A.2.2 (idx_ok hi hl) (by rw [idx_nat (Nat.lt_trans hi hl), ← hv, Array.getElem?_toList]) (g := mkF m pc Ls (.int (Int32.ofNat i) :: .ref a :: st)) rfl rfl (hb hby hd) _ h1, h2⟩
theorem w_baloadB (ok : Ok Z K code own nm maxL ret) {a : Addr} {i : Nat} {v : Value} {vs : List Value} (A : Ary Z h a .byte vs) (hl : vs.length < 2 ^ 31) (hv : vs[i]? = some v) (hd : Fet code pc pc' .baload 1) (hr : Wp l R n0 K Q h k n pc' Ls (v :: st)) : Wp l R n0 K Q h k n pc Ls (.int (Int32.ofNat i) :: .ref a :: st) := by
  obtain ⟨p, e, s, m, args, below, meth, c⟩ := K
  obtain ⟨hx, hby, hZs, howns, hnm, hml, hret, hlk⟩ := ok
  obtain ⟨hd, rfl⟩ := hd
  intro T locs vm0 k0 X hS hk0 hT hF
  have hZ : Z.Warmed39 (s.setVm vm0).vm := State.Warmed39.trans hZs hS.1
  have hown : (s.setVm vm0).vm.findClass own = some m.cls := (hS.1.alike.findClass _ _).trans howns
  obtain ⟨c, A, rfl⟩ := A
  obtain ⟨s₂, o, h1, h2⟩ := hr T locs vm0 k0 X hS hk0 hT hF
  have hi : i < c.slots.toList.length := (List.getElem?_eq_some_iff.mp hv).1
  rw [Array.length_toList] at hi hl
  exact ⟨s₂, o, X.baloadBytes hx (j := Int32.ofNat i) (v := v) (by rw [hT]; exact A.1) (State.isArrayOf_alike hZ.alike A.2.1) A.2.2 (idx_ok hi hl) (by rw [idx_nat (Nat.lt_trans hi hl), ← hv, Array.getElem?_toList]) (g := mkF m pc Ls (.int (Int32.ofNat i) :: .ref a :: st)) rfl rfl (hb hby hd) _ h1, h2⟩
theorem w_baloadZ (ok : Ok Z K code own nm maxL ret) {a : Addr} {i : Nat} {v : Value} {vs : List Value} (A : Ary Z h a .boolean vs) (hl : vs.length < 2 ^ 31) (hv : vs[i]? = some v) (hd : Fet code pc pc' .baload 1) (hr : Wp l R n0 K Q h k n pc' Ls (v :: st)) : Wp l R n0 K Q h k n pc Ls (.int (Int32.ofNat i) :: .ref a :: st) := by
  obtain ⟨p, e, s, m, args, below, meth, c⟩ := K
  obtain ⟨hx, hby, hZs, howns, hnm, hml, hret, hlk⟩ := ok
  obtain ⟨hd, rfl⟩ := hd
  intro T locs vm0 k0 X hS hk0 hT hF
  have hZ : Z.Warmed39 (s.setVm vm0).vm := State.Warmed39.trans hZs hS.1
  have hown : (s.setVm vm0).vm.findClass own = some m.cls := (hS.1.alike.findClass _ _).trans howns
  obtain ⟨c, A, rfl⟩ := A
  obtain ⟨s₂, o, h1, h2⟩ := hr T locs vm0 k0 X hS hk0 hT hF
  have hi : i < c.slots.toList.length := (List.getElem?_eq_some_iff.mp hv).1
  rw [Array.length_toList] at hi hl
  exact ⟨s₂, o, X.baloadBooleans hx (j := Int32.ofNat i) (v := v) (by rw [hT]; exact A.1) (State.isArrayOf_alike hZ.alike A.2.1) A.2.2 (idx_ok hi hl) (by rw [idx_nat (Nat.lt_trans hi hl), ← hv, Array.getElem?_toList]) (g := mkF m pc Ls (.int (Int32.ofNat i) :: .ref a :: st)) rfl rfl (hb hby hd) _ h1, h2⟩
theorem w_iastore' (ok : Ok Z K code own nm maxL ret) {a : Addr} {i : Nat} {x : Int32} {vs : List Value} (A : Ary Z h a .int vs) (hl : vs.length < 2 ^ 31) (hi : i < vs.length) (ha : n0 ≤ a) (hd : Fet code pc pc' .iastore 1)
    (hr : ∀ h', Wr h h' a i (.int x) → Ary Z h' a .int (vs.set i (.int x)) → Wp l R n0 K Q h' k n pc' Ls st) : Wp l R n0 K Q h k n pc Ls ((.int x) :: .int (Int32.ofNat i) :: .ref a :: st) := by
  have A0 := A
  obtain ⟨c, A, rfl⟩ := A
  rw [Array.length_toList] at hi hl
  refine w_iastore ok A (idx_ok hi hl) ha hd (fun h' W => ?_)
  rw [idx_nat (Nat.lt_trans hi hl)] at W
  exact hr h' W (A0.same W)
theorem w_lastore' (ok : Ok Z K code own nm maxL ret) {a : Addr} {i : Nat} {x : Int64} {vs : List Value} (A : Ary Z h a .long vs) (hl : vs.length < 2 ^ 31) (hi : i < vs.length) (ha : n0 ≤ a) (hd : Fet code pc pc' .lastore 1)
    (hr : ∀ h', Wr h h' a i (.long x) → Ary Z h' a .long (vs.set i (.long x)) → Wp l R n0 K Q h' k n pc' Ls st) : Wp l R n0 K Q h k n pc Ls ((.long x) :: .int (Int32.ofNat i) :: .ref a :: st) := by
  have A0 := A
  obtain ⟨c, A, rfl⟩ := A
  rw [Array.length_toList] at hi hl
  refine w_lastore ok A (idx_ok hi hl) ha hd (fun h' W => ?_)
  rw [idx_nat (Nat.lt_trans hi hl)] at W
  exact hr h' W (A0.same W)
theorem w_bastoreB' (ok : Ok Z K code own nm maxL ret) {a : Addr} {i : Nat} {x : Int32} {vs : List Value} (A : Ary Z h a .byte vs) (hl : vs.length < 2 ^ 31) (hi : i < vs.length) (ha : n0 ≤ a) (hd : Fet code pc pc' .bastore 1)
    (hr : ∀ h', Wr h h' a i (.int (nar .byte x)) → Ary Z h' a .byte (vs.set i (.int (nar .byte x))) → Wp l R n0 K Q h' k n pc' Ls st) : Wp l R n0 K Q h k n pc Ls ((.int x) :: .int (Int32.ofNat i) :: .ref a :: st) := by
  have A0 := A
  obtain ⟨c, A, rfl⟩ := A
  rw [Array.length_toList] at hi hl
  refine w_bastoreB ok A (idx_ok hi hl) ha hd (fun h' W => ?_)
  rw [idx_nat (Nat.lt_trans hi hl)] at W
  exact hr h' W (A0.same W)
theorem w_bastoreZ' (ok : Ok Z K code own nm maxL ret) {a : Addr} {i : Nat} {x : Int32} {vs : List Value} (A : Ary Z h a .boolean vs) (hl : vs.length < 2 ^ 31) (hi : i < vs.length) (ha : n0 ≤ a) (hd : Fet code pc pc' .bastore 1)
    (hr : ∀ h', Wr h h' a i (.int (nar .boolean x)) → Ary Z h' a .boolean (vs.set i (.int (nar .boolean x))) → Wp l R n0 K Q h' k n pc' Ls st) : Wp l R n0 K Q h k n pc Ls ((.int x) :: .int (Int32.ofNat i) :: .ref a :: st) := by
  have A0 := A
  obtain ⟨c, A, rfl⟩ := A
  rw [Array.length_toList] at hi hl
  refine w_bastoreZ ok A (idx_ok hi hl) ha hd (fun h' W => ?_)
  rw [idx_nat (Nat.lt_trans hi hl)] at W
  exact hr h' W (A0.same W)
theorem w_ldcS (ok : Ok Z K code own nm maxL ret) {i nn : Nat} {text : String} (w : (Cond.stringLink own i text).before a0 Z = true) (wS : ∀ a ∈ Bundle.stringAtoms, a.before a0 Z = true) (hd : Fet code pc pc' (.ldc i) 2) (hn : 4 * text.toList.length ≤ nn) (hbig : nn ≤ 536870912) (ek : k + 2 = k') (en : n + (nn + 4) = n') (hc : k' ≤ R.cells) (hl : n' ≤ R.slots)
    (hr : ∀ h' b, Ext h h' → Wp l R n0 K Q h' k' n' pc' Ls (.ref b :: st)) : Wp l R n0 K Q h k n pc Ls st := by
  obtain ⟨p, e, s, m, args, below, meth, c⟩ := K
  obtain ⟨hx, hby, hZs, howns, hnm, hml, hret, hlk⟩ := ok
  obtain ⟨hd, rfl⟩ := hd
  intro T locs vm0 k0 X hS hk0 hT hF
  have hZ : Z.Warmed39 (s.setVm vm0).vm := State.Warmed39.trans hZs hS.1
  have hown : (s.setVm vm0).vm.findClass own = some m.cls := (hS.1.alike.findClass _ _).trans howns
  subst ek en
  obtain ⟨a, T', h', k1, X', e', E', hS', hk', -, -, stp⟩ := ldcS X hx hZ hown w wS hT hS hk0 (g := mkF m pc Ls st) rfl (hb hby hd) hn hbig hc hl
  obtain ⟨s₂, o, h1, h2⟩ := hr h' a E' T' _ T'.vm k1 X' hS' hk' e' hF
  exact ⟨s₂, o, stp _ h1, h2⟩
theorem w_newarrayE (ok : Ok Z K code own nm maxL ret) {aty : ArrayType} {z : Int32} {cap : Nat} {ad : String} (had : "[" ++ (newarray.typeOf aty).toString = ad) (w : (Cond.arrayClass (newarray.typeOf aty)).before a0 Z = true) (hd : Fet code pc pc' (.newarray aty) 2) (hz : ¬ z < 0) (hcap : z.toNatClampNeg ≤ cap) (hb8 : cap * 8 ≤ 536870912) (ek : k + 1 = k') (en : n + cap = n') (hc : k' ≤ R.cells) (hl : n' ≤ R.slots)
    (hr : ∀ h' b cA, b = h.size → Ext h h' → Arr Z h' b (newA cA (newarray.typeOf aty) z) (newarray.typeOf aty) → Exa Z h' b ad → Wp l R n0 K Q h' k' n' pc' Ls (.ref b :: st)) : Wp l R n0 K Q h k n pc Ls (.int z :: st) := by
  obtain ⟨p, e, s, m, args, below, meth, c⟩ := K
  obtain ⟨hx, hby, hZs, howns, hnm, hml, hret, hlk⟩ := ok
  obtain ⟨hd, rfl⟩ := hd
  intro T locs vm0 k0 X hS hk0 hT hF
  have hZ : Z.Warmed39 (s.setVm vm0).vm := State.Warmed39.trans hZs hS.1
  have hown : (s.setVm vm0).vm.findClass own = some m.cls := (hS.1.alike.findClass _ _).trans howns
  subst ek en
  obtain ⟨T', h', cA, X', e', E', A', G', stp⟩ := newPE X hx hZ w hT (g := mkF m pc Ls (.int z :: st)) rfl (hb hby hd) rfl hz hcap hb8 hc hl had
  obtain ⟨s₂, o, h1, h2⟩ := hr h' _ cA rfl E' A' G' T' _ vm0 k0 X' hS (Nat.le_trans hk0 E'.1) e' hF
  exact ⟨s₂, o, stp _ h1, h2⟩
theorem w_aaload (ok : Ok Z K code own nm maxL ret) {a : Addr} {cl : Cell} {j : Int32} {v : Value} {ty : FieldType} (A : Arr Z h a cl ty) (hty : ty.isReference = true) (hj : ¬ (j < 0 ∨ cl.slots.size ≤ j.toNatClampNeg)) (hv : cl.slots[j.toNatClampNeg]? = some v) (hd : Fet code pc pc' .aaload 1) (hr : Wp l R n0 K Q h k n pc' Ls (v :: st)) : Wp l R n0 K Q h k n pc Ls (.int j :: .ref a :: st) := by
  obtain ⟨p, e, s, m, args, below, meth, c⟩ := K
  obtain ⟨hx, hby, hZs, howns, hnm, hml, hret, hlk⟩ := ok
  obtain ⟨hd, rfl⟩ := hd
  intro T locs vm0 k0 X hS hk0 hT hF
  have hZ : Z.Warmed39 (s.setVm vm0).vm := State.Warmed39.trans hZs hS.1
  have hown : (s.setVm vm0).vm.findClass own = some m.cls := (hS.1.alike.findClass _ _).trans howns
  obtain ⟨s₂, o, h1, h2⟩ := hr T locs vm0 k0 X hS hk0 hT hF
  exact ⟨s₂, o, X.aaload hx (j := j) (v := v) (by rw [hT]; exact A.1) (State.isArrayOf_alike hZ.alike A.2.1) hty A.2.2 hj hv (g := mkF m pc Ls (.int j :: .ref a :: st)) rfl rfl (hb hby hd) _ h1, h2⟩
theorem w_checkcast (ok : Ok Z K code own nm maxL ret) {C : String} {i : Nat} {a : Addr} (w : (Cond.classLink own i C).before a0 Z = true) (F : Ins Z h a C true) (hd : Fet code pc pc' (.checkcast i) 3) (hr : Wp l R n0 K Q h k n pc' Ls (.ref a :: st)) : Wp l R n0 K Q h k n pc Ls (.ref a :: st) := by
  obtain ⟨p, e, s, m, args, below, meth, c⟩ := K
  obtain ⟨hx, hby, hZs, howns, hnm, hml, hret, hlk⟩ := ok
  obtain ⟨hd, rfl⟩ := hd
  intro T locs vm0 k0 X hS hk0 hT hF
  have hZ : Z.Warmed39 (s.setVm vm0).vm := State.Warmed39.trans hZs hS.1
  have hown : (s.setVm vm0).vm.findClass own = some m.cls := (hS.1.alike.findClass _ _).trans howns
  obtain ⟨T', X', e', stp⟩ := castY X hx hZ hown w hT F (g := mkF m pc Ls (.ref a :: st)) rfl rfl (hb hby hd)
  obtain ⟨s₂, o, h1, h2⟩ := hr T' locs vm0 k0 X' hS hk0 e' hF
  exact ⟨s₂, o, stp _ h1, h2⟩
theorem w_checkcastNull (ok : Ok Z K code own nm maxL ret) {i : Nat} (hd : Fet code pc pc' (.checkcast i) 3) (hr : Wp l R n0 K Q h k n pc' Ls (.null :: st)) : Wp l R n0 K Q h k n pc Ls (.null :: st) := by
  obtain ⟨p, e, s, m, args, below, meth, c⟩ := K
  obtain ⟨hx, hby, hZs, howns, hnm, hml, hret, hlk⟩ := ok
  obtain ⟨hd, rfl⟩ := hd
  intro T locs vm0 k0 X hS hk0 hT hF
  have hZ : Z.Warmed39 (s.setVm vm0).vm := State.Warmed39.trans hZs hS.1
  have hown : (s.setVm vm0).vm.findClass own = some m.cls := (hS.1.alike.findClass _ _).trans howns
  obtain ⟨s₂, o, h1, h2⟩ := hr T locs vm0 k0 X hS hk0 hT hF
  exact ⟨s₂, o, X.checkcastNull hx (g := mkF m pc Ls (.null :: st)) rfl rfl (hb hby hd) _ h1, h2⟩
theorem w_instanceof (ok : Ok Z K code own nm maxL ret) {C : String} {i : Nat} {a : Addr} (w : (Cond.classLink own i C).before a0 Z = true) (F : Ins Z h a C true) (hd : Fet code pc pc' (.instanceof i) 3) (hr : Wp l R n0 K Q h k n pc' Ls (.int 1 :: st)) : Wp l R n0 K Q h k n pc Ls (.ref a :: st) := by
  obtain ⟨p, e, s, m, args, below, meth, c⟩ := K
  obtain ⟨hx, hby, hZs, howns, hnm, hml, hret, hlk⟩ := ok
  obtain ⟨hd, rfl⟩ := hd
  intro T locs vm0 k0 X hS hk0 hT hF
  have hZ : Z.Warmed39 (s.setVm vm0).vm := State.Warmed39.trans hZs hS.1
  have hown : (s.setVm vm0).vm.findClass own = some m.cls := (hS.1.alike.findClass _ _).trans howns
  obtain ⟨T', X', e', stp⟩ := instY X hx hZ hown w hT F (g := mkF m pc Ls (.ref a :: st)) rfl rfl (hb hby hd)
  obtain ⟨s₂, o, h1, h2⟩ := hr T' locs vm0 k0 X' hS hk0 e' hF
  exact ⟨s₂, o, stp _ h1, h2⟩
theorem sta_keep0 {h' : Heap} {C f d : String} {v : Value} (F : Sta Z h C f d v) (K : Keep h h' []) : Sta Z h' C f d v := by
  obtain ⟨cf, i, k, f, st, cell, h1, h2, h3, h4, h5, r⟩ := F
  exact ⟨cf, i, k, f, st, cell, h1, h2, h3, h4, K.2.1 _ _ h5 (fun q => nomatch q), r⟩

end AryRules
end Jvm.WpW
namespace Jvm.Pilot.@@N@@
open Jvm Jvm.ClassFile Sem Op Lib Jvm.Free Jvm.Stand Jvm.LawKit Jvm.RoadKit Jvm.WpW Bundle Jvm.Pilot.@@N@@.Jvm.D
theorem own_strs (Z : State) (a0 : Array Value) (hw : ∀ d ∈ tables_1, d.before a0 Z = true) : ∀ a ∈ Bundle.stringAtoms, a.before a0 Z = true := by
  intro a ha
  simp only [Bundle.stringAtoms, List.mem_cons, List.not_mem_nil, or_false] at ha
  rcases ha with rfl | rfl | rfl | rfl | rfl | rfl | rfl
  · exact hw _ (List.mem_of_getElem? (i := 8) rfl)
  · exact hw _ (List.mem_of_getElem? (i := 9) rfl)
  · exact hw _ (List.mem_of_getElem? (i := 0) rfl)
  · exact hw _ (List.mem_of_getElem? (i := 10) rfl)
  · exact hw _ (List.mem_of_getElem? (i := 11) rfl)
  · exact hw _ (List.mem_of_getElem? (i := 12) rfl)
  · exact hw _ (List.mem_of_getElem? (i := 13) rfl)
theorem own_byte2 (x : Int32) : nar .byte x.toInt8.toInt32 = x.toInt8.toInt32 := by
  show x.toInt8.toInt32.toInt8.toInt32 = x.toInt8.toInt32
  rw [Int8.toInt8_toInt32]
theorem own_cast {Z : State} {h : Heap} {a : Addr} {C K : String} {a0 : Array Value} (E : Exa Z h a C) (w : (Cond.castable C K).before a0 Z = true) : Ins Z h a K true := Ins.of_exa E w
theorem dR_0 : Fet jdk_31_method_11_code 0 1 (.aload_n 0) 1 := ⟨by decide +kernel, rfl⟩
theorem dR_1 : Brn jdk_31_method_11_code 1 4 13 (.ifnonnull 12) 12 := ⟨by decide +kernel, rfl, by decide, by decide⟩
theorem dR_13 : Fet jdk_31_method_11_code 13 14 (.aload_n 0) 1 := ⟨by decide +kernel, rfl⟩
theorem dR_14 : Fet jdk_31_method_11_code 14 15 (.areturn) 1 := ⟨by decide +kernel, rfl⟩
theorem pn_java_util_Objects : plainName "java/util/Objects" = true := by first | (simp [plainName, overriddenIn]; done) | decide +kernel
set_option maxRecDepth 65536 in
set_option maxHeartbeats 4000000 in
theorem rmR (l : Launch) (Z : State) (a0 : Array Value) (hw : ∀ d ∈ tables_1, d.before a0 Z = true) (n0 : Nat) (a b : Addr) (h : Heap) :
    ConV l Z n0 (⟨"java/util/Objects", "requireNonNull", "(Ljava/lang/Object;Ljava/lang/String;)Ljava/lang/Object;"⟩ : MethodName) jdk_31_method_11_code 2 (some (.object "java/lang/Object")) [] ({ frames := 0, cells := 0, slots := 0, locals := 0 } : Room) #[(.ref a), (.ref b)] h (fun w h' => w = .ref a ∧ h = h') := by
  refine con_of_wp (Ls := #[.val (.ref a), .val (.ref b)]) (plainFor_of_name pn_java_util_Objects) (fun m => by first | (simp [entryFrame, mkF, argsToLocals, Value.category]; done) | rfl) ?_
  intro K ok
  replace ok : Ok Z K jdk_31_method_11_code "java/util/Objects" "requireNonNull" 2 (some (.object "java/lang/Object")) := ok
  show Wp l ({ frames := 0, cells := 0, slots := 0, locals := 0 } : Room) n0 K (fun v h' => ∃ w, v = some w ∧ w = .ref a ∧ h = h') h 0 0 0 #[.val (.ref a), .val (.ref b)] []
  refine w_aloadN ok dR_0 rfl rfl ?_
  refine w_ifnonnull_yes ok dR_1 ?_
  refine w_aloadN ok dR_13 rfl rfl ?_
  refine w_areturn ok rfl rfl rfl dR_14 (Nat.le_of_ble_eq_true rfl) (Nat.le_of_ble_eq_true rfl) ?_
  exact ⟨_, rfl, rfl, rfl⟩
theorem dI_0 : Fet prog_11_method_1_code 0 1 (.aload_n 0) 1 := ⟨by decide +kernel, rfl⟩
theorem dI_1 : Fet prog_11_method_1_code 1 4 (.invokespecial 1) 3 := ⟨by decide +kernel, rfl⟩
theorem dI_4 : Fet prog_11_method_1_code 4 5 (.aload_n 0) 1 := ⟨by decide +kernel, rfl⟩
theorem dI_5 : Fet prog_11_method_1_code 5 6 (.aload_n 1) 1 := ⟨by decide +kernel, rfl⟩
theorem dI_6 : Fet prog_11_method_1_code 6 8 (.ldc 7) 2 := ⟨by decide +kernel, rfl⟩
theorem dI_8 : Fet prog_11_method_1_code 8 11 (.invokestatic 9) 3 := ⟨by decide +kernel, rfl⟩
theorem pd__Ljava_lang_Object_Ljava_lang_String__Ljava_lang_Object_ : parseMethodDescriptor "(Ljava/lang/Object;Ljava/lang/String;)Ljava/lang/Object;" = some ⟨[(.object "java/lang/Object"), (.object "java/lang/String")], some (.object "java/lang/Object")⟩ := by decide +kernel
theorem dI_11 : Fet prog_11_method_1_code 11 14 (.checkcast 15) 3 := ⟨by decide +kernel, rfl⟩
theorem dI_14 : Fet prog_11_method_1_code 14 17 (.putfield 17) 3 := ⟨by decide +kernel, rfl⟩
theorem dI_17 : Fet prog_11_method_1_code 17 18 (.aload_n 0) 1 := ⟨by decide +kernel, rfl⟩
theorem dI_18 : Fet prog_11_method_1_code 18 19 (.aload_n 2) 1 := ⟨by decide +kernel, rfl⟩
theorem dI_19 : Fet prog_11_method_1_code 19 22 (.putfield 21) 3 := ⟨by decide +kernel, rfl⟩
theorem dI_22 : Fet prog_11_method_1_code 22 23 (.return_) 1 := ⟨by decide +kernel, rfl⟩
theorem pn_com_example_idemnity_idemnity_IdempotencyStore_Entry : plainName "com/example/idemnity/idemnity/IdempotencyStore$Entry" = true := by first | (simp [plainName, overriddenIn]; done) | decide +kernel
set_option maxRecDepth 65536 in
set_option maxHeartbeats 4000000 in
theorem rmI (l : Launch) (Z : State) (a0 : Array Value) (hw : ∀ d ∈ tables_1, d.before a0 Z = true) (n0 : Nat) (a af av : Addr) (h : Heap) (Z0 : n0 ≤ h.size) (gn_a : n0 ≤ a) (E_a : Exa Z h a "com/example/idemnity/idemnity/IdempotencyStore$Entry") (E_f : Exa Z h af "[B") (E_v : Exa Z h av "[B") (F_f : Fld Z h a "com/example/idemnity/idemnity/IdempotencyStore$Entry" "fingerprint" "[B" .null) (F_v : Fld Z h a "com/example/idemnity/idemnity/IdempotencyStore$Entry" "value" "[B" .null) :
    ConN l Z n0 (⟨"com/example/idemnity/idemnity/IdempotencyStore$Entry", "<init>", "([B[B)V"⟩ : MethodName) prog_11_method_1_code 3 none [] ({ frames := 1, cells := 2, slots := 48, locals := 14 } : Room) #[(.ref a), (.ref af), (.ref av)] h (fun h' => Keep h h' [a] ∧ Exa Z h' a "com/example/idemnity/idemnity/IdempotencyStore$Entry" ∧ Fld Z h' a "com/example/idemnity/idemnity/IdempotencyStore$Entry" "fingerprint" "[B" (.ref af) ∧ Fld Z h' a "com/example/idemnity/idemnity/IdempotencyStore$Entry" "value" "[B" (.ref av)) := by
  refine con_of_wp (Ls := #[.val (.ref a), .val (.ref af), .val (.ref av)]) (plainFor_of_name pn_com_example_idemnity_idemnity_IdempotencyStore_Entry) (fun m => by first | (simp [entryFrame, mkF, argsToLocals, Value.category]; done) | rfl) ?_
  intro K ok
  replace ok : Ok Z K prog_11_method_1_code "com/example/idemnity/idemnity/IdempotencyStore$Entry" "<init>" 3 none := ok
  show Wp l ({ frames := 1, cells := 2, slots := 48, locals := 14 } : Room) n0 K (fun v h' => v = none ∧ Keep h h' [a] ∧ Exa Z h' a "com/example/idemnity/idemnity/IdempotencyStore$Entry" ∧ Fld Z h' a "com/example/idemnity/idemnity/IdempotencyStore$Entry" "fingerprint" "[B" (.ref af) ∧ Fld Z h' a "com/example/idemnity/idemnity/IdempotencyStore$Entry" "value" "[B" (.ref av)) h 0 0 0 #[.val (.ref a), .val (.ref af), .val (.ref av)] []
  have Kp : Keep h h [a] := Keep.refl _ _
  refine w_aloadN ok dI_0 rfl rfl ?_
  refine w_initO ok (hw _ (List.mem_of_getElem? (i := 23) rfl)) (hw _ (List.mem_of_getElem? (i := 24) rfl)) (hw _ (List.mem_of_getElem? (i := 25) rfl)) dI_1 rfl (Nat.le_of_ble_eq_true rfl) (Nat.le_of_ble_eq_true rfl) ?_
  refine w_aloadN ok dI_4 rfl rfl ?_
  refine w_aloadN ok dI_5 rfl rfl ?_
  refine w_ldcS ok (nn := 44) (hw _ (List.mem_of_getElem? (i := 26) rfl)) (own_strs Z a0 hw) dI_6 (by decide) (by decide) (k' := 2) (n' := 48) rfl rfl (Nat.le_of_ble_eq_true rfl) (Nat.le_of_ble_eq_true rfl) (fun h1 b1 E1 => ?_)
  have Z0 := Nat.le_trans Z0 E1.1
  have Kp := Kp.ext E1
  have E_a := E_a.ext E1
  have E_f := E_f.ext E1
  have E_v := E_v.ext E1
  have F_f := F_f.ext E1
  have F_v := F_v.ext E1
  refine w_callSV ok (argsL := [(.ref af), (.ref b1)]) (rest := [(.ref a)]) (hw _ (List.mem_of_getElem? (i := 14) rfl)) (hw _ (List.mem_of_getElem? (i := 15) rfl)) (hw _ (List.mem_of_getElem? (i := 16) rfl)) (hw _ (List.mem_of_getElem? (i := 17) rfl)) (by decide) (rmR l Z a0 hw n0 af b1 h1) dI_8 (lenOf pd__Ljava_lang_Object_Ljava_lang_String__Ljava_lang_Object_ rfl) rfl rfl (Nat.le_of_ble_eq_true rfl) (Nat.le_of_ble_eq_true rfl) (k' := 2) (n' := 48) rfl rfl (Nat.le_of_ble_eq_true rfl) (Nat.le_of_ble_eq_true rfl) ?_
  rintro _ _ ⟨rfl, rfl⟩
  refine w_checkcast ok (hw _ (List.mem_of_getElem? (i := 18) rfl)) (own_cast E_f (hw _ (List.mem_of_getElem? (i := 19) rfl))) dI_11 ?_
  refine w_putfield ok (host := "") (Or.inl (hw _ (List.mem_of_getElem? (i := 27) rfl))) Via.refl F_f E_a (Or.inr ⟨(hw _ (List.mem_of_getElem? (i := 28) rfl)), rfl, rfl⟩) (hw _ (List.mem_of_getElem? (i := 6) rfl)) (ty := (.array .byte)) (by decide) rfl rfl gn_a dI_14 (fun h2 W2 => ?_)
  have E_a := E_a.wr W2
  have E_f := E_f.wr W2
  have E_v := E_v.wr W2
  have F_f := F_f.same W2
  have F_v := F_v.other W2 (Or.inr (slot_ne (Or.inr (hw _ (List.mem_of_getElem? (i := 30) rfl))) (Or.inr (hw _ (List.mem_of_getElem? (i := 28) rfl))) (by decide) (t := (.array .byte)) (t' := (.array .byte)) (by decide) (by decide)))
  have Z0 := Nat.le_trans Z0 (Keep.of_wr W2).1
  have Kp := Kp.wr W2 (Or.inl (List.mem_of_getElem? (i := 0) rfl))
  refine w_aloadN ok dI_17 rfl rfl ?_
  refine w_aloadN ok dI_18 rfl rfl ?_
  refine w_putfield ok (host := "") (Or.inl (hw _ (List.mem_of_getElem? (i := 29) rfl))) Via.refl F_v E_a (Or.inr ⟨(hw _ (List.mem_of_getElem? (i := 30) rfl)), rfl, rfl⟩) (hw _ (List.mem_of_getElem? (i := 6) rfl)) (ty := (.array .byte)) (by decide) rfl rfl gn_a dI_19 (fun h3 W3 => ?_)
  have E_a := E_a.wr W3
  have E_f := E_f.wr W3
  have E_v := E_v.wr W3
  have F_f := F_f.other W3 (Or.inr (slot_ne (Or.inr (hw _ (List.mem_of_getElem? (i := 28) rfl))) (Or.inr (hw _ (List.mem_of_getElem? (i := 30) rfl))) (by decide) (t := (.array .byte)) (t' := (.array .byte)) (by decide) (by decide)))
  have F_v := F_v.same W3
  have Z0 := Nat.le_trans Z0 (Keep.of_wr W3).1
  have Kp := Kp.wr W3 (Or.inl (List.mem_of_getElem? (i := 0) rfl))
  refine w_return ok dI_22 (Nat.le_of_ble_eq_true rfl) (Nat.le_of_ble_eq_true rfl) ?_
  exact ⟨rfl, Kp, E_a, F_f, F_v⟩
theorem dC_0 : Fet prog_11_method_3_code 0 3 (.new 18) 3 := ⟨by decide +kernel, rfl⟩
theorem dC_3 : Fet prog_11_method_3_code 3 4 (.dup) 1 := ⟨by decide +kernel, rfl⟩
theorem dC_4 : Fet prog_11_method_3_code 4 5 (.aload_n 0) 1 := ⟨by decide +kernel, rfl⟩
theorem dC_5 : Fet prog_11_method_3_code 5 6 (.aload_n 1) 1 := ⟨by decide +kernel, rfl⟩
theorem dC_6 : Fet prog_11_method_3_code 6 8 (.ldc 27) 2 := ⟨by decide +kernel, rfl⟩
theorem dC_8 : Fet prog_11_method_3_code 8 11 (.invokestatic 9) 3 := ⟨by decide +kernel, rfl⟩
theorem dC_11 : Fet prog_11_method_3_code 11 14 (.checkcast 15) 3 := ⟨by decide +kernel, rfl⟩
theorem dC_14 : Fet prog_11_method_3_code 14 17 (.invokespecial 24) 3 := ⟨by decide +kernel, rfl⟩
theorem pd__ArBArB_V : parseMethodDescriptor "([B[B)V" = some ⟨[(.array .byte), (.array .byte)], none⟩ := by decide +kernel
theorem dC_17 : Fet prog_11_method_3_code 17 18 (.areturn) 1 := ⟨by decide +kernel, rfl⟩
set_option maxRecDepth 65536 in
set_option maxHeartbeats 4000000 in
theorem rmC (l : Launch) (Z : State) (a0 : Array Value) (hw : ∀ d ∈ tables_1, d.before a0 Z = true) (n0 : Nat) (af av : Addr) (h : Heap) (Z0 : n0 ≤ h.size) (E_f : Exa Z h af "[B") (E_v : Exa Z h av "[B") :
    ConV l Z n0 (⟨"com/example/idemnity/idemnity/IdempotencyStore$Entry", "completed", "([B[B)Lcom/example/idemnity/idemnity/IdempotencyStore$Entry;"⟩ : MethodName) prog_11_method_3_code 2 (some (.object "com/example/idemnity/idemnity/IdempotencyStore$Entry")) [] ({ frames := 2, cells := 5, slots := 74, locals := 29 } : Room) #[(.ref af), (.ref av)] h (fun w h' => ∃ o : Addr, w = .ref o ∧ n0 ≤ o ∧ Keep h h' [] ∧ Exa Z h' o "com/example/idemnity/idemnity/IdempotencyStore$Entry" ∧ Fld Z h' o "com/example/idemnity/idemnity/IdempotencyStore$Entry" "fingerprint" "[B" (.ref af) ∧ Fld Z h' o "com/example/idemnity/idemnity/IdempotencyStore$Entry" "value" "[B" (.ref av)) := by
  refine con_of_wp (Ls := #[.val (.ref af), .val (.ref av)]) (plainFor_of_name pn_com_example_idemnity_idemnity_IdempotencyStore_Entry) (fun m => by first | (simp [entryFrame, mkF, argsToLocals, Value.category]; done) | rfl) ?_
  intro K ok
  replace ok : Ok Z K prog_11_method_3_code "com/example/idemnity/idemnity/IdempotencyStore$Entry" "completed" 2 (some (.object "com/example/idemnity/idemnity/IdempotencyStore$Entry")) := ok
  show Wp l ({ frames := 2, cells := 5, slots := 74, locals := 29 } : Room) n0 K (fun v h' => ∃ w, v = some w ∧ ∃ o : Addr, w = .ref o ∧ n0 ≤ o ∧ Keep h h' [] ∧ Exa Z h' o "com/example/idemnity/idemnity/IdempotencyStore$Entry" ∧ Fld Z h' o "com/example/idemnity/idemnity/IdempotencyStore$Entry" "fingerprint" "[B" (.ref af) ∧ Fld Z h' o "com/example/idemnity/idemnity/IdempotencyStore$Entry" "value" "[B" (.ref av)) h 0 0 0 #[.val (.ref af), .val (.ref av)] []
  have Kp : Keep h h [] := Keep.refl _ _
  refine w_new ok (hw _ (List.mem_of_getElem? (i := 5) rfl)) (hw _ (List.mem_of_getElem? (i := 6) rfl)) (hw _ (List.mem_of_getElem? (i := 3) rfl)) dC_0 (k' := 1) (n' := 2) rfl rfl (Nat.le_of_ble_eq_true rfl) (Nat.le_of_ble_eq_true rfl) (fun h1 b1 g1 E1 A1 D1 => ?_)
  have ne_af_b1 : af ≠ b1 := Nat.ne_of_lt (Nat.lt_of_lt_of_le E_f.lt (Nat.le_of_eq g1.symm))
  have ne_av_b1 : av ≠ b1 := Nat.ne_of_lt (Nat.lt_of_lt_of_le E_v.lt (Nat.le_of_eq g1.symm))
  have gn_b1 : n0 ≤ b1 := Nat.le_trans Z0 (Nat.le_of_eq g1.symm)
  have Z0 := Nat.le_trans Z0 E1.1
  have hz_b1 := Nat.le_trans Kp.1 (Nat.le_of_eq g1.symm)
  have Kp := Kp.ext E1
  have E_f := E_f.ext E1
  have E_v := E_v.ext E1
  have F_b1_fingerprint : Fld Z h1 b1 "com/example/idemnity/idemnity/IdempotencyStore$Entry" "fingerprint" "[B" .null := D1 (Or.inr (hw _ (List.mem_of_getElem? (i := 28) rfl))) (ty := (.array .byte)) (by decide)
  have F_b1_value : Fld Z h1 b1 "com/example/idemnity/idemnity/IdempotencyStore$Entry" "value" "[B" .null := D1 (Or.inr (hw _ (List.mem_of_getElem? (i := 30) rfl))) (ty := (.array .byte)) (by decide)
  refine w_dup ok dC_3 rfl ?_
  refine w_aloadN ok dC_4 rfl rfl ?_
  refine w_aloadN ok dC_5 rfl rfl ?_
  refine w_ldcS ok (nn := 20) (hw _ (List.mem_of_getElem? (i := 7) rfl)) (own_strs Z a0 hw) dC_6 (by decide) (by decide) (k' := 3) (n' := 26) rfl rfl (Nat.le_of_ble_eq_true rfl) (Nat.le_of_ble_eq_true rfl) (fun h2 b2 E2 => ?_)
  have Z0 := Nat.le_trans Z0 E2.1
  have Kp := Kp.ext E2
  have E_f := E_f.ext E2
  have E_v := E_v.ext E2
  have A1 := A1.ext E2
  have F_b1_fingerprint := F_b1_fingerprint.ext E2
  have F_b1_value := F_b1_value.ext E2
  refine w_callSV ok (argsL := [(.ref av), (.ref b2)]) (rest := [(.ref af), (.ref b1), (.ref b1)]) (hw _ (List.mem_of_getElem? (i := 14) rfl)) (hw _ (List.mem_of_getElem? (i := 15) rfl)) (hw _ (List.mem_of_getElem? (i := 16) rfl)) (hw _ (List.mem_of_getElem? (i := 17) rfl)) (by decide) (rmR l Z a0 hw n0 av b2 h2) dC_8 (lenOf pd__Ljava_lang_Object_Ljava_lang_String__Ljava_lang_Object_ rfl) rfl rfl (Nat.le_of_ble_eq_true rfl) (Nat.le_of_ble_eq_true rfl) (k' := 3) (n' := 26) rfl rfl (Nat.le_of_ble_eq_true rfl) (Nat.le_of_ble_eq_true rfl) ?_
  rintro _ _ ⟨rfl, rfl⟩
  refine w_checkcast ok (hw _ (List.mem_of_getElem? (i := 18) rfl)) (own_cast E_v (hw _ (List.mem_of_getElem? (i := 19) rfl))) dC_11 ?_
  refine w_init ok (argsL := [(.ref af), (.ref av)]) (rest := [(.ref b1)]) rfl rfl (hw _ (List.mem_of_getElem? (i := 20) rfl)) (hw _ (List.mem_of_getElem? (i := 21) rfl)) (hw _ (List.mem_of_getElem? (i := 3) rfl)) (hw _ (List.mem_of_getElem? (i := 22) rfl)) (by decide) (rmI l Z a0 hw n0 b1 af av h2 Z0 gn_b1 A1 E_f E_v F_b1_fingerprint F_b1_value) dC_14 (lenOf pd__ArBArB_V rfl) rfl rfl (Nat.le_of_ble_eq_true rfl) (Nat.le_of_ble_eq_true rfl) (k' := 5) (n' := 74) rfl rfl (Nat.le_of_ble_eq_true rfl) (Nat.le_of_ble_eq_true rfl) ?_
  rintro h9 ⟨Kc, A, F1, F2⟩
  have Z0 := Nat.le_trans Z0 Kc.1
  have Kp := Kp.trans Kc (allS (Or.inr hz_b1) all0)
  refine w_areturn ok rfl rfl rfl dC_17 (Nat.le_of_ble_eq_true rfl) (Nat.le_of_ble_eq_true rfl) ?_
  exact ⟨_, rfl, _, rfl, gn_b1, Kp, A, F1, F2⟩
theorem dP_0 : Fet prog_11_method_5_code 0 1 (.aload_n 0) 1 := ⟨by decide +kernel, rfl⟩
theorem dP_1 : Fet prog_11_method_5_code 1 4 (.getfield 21) 3 := ⟨by decide +kernel, rfl⟩
theorem dP_4 : Brn prog_11_method_5_code 4 7 11 (.ifnull 7) 7 := ⟨by decide +kernel, rfl, by decide, by decide⟩
theorem dP_7 : Fet prog_11_method_5_code 7 8 (.iconst 1) 1 := ⟨by decide +kernel, rfl⟩
theorem dP_8 : Brn prog_11_method_5_code 8 11 12 (.goto 4) 4 := ⟨by decide +kernel, rfl, by decide, by decide⟩
theorem dP_12 : Fet prog_11_method_5_code 12 13 (.ireturn) 1 := ⟨by decide +kernel, rfl⟩
set_option maxRecDepth 65536 in
set_option maxHeartbeats 4000000 in
theorem rmP (l : Launch) (Z : State) (a0 : Array Value) (hw : ∀ d ∈ tables_1, d.before a0 Z = true) (n0 : Nat) (a x : Addr) (h : Heap) (F : Fld Z h a "com/example/idemnity/idemnity/IdempotencyStore$Entry" "value" "[B" (.ref x)) :
    ConV l Z n0 (⟨"com/example/idemnity/idemnity/IdempotencyStore$Entry", "isCompleted", "()Z"⟩ : MethodName) prog_11_method_5_code 1 (some .boolean) [] ({ frames := 0, cells := 0, slots := 0, locals := 0 } : Room) #[(.ref a)] h (fun w h' => w = .int 1 ∧ h = h') := by
  refine con_of_wp (Ls := #[.val (.ref a)]) (plainFor_of_name pn_com_example_idemnity_idemnity_IdempotencyStore_Entry) (fun m => by first | (simp [entryFrame, mkF, argsToLocals, Value.category]; done) | rfl) ?_
  intro K ok
  replace ok : Ok Z K prog_11_method_5_code "com/example/idemnity/idemnity/IdempotencyStore$Entry" "isCompleted" 1 (some .boolean) := ok
  show Wp l ({ frames := 0, cells := 0, slots := 0, locals := 0 } : Room) n0 K (fun v h' => ∃ w, v = some w ∧ w = .int 1 ∧ h = h') h 0 0 0 #[.val (.ref a)] []
  refine w_aloadN ok dP_0 rfl rfl ?_
  refine w_getfield ok (host := "") (Or.inl (hw _ (List.mem_of_getElem? (i := 29) rfl))) Via.refl F dP_1 ?_
  refine w_ifnull_no ok dP_4 ?_
  refine w_iconst ok (z := 1) dP_7 rfl ?_
  refine w_goto ok dP_8 ?_
  refine w_ireturnN ok (by simp) dP_12 (Nat.le_of_ble_eq_true rfl) (Nat.le_of_ble_eq_true rfl) ?_
  exact ⟨_, rfl, rfl, rfl⟩
theorem dG_0 : Fet prog_11_method_4_code 0 1 (.aload_n 0) 1 := ⟨by decide +kernel, rfl⟩
theorem dG_1 : Fet prog_11_method_4_code 1 4 (.getfield 17) 3 := ⟨by decide +kernel, rfl⟩
theorem dG_4 : Fet prog_11_method_4_code 4 5 (.areturn) 1 := ⟨by decide +kernel, rfl⟩
set_option maxRecDepth 65536 in
set_option maxHeartbeats 4000000 in
theorem rmG (l : Launch) (Z : State) (a0 : Array Value) (hw : ∀ d ∈ tables_1, d.before a0 Z = true) (n0 : Nat) (a x : Addr) (h : Heap) (F : Fld Z h a "com/example/idemnity/idemnity/IdempotencyStore$Entry" "fingerprint" "[B" (.ref x)) :
    ConV l Z n0 (⟨"com/example/idemnity/idemnity/IdempotencyStore$Entry", "fingerprint", "()[B"⟩ : MethodName) prog_11_method_4_code 1 (some (.array .byte)) [] ({ frames := 0, cells := 0, slots := 0, locals := 0 } : Room) #[(.ref a)] h (fun w h' => w = .ref x ∧ h = h') := by
  refine con_of_wp (Ls := #[.val (.ref a)]) (plainFor_of_name pn_com_example_idemnity_idemnity_IdempotencyStore_Entry) (fun m => by first | (simp [entryFrame, mkF, argsToLocals, Value.category]; done) | rfl) ?_
  intro K ok
  replace ok : Ok Z K prog_11_method_4_code "com/example/idemnity/idemnity/IdempotencyStore$Entry" "fingerprint" 1 (some (.array .byte)) := ok
  show Wp l ({ frames := 0, cells := 0, slots := 0, locals := 0 } : Room) n0 K (fun v h' => ∃ w, v = some w ∧ w = .ref x ∧ h = h') h 0 0 0 #[.val (.ref a)] []
  refine w_aloadN ok dG_0 rfl rfl ?_
  refine w_getfield ok (host := "") (Or.inl (hw _ (List.mem_of_getElem? (i := 27) rfl))) Via.refl F dG_1 ?_
  refine w_areturn ok rfl rfl rfl dG_4 (Nat.le_of_ble_eq_true rfl) (Nat.le_of_ble_eq_true rfl) ?_
  exact ⟨_, rfl, rfl, rfl⟩
theorem dV_0 : Fet prog_11_method_6_code 0 1 (.aload_n 0) 1 := ⟨by decide +kernel, rfl⟩
theorem dV_1 : Fet prog_11_method_6_code 1 4 (.getfield 21) 3 := ⟨by decide +kernel, rfl⟩
theorem dV_4 : Brn prog_11_method_6_code 4 7 17 (.ifnonnull 13) 13 := ⟨by decide +kernel, rfl, by decide, by decide⟩
theorem dV_17 : Fet prog_11_method_6_code 17 18 (.aload_n 0) 1 := ⟨by decide +kernel, rfl⟩
theorem dV_18 : Fet prog_11_method_6_code 18 21 (.getfield 21) 3 := ⟨by decide +kernel, rfl⟩
theorem dV_21 : Fet prog_11_method_6_code 21 22 (.areturn) 1 := ⟨by decide +kernel, rfl⟩
set_option maxRecDepth 65536 in
set_option maxHeartbeats 4000000 in
theorem rmV (l : Launch) (Z : State) (a0 : Array Value) (hw : ∀ d ∈ tables_1, d.before a0 Z = true) (n0 : Nat) (a x : Addr) (h : Heap) (F : Fld Z h a "com/example/idemnity/idemnity/IdempotencyStore$Entry" "value" "[B" (.ref x)) :
    ConV l Z n0 (⟨"com/example/idemnity/idemnity/IdempotencyStore$Entry", "value", "()[B"⟩ : MethodName) prog_11_method_6_code 1 (some (.array .byte)) [] ({ frames := 0, cells := 0, slots := 0, locals := 0 } : Room) #[(.ref a)] h (fun w h' => w = .ref x ∧ h = h') := by
  refine con_of_wp (Ls := #[.val (.ref a)]) (plainFor_of_name pn_com_example_idemnity_idemnity_IdempotencyStore_Entry) (fun m => by first | (simp [entryFrame, mkF, argsToLocals, Value.category]; done) | rfl) ?_
  intro K ok
  replace ok : Ok Z K prog_11_method_6_code "com/example/idemnity/idemnity/IdempotencyStore$Entry" "value" 1 (some (.array .byte)) := ok
  show Wp l ({ frames := 0, cells := 0, slots := 0, locals := 0 } : Room) n0 K (fun v h' => ∃ w, v = some w ∧ w = .ref x ∧ h = h') h 0 0 0 #[.val (.ref a)] []
  refine w_aloadN ok dV_0 rfl rfl ?_
  refine w_getfield ok (host := "") (Or.inl (hw _ (List.mem_of_getElem? (i := 29) rfl))) Via.refl F dV_1 ?_
  refine w_ifnonnull_yes ok dV_4 ?_
  refine w_aloadN ok dV_17 rfl rfl ?_
  refine w_getfield ok (host := "") (Or.inl (hw _ (List.mem_of_getElem? (i := 29) rfl))) Via.refl F dV_18 ?_
  refine w_areturn ok rfl rfl rfl dV_21 (Nat.le_of_ble_eq_true rfl) (Nat.le_of_ble_eq_true rfl) ?_
  exact ⟨_, rfl, rfl, rfl⟩
theorem d0_0 : Fet code 0 1 (.iload_n 0) 1 := ⟨by decide +kernel, rfl⟩
theorem d0_1 : Fet code 1 2 (.i2b) 1 := ⟨by decide +kernel, rfl⟩
theorem d0_2 : Fet code 2 4 (.istore 4) 2 := ⟨by decide +kernel, rfl⟩
theorem d0_4 : Fet code 4 5 (.iload_n 0) 1 := ⟨by decide +kernel, rfl⟩
theorem d0_5 : Fet code 5 7 (.bipush 8) 2 := ⟨by decide +kernel, rfl⟩
theorem d0_7 : Fet code 7 8 (.ishr) 1 := ⟨by decide +kernel, rfl⟩
theorem d0_8 : Fet code 8 9 (.i2b) 1 := ⟨by decide +kernel, rfl⟩
theorem d0_9 : Fet code 9 11 (.istore 5) 2 := ⟨by decide +kernel, rfl⟩
theorem d0_11 : Fet code 11 12 (.iload_n 1) 1 := ⟨by decide +kernel, rfl⟩
theorem d0_12 : Fet code 12 13 (.i2b) 1 := ⟨by decide +kernel, rfl⟩
theorem d0_13 : Fet code 13 15 (.istore 6) 2 := ⟨by decide +kernel, rfl⟩
theorem d0_15 : Fet code 15 16 (.iload_n 1) 1 := ⟨by decide +kernel, rfl⟩
theorem d0_16 : Fet code 16 18 (.bipush 8) 2 := ⟨by decide +kernel, rfl⟩
theorem d0_18 : Fet code 18 19 (.ishr) 1 := ⟨by decide +kernel, rfl⟩
theorem d0_19 : Fet code 19 20 (.i2b) 1 := ⟨by decide +kernel, rfl⟩
theorem d0_20 : Fet code 20 22 (.istore 7) 2 := ⟨by decide +kernel, rfl⟩
theorem d0_22 : Fet code 22 23 (.iload_n 2) 1 := ⟨by decide +kernel, rfl⟩
theorem d0_23 : Fet code 23 24 (.i2b) 1 := ⟨by decide +kernel, rfl⟩
theorem d0_24 : Fet code 24 26 (.istore 8) 2 := ⟨by decide +kernel, rfl⟩
theorem d0_52 : Fet code 52 53 (.iconst 2) 1 := ⟨by decide +kernel, rfl⟩
theorem d0_53 : Fet code 53 55 (.newarray .byte) 2 := ⟨by decide +kernel, rfl⟩
theorem d0_55 : Fet code 55 57 (.astore 11) 2 := ⟨by decide +kernel, rfl⟩
theorem d0_57 : Fet code 57 59 (.aload 11) 2 := ⟨by decide +kernel, rfl⟩
theorem d0_59 : Fet code 59 60 (.iconst 0) 1 := ⟨by decide +kernel, rfl⟩
theorem d0_60 : Fet code 60 62 (.iload 4) 2 := ⟨by decide +kernel, rfl⟩
theorem d0_62 : Fet code 62 63 (.bastore) 1 := ⟨by decide +kernel, rfl⟩
theorem d0_63 : Fet code 63 65 (.aload 11) 2 := ⟨by decide +kernel, rfl⟩
theorem d0_65 : Fet code 65 66 (.iconst 1) 1 := ⟨by decide +kernel, rfl⟩
theorem d0_66 : Fet code 66 68 (.iload 5) 2 := ⟨by decide +kernel, rfl⟩
theorem d0_68 : Fet code 68 69 (.bastore) 1 := ⟨by decide +kernel, rfl⟩
theorem d0_69 : Fet code 69 70 (.iconst 0) 1 := ⟨by decide +kernel, rfl⟩
theorem d0_70 : Fet code 70 72 (.newarray .byte) 2 := ⟨by decide +kernel, rfl⟩
theorem d0_72 : Fet code 72 74 (.astore 12) 2 := ⟨by decide +kernel, rfl⟩
theorem d0_74 : Fet code 74 75 (.iconst 3) 1 := ⟨by decide +kernel, rfl⟩
theorem d0_75 : Fet code 75 77 (.newarray .byte) 2 := ⟨by decide +kernel, rfl⟩
theorem d0_77 : Fet code 77 79 (.astore 13) 2 := ⟨by decide +kernel, rfl⟩
theorem d0_79 : Fet code 79 81 (.aload 13) 2 := ⟨by decide +kernel, rfl⟩
theorem d0_81 : Fet code 81 82 (.iconst 0) 1 := ⟨by decide +kernel, rfl⟩
theorem d0_82 : Fet code 82 84 (.iload 6) 2 := ⟨by decide +kernel, rfl⟩
theorem d0_84 : Fet code 84 85 (.bastore) 1 := ⟨by decide +kernel, rfl⟩
theorem d0_85 : Fet code 85 87 (.aload 13) 2 := ⟨by decide +kernel, rfl⟩
theorem d0_87 : Fet code 87 88 (.iconst 1) 1 := ⟨by decide +kernel, rfl⟩
theorem d0_88 : Fet code 88 90 (.iload 7) 2 := ⟨by decide +kernel, rfl⟩
theorem d0_90 : Fet code 90 91 (.bastore) 1 := ⟨by decide +kernel, rfl⟩
theorem d0_91 : Fet code 91 93 (.aload 13) 2 := ⟨by decide +kernel, rfl⟩
theorem d0_93 : Fet code 93 94 (.iconst 2) 1 := ⟨by decide +kernel, rfl⟩
theorem d0_94 : Fet code 94 96 (.iload 8) 2 := ⟨by decide +kernel, rfl⟩
theorem d0_96 : Fet code 96 97 (.bastore) 1 := ⟨by decide +kernel, rfl⟩
theorem d0_97 : Fet code 97 98 (.iconst 0) 1 := ⟨by decide +kernel, rfl⟩
theorem d0_98 : Fet code 98 100 (.newarray .byte) 2 := ⟨by decide +kernel, rfl⟩
theorem d0_100 : Fet code 100 102 (.astore 14) 2 := ⟨by decide +kernel, rfl⟩
theorem d0_102 : Fet code 102 104 (.iload 10) 2 := ⟨by decide +kernel, rfl⟩
theorem d0_104 : Brn code 104 107 112 (.ifCond .eq 8) 8 := ⟨by decide +kernel, rfl, by decide, by decide⟩
theorem d0_112 : Fet code 112 114 (.aload 11) 2 := ⟨by decide +kernel, rfl⟩
theorem d0_114 : Fet code 114 116 (.astore 15) 2 := ⟨by decide +kernel, rfl⟩
theorem d0_116 : Fet code 116 118 (.iload 9) 2 := ⟨by decide +kernel, rfl⟩
theorem d0_118 : Brn code 118 121 126 (.ifCond .eq 8) 8 := ⟨by decide +kernel, rfl, by decide, by decide⟩
theorem d0_126 : Fet code 126 128 (.aload 13) 2 := ⟨by decide +kernel, rfl⟩
theorem d0_128 : Fet code 128 130 (.astore 16) 2 := ⟨by decide +kernel, rfl⟩
theorem d0_130 : Fet code 130 132 (.aload 15) 2 := ⟨by decide +kernel, rfl⟩
theorem d0_132 : Fet code 132 134 (.aload 16) 2 := ⟨by decide +kernel, rfl⟩
theorem d0_134 : Fet code 134 137 (.invokestatic 7) 3 := ⟨by decide +kernel, rfl⟩
theorem pd__ArBArB_Lcom_example_idemnity_idemnity_IdempotencyStore_Entry_ : parseMethodDescriptor "([B[B)Lcom/example/idemnity/idemnity/IdempotencyStore$Entry;" = some ⟨[(.array .byte), (.array .byte)], some (.object "com/example/idemnity/idemnity/IdempotencyStore$Entry")⟩ := by decide +kernel
theorem d0_137 : Fet code 137 139 (.astore 17) 2 := ⟨by decide +kernel, rfl⟩
theorem d0_139 : Fet code 139 141 (.aload 17) 2 := ⟨by decide +kernel, rfl⟩
theorem d0_141 : Brn code 141 144 146 (.ifnonnull 5) 5 := ⟨by decide +kernel, rfl, by decide, by decide⟩
theorem d0_146 : Fet code 146 148 (.aload 17) 2 := ⟨by decide +kernel, rfl⟩
theorem d0_148 : Fet code 148 151 (.invokevirtual 13) 3 := ⟨by decide +kernel, rfl⟩
theorem pd___Z : parseMethodDescriptor "()Z" = some ⟨[], some .boolean⟩ := by decide +kernel
theorem d0_151 : Brn code 151 154 156 (.ifCond .ne 5) 5 := ⟨by decide +kernel, rfl, by decide, by decide⟩
theorem d0_156 : Fet code 156 158 (.aload 17) 2 := ⟨by decide +kernel, rfl⟩
theorem d0_158 : Fet code 158 161 (.invokevirtual 17) 3 := ⟨by decide +kernel, rfl⟩
theorem pd___ArB : parseMethodDescriptor "()[B" = some ⟨[], some (.array .byte)⟩ := by decide +kernel
theorem d0_161 : Fet code 161 163 (.astore 18) 2 := ⟨by decide +kernel, rfl⟩
theorem d0_163 : Fet code 163 165 (.aload 18) 2 := ⟨by decide +kernel, rfl⟩
theorem d0_165 : Brn code 165 168 170 (.ifnonnull 5) 5 := ⟨by decide +kernel, rfl, by decide, by decide⟩
theorem d0_170 : Fet code 170 172 (.iload 10) 2 := ⟨by decide +kernel, rfl⟩
theorem d0_172 : Brn code 172 175 183 (.ifCond .eq 11) 11 := ⟨by decide +kernel, rfl, by decide, by decide⟩
theorem d0_183 : Fet code 183 185 (.aload 18) 2 := ⟨by decide +kernel, rfl⟩
theorem d0_185 : Fet code 185 186 (.arraylength) 1 := ⟨by decide +kernel, rfl⟩
theorem d0_186 : Fet code 186 187 (.iconst 2) 1 := ⟨by decide +kernel, rfl⟩
theorem d0_187 : Brn code 187 190 208 (.if_icmp .ne 21) 21 := ⟨by decide +kernel, rfl, by decide, by decide⟩
theorem d0_190 : Fet code 190 192 (.aload 18) 2 := ⟨by decide +kernel, rfl⟩
theorem d0_192 : Fet code 192 193 (.iconst 0) 1 := ⟨by decide +kernel, rfl⟩
theorem d0_193 : Fet code 193 194 (.baload) 1 := ⟨by decide +kernel, rfl⟩
theorem d0_194 : Fet code 194 196 (.iload 4) 2 := ⟨by decide +kernel, rfl⟩
theorem d0_196 : Brn code 196 199 208 (.if_icmp .ne 12) 12 := ⟨by decide +kernel, rfl, by decide, by decide⟩
theorem d0_199 : Fet code 199 201 (.aload 18) 2 := ⟨by decide +kernel, rfl⟩
theorem d0_201 : Fet code 201 202 (.iconst 1) 1 := ⟨by decide +kernel, rfl⟩
theorem d0_202 : Fet code 202 203 (.baload) 1 := ⟨by decide +kernel, rfl⟩
theorem d0_203 : Fet code 203 205 (.iload 5) 2 := ⟨by decide +kernel, rfl⟩
theorem d0_205 : Brn code 205 208 210 (.if_icmp .eq 5) 5 := ⟨by decide +kernel, rfl, by decide, by decide⟩
theorem d0_210 : Fet code 210 212 (.aload 17) 2 := ⟨by decide +kernel, rfl⟩
theorem d0_212 : Fet code 212 215 (.invokevirtual 21) 3 := ⟨by decide +kernel, rfl⟩
theorem d0_215 : Fet code 215 217 (.astore 19) 2 := ⟨by decide +kernel, rfl⟩
theorem d0_217 : Fet code 217 219 (.aload 19) 2 := ⟨by decide +kernel, rfl⟩
theorem d0_219 : Brn code 219 222 224 (.ifnonnull 5) 5 := ⟨by decide +kernel, rfl, by decide, by decide⟩
theorem d0_224 : Fet code 224 226 (.iload 9) 2 := ⟨by decide +kernel, rfl⟩
theorem d0_226 : Brn code 226 229 241 (.ifCond .eq 15) 15 := ⟨by decide +kernel, rfl, by decide, by decide⟩
theorem d0_241 : Fet code 241 243 (.aload 19) 2 := ⟨by decide +kernel, rfl⟩
theorem d0_243 : Fet code 243 244 (.arraylength) 1 := ⟨by decide +kernel, rfl⟩
theorem d0_244 : Fet code 244 245 (.iconst 3) 1 := ⟨by decide +kernel, rfl⟩
theorem d0_245 : Brn code 245 248 279 (.if_icmp .ne 34) 34 := ⟨by decide +kernel, rfl, by decide, by decide⟩
theorem d0_248 : Fet code 248 250 (.aload 19) 2 := ⟨by decide +kernel, rfl⟩
theorem d0_250 : Fet code 250 251 (.iconst 0) 1 := ⟨by decide +kernel, rfl⟩
theorem d0_251 : Fet code 251 252 (.baload) 1 := ⟨by decide +kernel, rfl⟩
theorem d0_252 : Fet code 252 254 (.iload 6) 2 := ⟨by decide +kernel, rfl⟩
theorem d0_254 : Brn code 254 257 279 (.if_icmp .ne 25) 25 := ⟨by decide +kernel, rfl, by decide, by decide⟩
theorem d0_257 : Fet code 257 259 (.aload 19) 2 := ⟨by decide +kernel, rfl⟩
theorem d0_259 : Fet code 259 260 (.iconst 1) 1 := ⟨by decide +kernel, rfl⟩
theorem d0_260 : Fet code 260 261 (.baload) 1 := ⟨by decide +kernel, rfl⟩
theorem d0_261 : Fet code 261 263 (.iload 7) 2 := ⟨by decide +kernel, rfl⟩
theorem d0_263 : Brn code 263 266 279 (.if_icmp .ne 16) 16 := ⟨by decide +kernel, rfl, by decide, by decide⟩
theorem d0_266 : Fet code 266 268 (.aload 19) 2 := ⟨by decide +kernel, rfl⟩
theorem d0_268 : Fet code 268 269 (.iconst 2) 1 := ⟨by decide +kernel, rfl⟩
theorem d0_269 : Fet code 269 270 (.baload) 1 := ⟨by decide +kernel, rfl⟩
theorem d0_270 : Fet code 270 272 (.iload 8) 2 := ⟨by decide +kernel, rfl⟩
theorem d0_272 : Brn code 272 275 279 (.if_icmp .ne 7) 7 := ⟨by decide +kernel, rfl, by decide, by decide⟩
theorem d0_275 : Fet code 275 276 (.iconst 1) 1 := ⟨by decide +kernel, rfl⟩
theorem d0_276 : Brn code 276 279 280 (.goto 4) 4 := ⟨by decide +kernel, rfl, by decide, by decide⟩
theorem d0_280 : Fet code 280 281 (.ireturn) 1 := ⟨by decide +kernel, rfl⟩
theorem d0_121 : Fet code 121 123 (.aload 14) 2 := ⟨by decide +kernel, rfl⟩
theorem d0_123 : Brn code 123 126 128 (.goto 5) 5 := ⟨by decide +kernel, rfl, by decide, by decide⟩
theorem d0_229 : Fet code 229 231 (.aload 19) 2 := ⟨by decide +kernel, rfl⟩
theorem d0_231 : Fet code 231 232 (.arraylength) 1 := ⟨by decide +kernel, rfl⟩
theorem d0_232 : Brn code 232 235 239 (.ifCond .ne 7) 7 := ⟨by decide +kernel, rfl, by decide, by decide⟩
theorem d0_235 : Fet code 235 236 (.iconst 1) 1 := ⟨by decide +kernel, rfl⟩
theorem d0_236 : Brn code 236 239 240 (.goto 4) 4 := ⟨by decide +kernel, rfl, by decide, by decide⟩
theorem d0_240 : Fet code 240 241 (.ireturn) 1 := ⟨by decide +kernel, rfl⟩
theorem d0_107 : Fet code 107 109 (.aload 12) 2 := ⟨by decide +kernel, rfl⟩
theorem d0_109 : Brn code 109 112 114 (.goto 5) 5 := ⟨by decide +kernel, rfl, by decide, by decide⟩
theorem d0_175 : Fet code 175 177 (.aload 18) 2 := ⟨by decide +kernel, rfl⟩
theorem d0_177 : Fet code 177 178 (.arraylength) 1 := ⟨by decide +kernel, rfl⟩
theorem d0_178 : Brn code 178 181 210 (.ifCond .eq 32) 32 := ⟨by decide +kernel, rfl, by decide, by decide⟩
theorem d0_26 : Fet code 26 27 (.iload_n 3) 1 := ⟨by decide +kernel, rfl⟩
theorem d0_27 : Fet code 27 28 (.iconst 1) 1 := ⟨by decide +kernel, rfl⟩
theorem d0_28 : Fet code 28 29 (.iand) 1 := ⟨by decide +kernel, rfl⟩
theorem d0_29 : Brn code 29 32 36 (.ifCond .eq 7) 7 := ⟨by decide +kernel, rfl, by decide, by decide⟩
theorem d0_36 : Fet code 36 37 (.iconst 0) 1 := ⟨by decide +kernel, rfl⟩
theorem d0_37 : Fet code 37 39 (.istore 9) 2 := ⟨by decide +kernel, rfl⟩
theorem d0_39 : Fet code 39 40 (.iload_n 3) 1 := ⟨by decide +kernel, rfl⟩
theorem d0_40 : Fet code 40 41 (.iconst 2) 1 := ⟨by decide +kernel, rfl⟩
theorem d0_41 : Fet code 41 42 (.iand) 1 := ⟨by decide +kernel, rfl⟩
theorem d0_42 : Brn code 42 45 49 (.ifCond .eq 7) 7 := ⟨by decide +kernel, rfl, by decide, by decide⟩
theorem d0_49 : Fet code 49 50 (.iconst 0) 1 := ⟨by decide +kernel, rfl⟩
theorem d0_50 : Fet code 50 52 (.istore 10) 2 := ⟨by decide +kernel, rfl⟩
theorem d0_45 : Fet code 45 46 (.iconst 1) 1 := ⟨by decide +kernel, rfl⟩
theorem d0_46 : Brn code 46 49 50 (.goto 4) 4 := ⟨by decide +kernel, rfl, by decide, by decide⟩
theorem d0_32 : Fet code 32 33 (.iconst 1) 1 := ⟨by decide +kernel, rfl⟩
theorem d0_33 : Brn code 33 36 37 (.goto 4) 4 := ⟨by decide +kernel, rfl, by decide, by decide⟩
theorem pn_com_example_idemnity_idemnity_EntryCompletedPinLaw : plainName "com/example/idemnity/idemnity/EntryCompletedPinLaw" = true := by first | (simp [plainName, overriddenIn]; done) | decide +kernel
set_option maxRecDepth 65536 in
set_option maxHeartbeats 4000000 in
theorem rm0 (l : Launch) (Z : State) (a0 : Array Value) (hw : ∀ d ∈ tables_1, d.before a0 Z = true) (n0 : Nat) (a b c fl : Int32) (h : Heap) (Z0 : n0 ≤ h.size) :
    ConV l Z n0 x code maxLocals ret tables_1 room_1 #[(.int a), (.int b), (.int c), (.int fl)] h (fun w h' => w = .int 1) := by
  refine con_of_wp (Ls := #[.val (.int a), .val (.int b), .val (.int c), .val (.int fl), .unset, .unset, .unset, .unset, .unset, .unset, .unset, .unset, .unset, .unset, .unset, .unset, .unset, .unset, .unset, .unset]) (plainFor_of_name pn_com_example_idemnity_idemnity_EntryCompletedPinLaw) (fun m => by first | (simp [entryFrame, mkF, argsToLocals, Value.category, maxLocals]; done) | rfl) ?_
  intro K ok
  replace ok : Ok Z K code "com/example/idemnity/idemnity/EntryCompletedPinLaw" "law" 20 (some .boolean) := ok
  show Wp l room_1 n0 K (fun v h' => ∃ w, v = some w ∧ w = .int 1) h 0 0 0 #[.val (.int a), .val (.int b), .val (.int c), .val (.int fl), .unset, .unset, .unset, .unset, .unset, .unset, .unset, .unset, .unset, .unset, .unset, .unset, .unset, .unset, .unset, .unset] []
  refine w_iloadN ok d0_0 rfl ?_
  refine w_i2b ok d0_1 ?_
  refine w_istore ok (Ls' := #[.val (.int a), .val (.int b), .val (.int c), .val (.int fl), .val (.int (a.toInt8.toInt32)), .unset, .unset, .unset, .unset, .unset, .unset, .unset, .unset, .unset, .unset, .unset, .unset, .unset, .unset, .unset]) d0_2 rfl ?_
  refine w_iloadN ok d0_4 rfl ?_
  refine w_bipush ok (z := 8) d0_5 rfl ?_
  refine w_ishr ok d0_7 ?_
  refine w_i2b ok d0_8 ?_
  refine w_istore ok (Ls' := #[.val (.int a), .val (.int b), .val (.int c), .val (.int fl), .val (.int (a.toInt8.toInt32)), .val (.int ((a >>> ((8 : Int32) &&& 31)).toInt8.toInt32)), .unset, .unset, .unset, .unset, .unset, .unset, .unset, .unset, .unset, .unset, .unset, .unset, .unset, .unset]) d0_9 rfl ?_
  refine w_iloadN ok d0_11 rfl ?_
  refine w_i2b ok d0_12 ?_
  refine w_istore ok (Ls' := #[.val (.int a), .val (.int b), .val (.int c), .val (.int fl), .val (.int (a.toInt8.toInt32)), .val (.int ((a >>> ((8 : Int32) &&& 31)).toInt8.toInt32)), .val (.int (b.toInt8.toInt32)), .unset, .unset, .unset, .unset, .unset, .unset, .unset, .unset, .unset, .unset, .unset, .unset, .unset]) d0_13 rfl ?_
  refine w_iloadN ok d0_15 rfl ?_
  refine w_bipush ok (z := 8) d0_16 rfl ?_
  refine w_ishr ok d0_18 ?_
  refine w_i2b ok d0_19 ?_
  refine w_istore ok (Ls' := #[.val (.int a), .val (.int b), .val (.int c), .val (.int fl), .val (.int (a.toInt8.toInt32)), .val (.int ((a >>> ((8 : Int32) &&& 31)).toInt8.toInt32)), .val (.int (b.toInt8.toInt32)), .val (.int ((b >>> ((8 : Int32) &&& 31)).toInt8.toInt32)), .unset, .unset, .unset, .unset, .unset, .unset, .unset, .unset, .unset, .unset, .unset, .unset]) d0_20 rfl ?_
  refine w_iloadN ok d0_22 rfl ?_
  refine w_i2b ok d0_23 ?_
  refine w_istore ok (Ls' := #[.val (.int a), .val (.int b), .val (.int c), .val (.int fl), .val (.int (a.toInt8.toInt32)), .val (.int ((a >>> ((8 : Int32) &&& 31)).toInt8.toInt32)), .val (.int (b.toInt8.toInt32)), .val (.int ((b >>> ((8 : Int32) &&& 31)).toInt8.toInt32)), .val (.int (c.toInt8.toInt32)), .unset, .unset, .unset, .unset, .unset, .unset, .unset, .unset, .unset, .unset, .unset]) d0_24 rfl ?_
  obtain ⟨f0, ef0, nf0⟩ : ∃ z, z = (a.toInt8.toInt32) ∧ nar .byte z = z := ⟨_, rfl, own_byte2 _⟩
  obtain ⟨f1, ef1, nf1⟩ : ∃ z, z = ((a >>> ((8 : Int32) &&& 31)).toInt8.toInt32) ∧ nar .byte z = z := ⟨_, rfl, own_byte2 _⟩
  obtain ⟨v0, ev0, nv0⟩ : ∃ z, z = (b.toInt8.toInt32) ∧ nar .byte z = z := ⟨_, rfl, own_byte2 _⟩
  obtain ⟨v1, ev1, nv1⟩ : ∃ z, z = ((b >>> ((8 : Int32) &&& 31)).toInt8.toInt32) ∧ nar .byte z = z := ⟨_, rfl, own_byte2 _⟩
  obtain ⟨v2, ev2, nv2⟩ : ∃ z, z = (c.toInt8.toInt32) ∧ nar .byte z = z := ⟨_, rfl, own_byte2 _⟩
  rw [← ef0, ← ef1, ← ev0, ← ev1, ← ev2]
  show Wp l room_1 n0 K (fun v h' => ∃ w, v = some w ∧ w = .int 1) h 0 0 26 #[.val (.int a), .val (.int b), .val (.int c), .val (.int fl), .val (.int f0), .val (.int f1), .val (.int v0), .val (.int v1), .val (.int v2), .unset, .unset, .unset, .unset, .unset, .unset, .unset, .unset, .unset, .unset, .unset] []
  have J52 : ∀ (z9 z10 : Int32) (hz9 : z9 = 0 ∨ z9 = 1) (hz10 : z10 = 0 ∨ z10 = 1), Wp l room_1 n0 K (fun v h' => ∃ w, v = some w ∧ w = .int 1) h 0 0 52 #[.val (.int a), .val (.int b), .val (.int c), .val (.int fl), .val (.int f0), .val (.int f1), .val (.int v0), .val (.int v1), .val (.int v2), .val (.int z9), .val (.int z10), .unset, .unset, .unset, .unset, .unset, .unset, .unset, .unset, .unset] [] := by
    intro z9 z10 hz9 hz10
    refine w_iconst ok (z := 2) d0_52 rfl ?_
    refine w_newarrayE ok (cap := 2) (ad := "[B") (by decide) (hw _ (List.mem_of_getElem? (i := 0) rfl)) d0_53 (by decide) (by decide) (by decide) (k' := 1) (n' := 2) rfl rfl (Nat.le_of_ble_eq_true rfl) (Nat.le_of_ble_eq_true rfl) (fun h1 b1 cA1 g1 E1 A1 G1 => ?_)
    have gn_b1 : n0 ≤ b1 := Nat.le_trans Z0 (Nat.le_of_eq g1.symm)
    have Z0 := Nat.le_trans Z0 E1.1
    have V_b1 : Ary Z h1 b1 .byte [(.int (0 : Int32)), (.int (0 : Int32))] := ary_new A1
    refine w_astore ok (Ls' := #[.val (.int a), .val (.int b), .val (.int c), .val (.int fl), .val (.int f0), .val (.int f1), .val (.int v0), .val (.int v1), .val (.int v2), .val (.int z9), .val (.int z10), .val (.ref b1), .unset, .unset, .unset, .unset, .unset, .unset, .unset, .unset]) d0_55 rfl rfl ?_
    refine w_aload ok d0_57 rfl rfl ?_
    refine w_iconst ok (z := 0) d0_59 rfl ?_
    refine w_iload ok d0_60 rfl ?_
    refine w_bastoreB' ok (i := 0) V_b1 (Nat.le_of_ble_eq_true rfl) (Nat.le_of_ble_eq_true rfl) gn_b1 d0_62 (fun h2 W2 V_b1 => ?_)
    have G1 := G1.wr W2
    have Z0 := Nat.le_trans Z0 (Keep.of_wr W2).1
    replace V_b1 : Ary Z h2 b1 .byte [(.int (nar .byte f0)), (.int (0 : Int32))] := V_b1
    refine w_aload ok d0_63 rfl rfl ?_
    refine w_iconst ok (z := 1) d0_65 rfl ?_
    refine w_iload ok d0_66 rfl ?_
    refine w_bastoreB' ok (i := 1) V_b1 (Nat.le_of_ble_eq_true rfl) (Nat.le_of_ble_eq_true rfl) gn_b1 d0_68 (fun h3 W3 V_b1 => ?_)
    have G1 := G1.wr W3
    have Z0 := Nat.le_trans Z0 (Keep.of_wr W3).1
    replace V_b1 : Ary Z h3 b1 .byte [(.int (nar .byte f0)), (.int (nar .byte f1))] := V_b1
    refine w_iconst ok (z := 0) d0_69 rfl ?_
    refine w_newarrayE ok (cap := 0) (ad := "[B") (by decide) (hw _ (List.mem_of_getElem? (i := 0) rfl)) d0_70 (by decide) (by decide) (by decide) (k' := 2) (n' := 2) rfl rfl (Nat.le_of_ble_eq_true rfl) (Nat.le_of_ble_eq_true rfl) (fun h4 b4 cA4 g4 E4 A4 G4 => ?_)
    have ne_b1_b4 : b1 ≠ b4 := Nat.ne_of_lt (Nat.lt_of_lt_of_le V_b1.lt (Nat.le_of_eq g4.symm))
    have gn_b4 : n0 ≤ b4 := Nat.le_trans Z0 (Nat.le_of_eq g4.symm)
    have Z0 := Nat.le_trans Z0 E4.1
    have V_b1 := V_b1.ext E4
    have G1 := G1.ext E4
    have V_b4 : Ary Z h4 b4 .byte [] := ary_new A4
    refine w_astore ok (Ls' := #[.val (.int a), .val (.int b), .val (.int c), .val (.int fl), .val (.int f0), .val (.int f1), .val (.int v0), .val (.int v1), .val (.int v2), .val (.int z9), .val (.int z10), .val (.ref b1), .val (.ref b4), .unset, .unset, .unset, .unset, .unset, .unset, .unset]) d0_72 rfl rfl ?_
    refine w_iconst ok (z := 3) d0_74 rfl ?_
    refine w_newarrayE ok (cap := 3) (ad := "[B") (by decide) (hw _ (List.mem_of_getElem? (i := 0) rfl)) d0_75 (by decide) (by decide) (by decide) (k' := 3) (n' := 5) rfl rfl (Nat.le_of_ble_eq_true rfl) (Nat.le_of_ble_eq_true rfl) (fun h5 b5 cA5 g5 E5 A5 G5 => ?_)
    have ne_b1_b5 : b1 ≠ b5 := Nat.ne_of_lt (Nat.lt_of_lt_of_le V_b1.lt (Nat.le_of_eq g5.symm))
    have ne_b4_b5 : b4 ≠ b5 := Nat.ne_of_lt (Nat.lt_of_lt_of_le V_b4.lt (Nat.le_of_eq g5.symm))
    have gn_b5 : n0 ≤ b5 := Nat.le_trans Z0 (Nat.le_of_eq g5.symm)
    have Z0 := Nat.le_trans Z0 E5.1
    have V_b1 := V_b1.ext E5
    have G1 := G1.ext E5
    have V_b4 := V_b4.ext E5
    have G4 := G4.ext E5
    have V_b5 : Ary Z h5 b5 .byte [(.int (0 : Int32)), (.int (0 : Int32)), (.int (0 : Int32))] := ary_new A5
    refine w_astore ok (Ls' := #[.val (.int a), .val (.int b), .val (.int c), .val (.int fl), .val (.int f0), .val (.int f1), .val (.int v0), .val (.int v1), .val (.int v2), .val (.int z9), .val (.int z10), .val (.ref b1), .val (.ref b4), .val (.ref b5), .unset, .unset, .unset, .unset, .unset, .unset]) d0_77 rfl rfl ?_
    refine w_aload ok d0_79 rfl rfl ?_
    refine w_iconst ok (z := 0) d0_81 rfl ?_
    refine w_iload ok d0_82 rfl ?_
    refine w_bastoreB' ok (i := 0) V_b5 (Nat.le_of_ble_eq_true rfl) (Nat.le_of_ble_eq_true rfl) gn_b5 d0_84 (fun h6 W6 V_b5 => ?_)
    have V_b1 := V_b1.other W6 ne_b1_b5
    have G1 := G1.wr W6
    have V_b4 := V_b4.other W6 ne_b4_b5
    have G4 := G4.wr W6
    have G5 := G5.wr W6
    have Z0 := Nat.le_trans Z0 (Keep.of_wr W6).1
    replace V_b5 : Ary Z h6 b5 .byte [(.int (nar .byte v0)), (.int (0 : Int32)), (.int (0 : Int32))] := V_b5
    refine w_aload ok d0_85 rfl rfl ?_
    refine w_iconst ok (z := 1) d0_87 rfl ?_
    refine w_iload ok d0_88 rfl ?_
    refine w_bastoreB' ok (i := 1) V_b5 (Nat.le_of_ble_eq_true rfl) (Nat.le_of_ble_eq_true rfl) gn_b5 d0_90 (fun h7 W7 V_b5 => ?_)
    have V_b1 := V_b1.other W7 ne_b1_b5
    have G1 := G1.wr W7
    have V_b4 := V_b4.other W7 ne_b4_b5
    have G4 := G4.wr W7
    have G5 := G5.wr W7
    have Z0 := Nat.le_trans Z0 (Keep.of_wr W7).1
    replace V_b5 : Ary Z h7 b5 .byte [(.int (nar .byte v0)), (.int (nar .byte v1)), (.int (0 : Int32))] := V_b5
    refine w_aload ok d0_91 rfl rfl ?_
    refine w_iconst ok (z := 2) d0_93 rfl ?_
    refine w_iload ok d0_94 rfl ?_
    refine w_bastoreB' ok (i := 2) V_b5 (Nat.le_of_ble_eq_true rfl) (Nat.le_of_ble_eq_true rfl) gn_b5 d0_96 (fun h8 W8 V_b5 => ?_)
    have V_b1 := V_b1.other W8 ne_b1_b5
    have G1 := G1.wr W8
    have V_b4 := V_b4.other W8 ne_b4_b5
    have G4 := G4.wr W8
    have G5 := G5.wr W8
    have Z0 := Nat.le_trans Z0 (Keep.of_wr W8).1
    replace V_b5 : Ary Z h8 b5 .byte [(.int (nar .byte v0)), (.int (nar .byte v1)), (.int (nar .byte v2))] := V_b5
    refine w_iconst ok (z := 0) d0_97 rfl ?_
    refine w_newarrayE ok (cap := 0) (ad := "[B") (by decide) (hw _ (List.mem_of_getElem? (i := 0) rfl)) d0_98 (by decide) (by decide) (by decide) (k' := 4) (n' := 5) rfl rfl (Nat.le_of_ble_eq_true rfl) (Nat.le_of_ble_eq_true rfl) (fun h9 b9 cA9 g9 E9 A9 G9 => ?_)
    have ne_b1_b9 : b1 ≠ b9 := Nat.ne_of_lt (Nat.lt_of_lt_of_le V_b1.lt (Nat.le_of_eq g9.symm))
    have ne_b4_b9 : b4 ≠ b9 := Nat.ne_of_lt (Nat.lt_of_lt_of_le V_b4.lt (Nat.le_of_eq g9.symm))
    have ne_b5_b9 : b5 ≠ b9 := Nat.ne_of_lt (Nat.lt_of_lt_of_le V_b5.lt (Nat.le_of_eq g9.symm))
    have gn_b9 : n0 ≤ b9 := Nat.le_trans Z0 (Nat.le_of_eq g9.symm)
    have Z0 := Nat.le_trans Z0 E9.1
    have V_b1 := V_b1.ext E9
    have G1 := G1.ext E9
    have V_b4 := V_b4.ext E9
    have G4 := G4.ext E9
    have V_b5 := V_b5.ext E9
    have G5 := G5.ext E9
    have V_b9 : Ary Z h9 b9 .byte [] := ary_new A9
    refine w_astore ok (Ls' := #[.val (.int a), .val (.int b), .val (.int c), .val (.int fl), .val (.int f0), .val (.int f1), .val (.int v0), .val (.int v1), .val (.int v2), .val (.int z9), .val (.int z10), .val (.ref b1), .val (.ref b4), .val (.ref b5), .val (.ref b9), .unset, .unset, .unset, .unset, .unset]) d0_100 rfl rfl ?_
    rw [nf0, nf1] at V_b1
    rw [nv0, nv1, nv2] at V_b5
    rcases hz10 with rfl | rfl
    · rcases hz9 with rfl | rfl
      · refine w_iload ok d0_102 rfl ?_
        refine w_if_eq ok d0_104 (fun _ => ?_) (fun q => absurd (by decide) q)
        refine w_aload ok d0_112 rfl rfl ?_
        refine w_astore ok (Ls' := #[.val (.int a), .val (.int b), .val (.int c), .val (.int fl), .val (.int f0), .val (.int f1), .val (.int v0), .val (.int v1), .val (.int v2), .val (.int (0 : Int32)), .val (.int (0 : Int32)), .val (.ref b1), .val (.ref b4), .val (.ref b5), .val (.ref b9), .val (.ref b1), .unset, .unset, .unset, .unset]) d0_114 rfl rfl ?_
        refine w_iload ok d0_116 rfl ?_
        refine w_if_eq ok d0_118 (fun _ => ?_) (fun q => absurd (by decide) q)
        refine w_aload ok d0_126 rfl rfl ?_
        refine w_astore ok (Ls' := #[.val (.int a), .val (.int b), .val (.int c), .val (.int fl), .val (.int f0), .val (.int f1), .val (.int v0), .val (.int v1), .val (.int v2), .val (.int (0 : Int32)), .val (.int (0 : Int32)), .val (.ref b1), .val (.ref b4), .val (.ref b5), .val (.ref b9), .val (.ref b1), .val (.ref b5), .unset, .unset, .unset]) d0_128 rfl rfl ?_
        refine w_aload ok d0_130 rfl rfl ?_
        refine w_aload ok d0_132 rfl rfl ?_
        refine w_callSV ok (argsL := [(.ref b1), (.ref b5)]) (rest := []) (hw _ (List.mem_of_getElem? (i := 1) rfl)) (hw _ (List.mem_of_getElem? (i := 2) rfl)) (hw _ (List.mem_of_getElem? (i := 3) rfl)) (hw _ (List.mem_of_getElem? (i := 4) rfl)) (by decide) (rmC l Z a0 hw n0 b1 b5 h9 Z0 G1 G5) d0_134 (lenOf pd__ArBArB_Lcom_example_idemnity_idemnity_IdempotencyStore_Entry_ rfl) rfl rfl (Nat.le_of_ble_eq_true rfl) (Nat.le_of_ble_eq_true rfl) (k' := 9) (n' := 79) rfl rfl (Nat.le_of_ble_eq_true rfl) (Nat.le_of_ble_eq_true rfl) ?_
        rintro _ hc ⟨o, rfl, gn_o, Kc, E_o, F_f, F_v⟩
        have V_b1 := V_b1.keep Kc nin0
        have G1 := G1.keep Kc
        have V_b4 := V_b4.keep Kc nin0
        have G4 := G4.keep Kc
        have V_b5 := V_b5.keep Kc nin0
        have G5 := G5.keep Kc
        have V_b9 := V_b9.keep Kc nin0
        have G9 := G9.keep Kc
        have Z0 := Nat.le_trans Z0 Kc.1
        refine w_astore ok (Ls' := #[.val (.int a), .val (.int b), .val (.int c), .val (.int fl), .val (.int f0), .val (.int f1), .val (.int v0), .val (.int v1), .val (.int v2), .val (.int (0 : Int32)), .val (.int (0 : Int32)), .val (.ref b1), .val (.ref b4), .val (.ref b5), .val (.ref b9), .val (.ref b1), .val (.ref b5), .val (.ref o), .unset, .unset]) d0_137 rfl rfl ?_
        refine w_aload ok d0_139 rfl rfl ?_
        refine w_ifnonnull_yes ok d0_141 ?_
        refine w_aload ok d0_146 rfl rfl ?_
        refine w_virtV ok (argsL := []) (rest := []) (hw _ (List.mem_of_getElem? (i := 31) rfl)) (hw _ (List.mem_of_getElem? (i := 32) rfl)) (hw _ (List.mem_of_getElem? (i := 34) rfl)) (hw _ (List.mem_of_getElem? (i := 33) rfl)) (hw _ (List.mem_of_getElem? (i := 3) rfl)) (hw _ (List.mem_of_getElem? (i := 35) rfl)) E_o (by decide) (rmP l Z a0 hw n0 o b5 hc F_v) d0_148 (lenOf pd___Z rfl) rfl rfl (Nat.le_of_ble_eq_true rfl) (Nat.le_of_ble_eq_true rfl) (k' := 9) (n' := 79) rfl rfl (Nat.le_of_ble_eq_true rfl) (Nat.le_of_ble_eq_true rfl) ?_
        rintro _ _ ⟨rfl, rfl⟩
        refine w_if_ne ok d0_151 (fun _ => ?_) (fun q => absurd q (by decide))
        refine w_aload ok d0_156 rfl rfl ?_
        refine w_virtV ok (argsL := []) (rest := []) (hw _ (List.mem_of_getElem? (i := 36) rfl)) (hw _ (List.mem_of_getElem? (i := 37) rfl)) (hw _ (List.mem_of_getElem? (i := 39) rfl)) (hw _ (List.mem_of_getElem? (i := 38) rfl)) (hw _ (List.mem_of_getElem? (i := 3) rfl)) (hw _ (List.mem_of_getElem? (i := 40) rfl)) E_o (by decide) (rmG l Z a0 hw n0 o b1 hc F_f) d0_158 (lenOf pd___ArB rfl) rfl rfl (Nat.le_of_ble_eq_true rfl) (Nat.le_of_ble_eq_true rfl) (k' := 9) (n' := 79) rfl rfl (Nat.le_of_ble_eq_true rfl) (Nat.le_of_ble_eq_true rfl) ?_
        rintro _ _ ⟨rfl, rfl⟩
        refine w_astore ok (Ls' := #[.val (.int a), .val (.int b), .val (.int c), .val (.int fl), .val (.int f0), .val (.int f1), .val (.int v0), .val (.int v1), .val (.int v2), .val (.int (0 : Int32)), .val (.int (0 : Int32)), .val (.ref b1), .val (.ref b4), .val (.ref b5), .val (.ref b9), .val (.ref b1), .val (.ref b5), .val (.ref o), .val (.ref b1), .unset]) d0_161 rfl rfl ?_
        refine w_aload ok d0_163 rfl rfl ?_
        refine w_ifnonnull_yes ok d0_165 ?_
        refine w_iload ok d0_170 rfl ?_
        refine w_if_eq ok d0_172 (fun _ => ?_) (fun q => absurd (by decide) q)
        refine w_aload ok d0_183 rfl rfl ?_
        refine w_arraylength ok V_b1 d0_185 ?_
        refine w_int (b := 2) rfl ?_
        refine w_iconst ok (z := 2) d0_186 rfl ?_
        refine w_ic_ne ok d0_187 (fun q => absurd (by decide) q) (fun _ => ?_)
        refine w_aload ok d0_190 rfl rfl ?_
        refine w_iconst ok (z := 0) d0_192 rfl ?_
        refine w_baloadB ok (i := 0) V_b1 (Nat.le_of_ble_eq_true rfl) rfl d0_193 ?_
        refine w_iload ok d0_194 rfl ?_
        refine w_ic_ne ok d0_196 (fun qq => ?_) (fun qq => ?_)
        · exact absurd rfl qq
        · refine w_aload ok d0_199 rfl rfl ?_
          refine w_iconst ok (z := 1) d0_201 rfl ?_
          refine w_baloadB ok (i := 1) V_b1 (Nat.le_of_ble_eq_true rfl) rfl d0_202 ?_
          refine w_iload ok d0_203 rfl ?_
          refine w_ic_eq ok d0_205 (fun qq => ?_) (fun qq => ?_)
          · refine w_aload ok d0_210 rfl rfl ?_
            refine w_virtV ok (argsL := []) (rest := []) (hw _ (List.mem_of_getElem? (i := 41) rfl)) (hw _ (List.mem_of_getElem? (i := 42) rfl)) (hw _ (List.mem_of_getElem? (i := 44) rfl)) (hw _ (List.mem_of_getElem? (i := 43) rfl)) (hw _ (List.mem_of_getElem? (i := 3) rfl)) (hw _ (List.mem_of_getElem? (i := 45) rfl)) E_o (by decide) (rmV l Z a0 hw n0 o b5 hc F_v) d0_212 (lenOf pd___ArB rfl) rfl rfl (Nat.le_of_ble_eq_true rfl) (Nat.le_of_ble_eq_true rfl) (k' := 9) (n' := 79) rfl rfl (Nat.le_of_ble_eq_true rfl) (Nat.le_of_ble_eq_true rfl) ?_
            rintro _ _ ⟨rfl, rfl⟩
            refine w_astore ok (Ls' := #[.val (.int a), .val (.int b), .val (.int c), .val (.int fl), .val (.int f0), .val (.int f1), .val (.int v0), .val (.int v1), .val (.int v2), .val (.int (0 : Int32)), .val (.int (0 : Int32)), .val (.ref b1), .val (.ref b4), .val (.ref b5), .val (.ref b9), .val (.ref b1), .val (.ref b5), .val (.ref o), .val (.ref b1), .val (.ref b5)]) d0_215 rfl rfl ?_
            refine w_aload ok d0_217 rfl rfl ?_
            refine w_ifnonnull_yes ok d0_219 ?_
            refine w_iload ok d0_224 rfl ?_
            refine w_if_eq ok d0_226 (fun _ => ?_) (fun q => absurd (by decide) q)
            refine w_aload ok d0_241 rfl rfl ?_
            refine w_arraylength ok V_b5 d0_243 ?_
            refine w_int (b := 3) rfl ?_
            refine w_iconst ok (z := 3) d0_244 rfl ?_
            refine w_ic_ne ok d0_245 (fun q => absurd (by decide) q) (fun _ => ?_)
            refine w_aload ok d0_248 rfl rfl ?_
            refine w_iconst ok (z := 0) d0_250 rfl ?_
            refine w_baloadB ok (i := 0) V_b5 (Nat.le_of_ble_eq_true rfl) rfl d0_251 ?_
            refine w_iload ok d0_252 rfl ?_
            refine w_ic_ne ok d0_254 (fun qq => ?_) (fun qq => ?_)
            · exact absurd rfl qq
            · refine w_aload ok d0_257 rfl rfl ?_
              refine w_iconst ok (z := 1) d0_259 rfl ?_
              refine w_baloadB ok (i := 1) V_b5 (Nat.le_of_ble_eq_true rfl) rfl d0_260 ?_
              refine w_iload ok d0_261 rfl ?_
              refine w_ic_ne ok d0_263 (fun qq => ?_) (fun qq => ?_)
              · exact absurd rfl qq
              · refine w_aload ok d0_266 rfl rfl ?_
                refine w_iconst ok (z := 2) d0_268 rfl ?_
                refine w_baloadB ok (i := 2) V_b5 (Nat.le_of_ble_eq_true rfl) rfl d0_269 ?_
                refine w_iload ok d0_270 rfl ?_
                refine w_ic_ne ok d0_272 (fun qq => ?_) (fun qq => ?_)
                · exact absurd rfl qq
                · refine w_iconst ok (z := 1) d0_275 rfl ?_
                  refine w_goto ok d0_276 ?_
                  refine w_ireturnN ok (by simp) d0_280 (Nat.le_of_ble_eq_true rfl) (Nat.le_of_ble_eq_true rfl) ?_
                  exact ⟨_, rfl, rfl⟩
          · exact absurd rfl qq
      · refine w_iload ok d0_102 rfl ?_
        refine w_if_eq ok d0_104 (fun _ => ?_) (fun q => absurd (by decide) q)
        refine w_aload ok d0_112 rfl rfl ?_
        refine w_astore ok (Ls' := #[.val (.int a), .val (.int b), .val (.int c), .val (.int fl), .val (.int f0), .val (.int f1), .val (.int v0), .val (.int v1), .val (.int v2), .val (.int (1 : Int32)), .val (.int (0 : Int32)), .val (.ref b1), .val (.ref b4), .val (.ref b5), .val (.ref b9), .val (.ref b1), .unset, .unset, .unset, .unset]) d0_114 rfl rfl ?_
        refine w_iload ok d0_116 rfl ?_
        refine w_if_eq ok d0_118 (fun q => absurd q (by decide)) (fun _ => ?_)
        refine w_aload ok d0_121 rfl rfl ?_
        refine w_goto ok d0_123 ?_
        refine w_astore ok (Ls' := #[.val (.int a), .val (.int b), .val (.int c), .val (.int fl), .val (.int f0), .val (.int f1), .val (.int v0), .val (.int v1), .val (.int v2), .val (.int (1 : Int32)), .val (.int (0 : Int32)), .val (.ref b1), .val (.ref b4), .val (.ref b5), .val (.ref b9), .val (.ref b1), .val (.ref b9), .unset, .unset, .unset]) d0_128 rfl rfl ?_
        refine w_aload ok d0_130 rfl rfl ?_
        refine w_aload ok d0_132 rfl rfl ?_
        refine w_callSV ok (argsL := [(.ref b1), (.ref b9)]) (rest := []) (hw _ (List.mem_of_getElem? (i := 1) rfl)) (hw _ (List.mem_of_getElem? (i := 2) rfl)) (hw _ (List.mem_of_getElem? (i := 3) rfl)) (hw _ (List.mem_of_getElem? (i := 4) rfl)) (by decide) (rmC l Z a0 hw n0 b1 b9 h9 Z0 G1 G9) d0_134 (lenOf pd__ArBArB_Lcom_example_idemnity_idemnity_IdempotencyStore_Entry_ rfl) rfl rfl (Nat.le_of_ble_eq_true rfl) (Nat.le_of_ble_eq_true rfl) (k' := 9) (n' := 79) rfl rfl (Nat.le_of_ble_eq_true rfl) (Nat.le_of_ble_eq_true rfl) ?_
        rintro _ hc ⟨o, rfl, gn_o, Kc, E_o, F_f, F_v⟩
        have V_b1 := V_b1.keep Kc nin0
        have G1 := G1.keep Kc
        have V_b4 := V_b4.keep Kc nin0
        have G4 := G4.keep Kc
        have V_b5 := V_b5.keep Kc nin0
        have G5 := G5.keep Kc
        have V_b9 := V_b9.keep Kc nin0
        have G9 := G9.keep Kc
        have Z0 := Nat.le_trans Z0 Kc.1
        refine w_astore ok (Ls' := #[.val (.int a), .val (.int b), .val (.int c), .val (.int fl), .val (.int f0), .val (.int f1), .val (.int v0), .val (.int v1), .val (.int v2), .val (.int (1 : Int32)), .val (.int (0 : Int32)), .val (.ref b1), .val (.ref b4), .val (.ref b5), .val (.ref b9), .val (.ref b1), .val (.ref b9), .val (.ref o), .unset, .unset]) d0_137 rfl rfl ?_
        refine w_aload ok d0_139 rfl rfl ?_
        refine w_ifnonnull_yes ok d0_141 ?_
        refine w_aload ok d0_146 rfl rfl ?_
        refine w_virtV ok (argsL := []) (rest := []) (hw _ (List.mem_of_getElem? (i := 31) rfl)) (hw _ (List.mem_of_getElem? (i := 32) rfl)) (hw _ (List.mem_of_getElem? (i := 34) rfl)) (hw _ (List.mem_of_getElem? (i := 33) rfl)) (hw _ (List.mem_of_getElem? (i := 3) rfl)) (hw _ (List.mem_of_getElem? (i := 35) rfl)) E_o (by decide) (rmP l Z a0 hw n0 o b9 hc F_v) d0_148 (lenOf pd___Z rfl) rfl rfl (Nat.le_of_ble_eq_true rfl) (Nat.le_of_ble_eq_true rfl) (k' := 9) (n' := 79) rfl rfl (Nat.le_of_ble_eq_true rfl) (Nat.le_of_ble_eq_true rfl) ?_
        rintro _ _ ⟨rfl, rfl⟩
        refine w_if_ne ok d0_151 (fun _ => ?_) (fun q => absurd q (by decide))
        refine w_aload ok d0_156 rfl rfl ?_
        refine w_virtV ok (argsL := []) (rest := []) (hw _ (List.mem_of_getElem? (i := 36) rfl)) (hw _ (List.mem_of_getElem? (i := 37) rfl)) (hw _ (List.mem_of_getElem? (i := 39) rfl)) (hw _ (List.mem_of_getElem? (i := 38) rfl)) (hw _ (List.mem_of_getElem? (i := 3) rfl)) (hw _ (List.mem_of_getElem? (i := 40) rfl)) E_o (by decide) (rmG l Z a0 hw n0 o b1 hc F_f) d0_158 (lenOf pd___ArB rfl) rfl rfl (Nat.le_of_ble_eq_true rfl) (Nat.le_of_ble_eq_true rfl) (k' := 9) (n' := 79) rfl rfl (Nat.le_of_ble_eq_true rfl) (Nat.le_of_ble_eq_true rfl) ?_
        rintro _ _ ⟨rfl, rfl⟩
        refine w_astore ok (Ls' := #[.val (.int a), .val (.int b), .val (.int c), .val (.int fl), .val (.int f0), .val (.int f1), .val (.int v0), .val (.int v1), .val (.int v2), .val (.int (1 : Int32)), .val (.int (0 : Int32)), .val (.ref b1), .val (.ref b4), .val (.ref b5), .val (.ref b9), .val (.ref b1), .val (.ref b9), .val (.ref o), .val (.ref b1), .unset]) d0_161 rfl rfl ?_
        refine w_aload ok d0_163 rfl rfl ?_
        refine w_ifnonnull_yes ok d0_165 ?_
        refine w_iload ok d0_170 rfl ?_
        refine w_if_eq ok d0_172 (fun _ => ?_) (fun q => absurd (by decide) q)
        refine w_aload ok d0_183 rfl rfl ?_
        refine w_arraylength ok V_b1 d0_185 ?_
        refine w_int (b := 2) rfl ?_
        refine w_iconst ok (z := 2) d0_186 rfl ?_
        refine w_ic_ne ok d0_187 (fun q => absurd (by decide) q) (fun _ => ?_)
        refine w_aload ok d0_190 rfl rfl ?_
        refine w_iconst ok (z := 0) d0_192 rfl ?_
        refine w_baloadB ok (i := 0) V_b1 (Nat.le_of_ble_eq_true rfl) rfl d0_193 ?_
        refine w_iload ok d0_194 rfl ?_
        refine w_ic_ne ok d0_196 (fun qq => ?_) (fun qq => ?_)
        · exact absurd rfl qq
        · refine w_aload ok d0_199 rfl rfl ?_
          refine w_iconst ok (z := 1) d0_201 rfl ?_
          refine w_baloadB ok (i := 1) V_b1 (Nat.le_of_ble_eq_true rfl) rfl d0_202 ?_
          refine w_iload ok d0_203 rfl ?_
          refine w_ic_eq ok d0_205 (fun qq => ?_) (fun qq => ?_)
          · refine w_aload ok d0_210 rfl rfl ?_
            refine w_virtV ok (argsL := []) (rest := []) (hw _ (List.mem_of_getElem? (i := 41) rfl)) (hw _ (List.mem_of_getElem? (i := 42) rfl)) (hw _ (List.mem_of_getElem? (i := 44) rfl)) (hw _ (List.mem_of_getElem? (i := 43) rfl)) (hw _ (List.mem_of_getElem? (i := 3) rfl)) (hw _ (List.mem_of_getElem? (i := 45) rfl)) E_o (by decide) (rmV l Z a0 hw n0 o b9 hc F_v) d0_212 (lenOf pd___ArB rfl) rfl rfl (Nat.le_of_ble_eq_true rfl) (Nat.le_of_ble_eq_true rfl) (k' := 9) (n' := 79) rfl rfl (Nat.le_of_ble_eq_true rfl) (Nat.le_of_ble_eq_true rfl) ?_
            rintro _ _ ⟨rfl, rfl⟩
            refine w_astore ok (Ls' := #[.val (.int a), .val (.int b), .val (.int c), .val (.int fl), .val (.int f0), .val (.int f1), .val (.int v0), .val (.int v1), .val (.int v2), .val (.int (1 : Int32)), .val (.int (0 : Int32)), .val (.ref b1), .val (.ref b4), .val (.ref b5), .val (.ref b9), .val (.ref b1), .val (.ref b9), .val (.ref o), .val (.ref b1), .val (.ref b9)]) d0_215 rfl rfl ?_
            refine w_aload ok d0_217 rfl rfl ?_
            refine w_ifnonnull_yes ok d0_219 ?_
            refine w_iload ok d0_224 rfl ?_
            refine w_if_eq ok d0_226 (fun q => absurd q (by decide)) (fun _ => ?_)
            refine w_aload ok d0_229 rfl rfl ?_
            refine w_arraylength ok V_b9 d0_231 ?_
            refine w_int (b := 0) rfl ?_
            refine w_if_ne ok d0_232 (fun q => absurd (by decide) q) (fun _ => ?_)
            refine w_iconst ok (z := 1) d0_235 rfl ?_
            refine w_goto ok d0_236 ?_
            refine w_ireturnN ok (by simp) d0_240 (Nat.le_of_ble_eq_true rfl) (Nat.le_of_ble_eq_true rfl) ?_
            exact ⟨_, rfl, rfl⟩
          · exact absurd rfl qq
    · rcases hz9 with rfl | rfl
      · refine w_iload ok d0_102 rfl ?_
        refine w_if_eq ok d0_104 (fun q => absurd q (by decide)) (fun _ => ?_)
        refine w_aload ok d0_107 rfl rfl ?_
        refine w_goto ok d0_109 ?_
        refine w_astore ok (Ls' := #[.val (.int a), .val (.int b), .val (.int c), .val (.int fl), .val (.int f0), .val (.int f1), .val (.int v0), .val (.int v1), .val (.int v2), .val (.int (0 : Int32)), .val (.int (1 : Int32)), .val (.ref b1), .val (.ref b4), .val (.ref b5), .val (.ref b9), .val (.ref b4), .unset, .unset, .unset, .unset]) d0_114 rfl rfl ?_
        refine w_iload ok d0_116 rfl ?_
        refine w_if_eq ok d0_118 (fun _ => ?_) (fun q => absurd (by decide) q)
        refine w_aload ok d0_126 rfl rfl ?_
        refine w_astore ok (Ls' := #[.val (.int a), .val (.int b), .val (.int c), .val (.int fl), .val (.int f0), .val (.int f1), .val (.int v0), .val (.int v1), .val (.int v2), .val (.int (0 : Int32)), .val (.int (1 : Int32)), .val (.ref b1), .val (.ref b4), .val (.ref b5), .val (.ref b9), .val (.ref b4), .val (.ref b5), .unset, .unset, .unset]) d0_128 rfl rfl ?_
        refine w_aload ok d0_130 rfl rfl ?_
        refine w_aload ok d0_132 rfl rfl ?_
        refine w_callSV ok (argsL := [(.ref b4), (.ref b5)]) (rest := []) (hw _ (List.mem_of_getElem? (i := 1) rfl)) (hw _ (List.mem_of_getElem? (i := 2) rfl)) (hw _ (List.mem_of_getElem? (i := 3) rfl)) (hw _ (List.mem_of_getElem? (i := 4) rfl)) (by decide) (rmC l Z a0 hw n0 b4 b5 h9 Z0 G4 G5) d0_134 (lenOf pd__ArBArB_Lcom_example_idemnity_idemnity_IdempotencyStore_Entry_ rfl) rfl rfl (Nat.le_of_ble_eq_true rfl) (Nat.le_of_ble_eq_true rfl) (k' := 9) (n' := 79) rfl rfl (Nat.le_of_ble_eq_true rfl) (Nat.le_of_ble_eq_true rfl) ?_
        rintro _ hc ⟨o, rfl, gn_o, Kc, E_o, F_f, F_v⟩
        have V_b1 := V_b1.keep Kc nin0
        have G1 := G1.keep Kc
        have V_b4 := V_b4.keep Kc nin0
        have G4 := G4.keep Kc
        have V_b5 := V_b5.keep Kc nin0
        have G5 := G5.keep Kc
        have V_b9 := V_b9.keep Kc nin0
        have G9 := G9.keep Kc
        have Z0 := Nat.le_trans Z0 Kc.1
        refine w_astore ok (Ls' := #[.val (.int a), .val (.int b), .val (.int c), .val (.int fl), .val (.int f0), .val (.int f1), .val (.int v0), .val (.int v1), .val (.int v2), .val (.int (0 : Int32)), .val (.int (1 : Int32)), .val (.ref b1), .val (.ref b4), .val (.ref b5), .val (.ref b9), .val (.ref b4), .val (.ref b5), .val (.ref o), .unset, .unset]) d0_137 rfl rfl ?_
        refine w_aload ok d0_139 rfl rfl ?_
        refine w_ifnonnull_yes ok d0_141 ?_
        refine w_aload ok d0_146 rfl rfl ?_
        refine w_virtV ok (argsL := []) (rest := []) (hw _ (List.mem_of_getElem? (i := 31) rfl)) (hw _ (List.mem_of_getElem? (i := 32) rfl)) (hw _ (List.mem_of_getElem? (i := 34) rfl)) (hw _ (List.mem_of_getElem? (i := 33) rfl)) (hw _ (List.mem_of_getElem? (i := 3) rfl)) (hw _ (List.mem_of_getElem? (i := 35) rfl)) E_o (by decide) (rmP l Z a0 hw n0 o b5 hc F_v) d0_148 (lenOf pd___Z rfl) rfl rfl (Nat.le_of_ble_eq_true rfl) (Nat.le_of_ble_eq_true rfl) (k' := 9) (n' := 79) rfl rfl (Nat.le_of_ble_eq_true rfl) (Nat.le_of_ble_eq_true rfl) ?_
        rintro _ _ ⟨rfl, rfl⟩
        refine w_if_ne ok d0_151 (fun _ => ?_) (fun q => absurd q (by decide))
        refine w_aload ok d0_156 rfl rfl ?_
        refine w_virtV ok (argsL := []) (rest := []) (hw _ (List.mem_of_getElem? (i := 36) rfl)) (hw _ (List.mem_of_getElem? (i := 37) rfl)) (hw _ (List.mem_of_getElem? (i := 39) rfl)) (hw _ (List.mem_of_getElem? (i := 38) rfl)) (hw _ (List.mem_of_getElem? (i := 3) rfl)) (hw _ (List.mem_of_getElem? (i := 40) rfl)) E_o (by decide) (rmG l Z a0 hw n0 o b4 hc F_f) d0_158 (lenOf pd___ArB rfl) rfl rfl (Nat.le_of_ble_eq_true rfl) (Nat.le_of_ble_eq_true rfl) (k' := 9) (n' := 79) rfl rfl (Nat.le_of_ble_eq_true rfl) (Nat.le_of_ble_eq_true rfl) ?_
        rintro _ _ ⟨rfl, rfl⟩
        refine w_astore ok (Ls' := #[.val (.int a), .val (.int b), .val (.int c), .val (.int fl), .val (.int f0), .val (.int f1), .val (.int v0), .val (.int v1), .val (.int v2), .val (.int (0 : Int32)), .val (.int (1 : Int32)), .val (.ref b1), .val (.ref b4), .val (.ref b5), .val (.ref b9), .val (.ref b4), .val (.ref b5), .val (.ref o), .val (.ref b4), .unset]) d0_161 rfl rfl ?_
        refine w_aload ok d0_163 rfl rfl ?_
        refine w_ifnonnull_yes ok d0_165 ?_
        refine w_iload ok d0_170 rfl ?_
        refine w_if_eq ok d0_172 (fun q => absurd q (by decide)) (fun _ => ?_)
        refine w_aload ok d0_175 rfl rfl ?_
        refine w_arraylength ok V_b4 d0_177 ?_
        refine w_int (b := 0) rfl ?_
        refine w_if_eq ok d0_178 (fun _ => ?_) (fun q => absurd (by decide) q)
        refine w_aload ok d0_210 rfl rfl ?_
        refine w_virtV ok (argsL := []) (rest := []) (hw _ (List.mem_of_getElem? (i := 41) rfl)) (hw _ (List.mem_of_getElem? (i := 42) rfl)) (hw _ (List.mem_of_getElem? (i := 44) rfl)) (hw _ (List.mem_of_getElem? (i := 43) rfl)) (hw _ (List.mem_of_getElem? (i := 3) rfl)) (hw _ (List.mem_of_getElem? (i := 45) rfl)) E_o (by decide) (rmV l Z a0 hw n0 o b5 hc F_v) d0_212 (lenOf pd___ArB rfl) rfl rfl (Nat.le_of_ble_eq_true rfl) (Nat.le_of_ble_eq_true rfl) (k' := 9) (n' := 79) rfl rfl (Nat.le_of_ble_eq_true rfl) (Nat.le_of_ble_eq_true rfl) ?_
        rintro _ _ ⟨rfl, rfl⟩
        refine w_astore ok (Ls' := #[.val (.int a), .val (.int b), .val (.int c), .val (.int fl), .val (.int f0), .val (.int f1), .val (.int v0), .val (.int v1), .val (.int v2), .val (.int (0 : Int32)), .val (.int (1 : Int32)), .val (.ref b1), .val (.ref b4), .val (.ref b5), .val (.ref b9), .val (.ref b4), .val (.ref b5), .val (.ref o), .val (.ref b4), .val (.ref b5)]) d0_215 rfl rfl ?_
        refine w_aload ok d0_217 rfl rfl ?_
        refine w_ifnonnull_yes ok d0_219 ?_
        refine w_iload ok d0_224 rfl ?_
        refine w_if_eq ok d0_226 (fun _ => ?_) (fun q => absurd (by decide) q)
        refine w_aload ok d0_241 rfl rfl ?_
        refine w_arraylength ok V_b5 d0_243 ?_
        refine w_int (b := 3) rfl ?_
        refine w_iconst ok (z := 3) d0_244 rfl ?_
        refine w_ic_ne ok d0_245 (fun q => absurd (by decide) q) (fun _ => ?_)
        refine w_aload ok d0_248 rfl rfl ?_
        refine w_iconst ok (z := 0) d0_250 rfl ?_
        refine w_baloadB ok (i := 0) V_b5 (Nat.le_of_ble_eq_true rfl) rfl d0_251 ?_
        refine w_iload ok d0_252 rfl ?_
        refine w_ic_ne ok d0_254 (fun qq => ?_) (fun qq => ?_)
        · exact absurd rfl qq
        · refine w_aload ok d0_257 rfl rfl ?_
          refine w_iconst ok (z := 1) d0_259 rfl ?_
          refine w_baloadB ok (i := 1) V_b5 (Nat.le_of_ble_eq_true rfl) rfl d0_260 ?_
          refine w_iload ok d0_261 rfl ?_
          refine w_ic_ne ok d0_263 (fun qq => ?_) (fun qq => ?_)
          · exact absurd rfl qq
          · refine w_aload ok d0_266 rfl rfl ?_
            refine w_iconst ok (z := 2) d0_268 rfl ?_
            refine w_baloadB ok (i := 2) V_b5 (Nat.le_of_ble_eq_true rfl) rfl d0_269 ?_
            refine w_iload ok d0_270 rfl ?_
            refine w_ic_ne ok d0_272 (fun qq => ?_) (fun qq => ?_)
            · exact absurd rfl qq
            · refine w_iconst ok (z := 1) d0_275 rfl ?_
              refine w_goto ok d0_276 ?_
              refine w_ireturnN ok (by simp) d0_280 (Nat.le_of_ble_eq_true rfl) (Nat.le_of_ble_eq_true rfl) ?_
              exact ⟨_, rfl, rfl⟩
      · refine w_iload ok d0_102 rfl ?_
        refine w_if_eq ok d0_104 (fun q => absurd q (by decide)) (fun _ => ?_)
        refine w_aload ok d0_107 rfl rfl ?_
        refine w_goto ok d0_109 ?_
        refine w_astore ok (Ls' := #[.val (.int a), .val (.int b), .val (.int c), .val (.int fl), .val (.int f0), .val (.int f1), .val (.int v0), .val (.int v1), .val (.int v2), .val (.int (1 : Int32)), .val (.int (1 : Int32)), .val (.ref b1), .val (.ref b4), .val (.ref b5), .val (.ref b9), .val (.ref b4), .unset, .unset, .unset, .unset]) d0_114 rfl rfl ?_
        refine w_iload ok d0_116 rfl ?_
        refine w_if_eq ok d0_118 (fun q => absurd q (by decide)) (fun _ => ?_)
        refine w_aload ok d0_121 rfl rfl ?_
        refine w_goto ok d0_123 ?_
        refine w_astore ok (Ls' := #[.val (.int a), .val (.int b), .val (.int c), .val (.int fl), .val (.int f0), .val (.int f1), .val (.int v0), .val (.int v1), .val (.int v2), .val (.int (1 : Int32)), .val (.int (1 : Int32)), .val (.ref b1), .val (.ref b4), .val (.ref b5), .val (.ref b9), .val (.ref b4), .val (.ref b9), .unset, .unset, .unset]) d0_128 rfl rfl ?_
        refine w_aload ok d0_130 rfl rfl ?_
        refine w_aload ok d0_132 rfl rfl ?_
        refine w_callSV ok (argsL := [(.ref b4), (.ref b9)]) (rest := []) (hw _ (List.mem_of_getElem? (i := 1) rfl)) (hw _ (List.mem_of_getElem? (i := 2) rfl)) (hw _ (List.mem_of_getElem? (i := 3) rfl)) (hw _ (List.mem_of_getElem? (i := 4) rfl)) (by decide) (rmC l Z a0 hw n0 b4 b9 h9 Z0 G4 G9) d0_134 (lenOf pd__ArBArB_Lcom_example_idemnity_idemnity_IdempotencyStore_Entry_ rfl) rfl rfl (Nat.le_of_ble_eq_true rfl) (Nat.le_of_ble_eq_true rfl) (k' := 9) (n' := 79) rfl rfl (Nat.le_of_ble_eq_true rfl) (Nat.le_of_ble_eq_true rfl) ?_
        rintro _ hc ⟨o, rfl, gn_o, Kc, E_o, F_f, F_v⟩
        have V_b1 := V_b1.keep Kc nin0
        have G1 := G1.keep Kc
        have V_b4 := V_b4.keep Kc nin0
        have G4 := G4.keep Kc
        have V_b5 := V_b5.keep Kc nin0
        have G5 := G5.keep Kc
        have V_b9 := V_b9.keep Kc nin0
        have G9 := G9.keep Kc
        have Z0 := Nat.le_trans Z0 Kc.1
        refine w_astore ok (Ls' := #[.val (.int a), .val (.int b), .val (.int c), .val (.int fl), .val (.int f0), .val (.int f1), .val (.int v0), .val (.int v1), .val (.int v2), .val (.int (1 : Int32)), .val (.int (1 : Int32)), .val (.ref b1), .val (.ref b4), .val (.ref b5), .val (.ref b9), .val (.ref b4), .val (.ref b9), .val (.ref o), .unset, .unset]) d0_137 rfl rfl ?_
        refine w_aload ok d0_139 rfl rfl ?_
        refine w_ifnonnull_yes ok d0_141 ?_
        refine w_aload ok d0_146 rfl rfl ?_
        refine w_virtV ok (argsL := []) (rest := []) (hw _ (List.mem_of_getElem? (i := 31) rfl)) (hw _ (List.mem_of_getElem? (i := 32) rfl)) (hw _ (List.mem_of_getElem? (i := 34) rfl)) (hw _ (List.mem_of_getElem? (i := 33) rfl)) (hw _ (List.mem_of_getElem? (i := 3) rfl)) (hw _ (List.mem_of_getElem? (i := 35) rfl)) E_o (by decide) (rmP l Z a0 hw n0 o b9 hc F_v) d0_148 (lenOf pd___Z rfl) rfl rfl (Nat.le_of_ble_eq_true rfl) (Nat.le_of_ble_eq_true rfl) (k' := 9) (n' := 79) rfl rfl (Nat.le_of_ble_eq_true rfl) (Nat.le_of_ble_eq_true rfl) ?_
        rintro _ _ ⟨rfl, rfl⟩
        refine w_if_ne ok d0_151 (fun _ => ?_) (fun q => absurd q (by decide))
        refine w_aload ok d0_156 rfl rfl ?_
        refine w_virtV ok (argsL := []) (rest := []) (hw _ (List.mem_of_getElem? (i := 36) rfl)) (hw _ (List.mem_of_getElem? (i := 37) rfl)) (hw _ (List.mem_of_getElem? (i := 39) rfl)) (hw _ (List.mem_of_getElem? (i := 38) rfl)) (hw _ (List.mem_of_getElem? (i := 3) rfl)) (hw _ (List.mem_of_getElem? (i := 40) rfl)) E_o (by decide) (rmG l Z a0 hw n0 o b4 hc F_f) d0_158 (lenOf pd___ArB rfl) rfl rfl (Nat.le_of_ble_eq_true rfl) (Nat.le_of_ble_eq_true rfl) (k' := 9) (n' := 79) rfl rfl (Nat.le_of_ble_eq_true rfl) (Nat.le_of_ble_eq_true rfl) ?_
        rintro _ _ ⟨rfl, rfl⟩
        refine w_astore ok (Ls' := #[.val (.int a), .val (.int b), .val (.int c), .val (.int fl), .val (.int f0), .val (.int f1), .val (.int v0), .val (.int v1), .val (.int v2), .val (.int (1 : Int32)), .val (.int (1 : Int32)), .val (.ref b1), .val (.ref b4), .val (.ref b5), .val (.ref b9), .val (.ref b4), .val (.ref b9), .val (.ref o), .val (.ref b4), .unset]) d0_161 rfl rfl ?_
        refine w_aload ok d0_163 rfl rfl ?_
        refine w_ifnonnull_yes ok d0_165 ?_
        refine w_iload ok d0_170 rfl ?_
        refine w_if_eq ok d0_172 (fun q => absurd q (by decide)) (fun _ => ?_)
        refine w_aload ok d0_175 rfl rfl ?_
        refine w_arraylength ok V_b4 d0_177 ?_
        refine w_int (b := 0) rfl ?_
        refine w_if_eq ok d0_178 (fun _ => ?_) (fun q => absurd (by decide) q)
        refine w_aload ok d0_210 rfl rfl ?_
        refine w_virtV ok (argsL := []) (rest := []) (hw _ (List.mem_of_getElem? (i := 41) rfl)) (hw _ (List.mem_of_getElem? (i := 42) rfl)) (hw _ (List.mem_of_getElem? (i := 44) rfl)) (hw _ (List.mem_of_getElem? (i := 43) rfl)) (hw _ (List.mem_of_getElem? (i := 3) rfl)) (hw _ (List.mem_of_getElem? (i := 45) rfl)) E_o (by decide) (rmV l Z a0 hw n0 o b9 hc F_v) d0_212 (lenOf pd___ArB rfl) rfl rfl (Nat.le_of_ble_eq_true rfl) (Nat.le_of_ble_eq_true rfl) (k' := 9) (n' := 79) rfl rfl (Nat.le_of_ble_eq_true rfl) (Nat.le_of_ble_eq_true rfl) ?_
        rintro _ _ ⟨rfl, rfl⟩
        refine w_astore ok (Ls' := #[.val (.int a), .val (.int b), .val (.int c), .val (.int fl), .val (.int f0), .val (.int f1), .val (.int v0), .val (.int v1), .val (.int v2), .val (.int (1 : Int32)), .val (.int (1 : Int32)), .val (.ref b1), .val (.ref b4), .val (.ref b5), .val (.ref b9), .val (.ref b4), .val (.ref b9), .val (.ref o), .val (.ref b4), .val (.ref b9)]) d0_215 rfl rfl ?_
        refine w_aload ok d0_217 rfl rfl ?_
        refine w_ifnonnull_yes ok d0_219 ?_
        refine w_iload ok d0_224 rfl ?_
        refine w_if_eq ok d0_226 (fun q => absurd q (by decide)) (fun _ => ?_)
        refine w_aload ok d0_229 rfl rfl ?_
        refine w_arraylength ok V_b9 d0_231 ?_
        refine w_int (b := 0) rfl ?_
        refine w_if_ne ok d0_232 (fun q => absurd (by decide) q) (fun _ => ?_)
        refine w_iconst ok (z := 1) d0_235 rfl ?_
        refine w_goto ok d0_236 ?_
        refine w_ireturnN ok (by simp) d0_240 (Nat.le_of_ble_eq_true rfl) (Nat.le_of_ble_eq_true rfl) ?_
        exact ⟨_, rfl, rfl⟩
  refine w_iloadN ok d0_26 rfl ?_
  refine w_iconst ok (z := 1) d0_27 rfl ?_
  refine w_iand ok d0_28 ?_
  refine w_if_eq ok d0_29 (fun q => ?_) (fun q => ?_)
  · refine w_iconst ok (z := 0) d0_36 rfl ?_
    refine w_istore ok (Ls' := #[.val (.int a), .val (.int b), .val (.int c), .val (.int fl), .val (.int f0), .val (.int f1), .val (.int v0), .val (.int v1), .val (.int v2), .val (.int (0 : Int32)), .unset, .unset, .unset, .unset, .unset, .unset, .unset, .unset, .unset, .unset]) d0_37 rfl ?_
    refine w_iloadN ok d0_39 rfl ?_
    refine w_iconst ok (z := 2) d0_40 rfl ?_
    refine w_iand ok d0_41 ?_
    refine w_if_eq ok d0_42 (fun q1 => ?_) (fun q1 => ?_)
    · refine w_iconst ok (z := 0) d0_49 rfl ?_
      refine w_istore ok (Ls' := #[.val (.int a), .val (.int b), .val (.int c), .val (.int fl), .val (.int f0), .val (.int f1), .val (.int v0), .val (.int v1), .val (.int v2), .val (.int (0 : Int32)), .val (.int (0 : Int32)), .unset, .unset, .unset, .unset, .unset, .unset, .unset, .unset, .unset]) d0_50 rfl ?_
      exact J52 _ _ (Or.inl rfl) (Or.inl rfl)
    · refine w_iconst ok (z := 1) d0_45 rfl ?_
      refine w_goto ok d0_46 ?_
      refine w_istore ok (Ls' := #[.val (.int a), .val (.int b), .val (.int c), .val (.int fl), .val (.int f0), .val (.int f1), .val (.int v0), .val (.int v1), .val (.int v2), .val (.int (0 : Int32)), .val (.int (1 : Int32)), .unset, .unset, .unset, .unset, .unset, .unset, .unset, .unset, .unset]) d0_50 rfl ?_
      exact J52 _ _ (Or.inl rfl) (Or.inr rfl)
  · refine w_iconst ok (z := 1) d0_32 rfl ?_
    refine w_goto ok d0_33 ?_
    refine w_istore ok (Ls' := #[.val (.int a), .val (.int b), .val (.int c), .val (.int fl), .val (.int f0), .val (.int f1), .val (.int v0), .val (.int v1), .val (.int v2), .val (.int (1 : Int32)), .unset, .unset, .unset, .unset, .unset, .unset, .unset, .unset, .unset, .unset]) d0_37 rfl ?_
    refine w_iloadN ok d0_39 rfl ?_
    refine w_iconst ok (z := 2) d0_40 rfl ?_
    refine w_iand ok d0_41 ?_
    refine w_if_eq ok d0_42 (fun q1 => ?_) (fun q1 => ?_)
    · refine w_iconst ok (z := 0) d0_49 rfl ?_
      refine w_istore ok (Ls' := #[.val (.int a), .val (.int b), .val (.int c), .val (.int fl), .val (.int f0), .val (.int f1), .val (.int v0), .val (.int v1), .val (.int v2), .val (.int (1 : Int32)), .val (.int (0 : Int32)), .unset, .unset, .unset, .unset, .unset, .unset, .unset, .unset, .unset]) d0_50 rfl ?_
      exact J52 _ _ (Or.inr rfl) (Or.inl rfl)
    · refine w_iconst ok (z := 1) d0_45 rfl ?_
      refine w_goto ok d0_46 ?_
      refine w_istore ok (Ls' := #[.val (.int a), .val (.int b), .val (.int c), .val (.int fl), .val (.int f0), .val (.int f1), .val (.int v0), .val (.int v1), .val (.int v2), .val (.int (1 : Int32)), .val (.int (1 : Int32)), .unset, .unset, .unset, .unset, .unset, .unset, .unset, .unset, .unset]) d0_50 rfl ?_
      exact J52 _ _ (Or.inr rfl) (Or.inr rfl)
set_option maxRecDepth 65536 in
set_option maxHeartbeats 4000000 in
theorem comes_1 {Post : Tables → Env → Array Value → State → Outcome → State → Prop} (hpost : ∀ tb e args s v u, (limb_1_1.after args s (.returned v) u = true ∧ limb_1_2.after args s (.returned v) u = true ∧ True) → ReturnedEndW s (.returned v) u (Jvm.fieldLocs frame_1_writes args s ++ Jvm.arrayLocs frame_1_arrays args s ++ Jvm.staticLocs frame_1_statics s) 24 2176 → Post tb e args s (.returned v) u) :
    ArmFor flags0 classFile x code maxLocals ret World_1 tables_1 room_1 Calls_1 rest_1 Pre_1 Post := by
  intro l hfl _ _ p e ha hc hk s m args below hf hA hF happ hP
  obtain ⟨hcalls, hrest, hpre⟩ := hP
  obtain ⟨-, -, -, hnamed, -, -, -, hat⟩ := (Spec.applies_iff hf).mp happ
  obtain ⟨hg, hn⟩ := and_e (Cond.before_iff.mp (show (Jvm.Cond.and given_1 narrow_1).before args s = true from hpre))
  obtain ⟨hct, hg0⟩ := and_e hg
  obtain ⟨hk0, hg1⟩ := and_e hg0
  obtain ⟨hk1, hg2⟩ := and_e hg1
  obtain ⟨hk2, hg3⟩ := and_e hg2
  have hk3 := hg3
  obtain ⟨w0, w1, w2, w3, rfl⟩ : ∃ w0 w1 w2 w3 : Value, args = #[w0, w1, w2, w3] := by
    have hs : args.size = 4 := by simpa [Cond.value, given_1] using hct
    obtain ⟨L⟩ := args
    match L, hs with
    | [w0, w1, w2, w3], _ => exact ⟨w0, w1, w2, w3, rfl⟩
  have hw := fun d (hd : d ∈ tables_1) => atoms_spec (ws := Jvm.Cond.code x code maxLocals ret :: tables_1) hat d (List.mem_cons_of_mem _ hd)
  obtain ⟨i0, ei0⟩ := is_v hk0
  obtain rfl : w0 = (.int i0) := Option.some.inj ei0
  obtain ⟨i1, ei1⟩ := is_v hk1
  obtain rfl : w1 = (.int i1) := Option.some.inj ei1
  obtain ⟨i2, ei2⟩ := is_v hk2
  obtain rfl : w2 = (.int i2) := Option.some.inj ei2
  obtain ⟨i3, ei3⟩ := is_v hk3
  obtain rfl : w3 = (.int i3) := Option.some.inj ei3
  obtain ⟨n, o, h1, h2, h3, _, L, rfl, ⟨⟨_, rfl, rfl⟩, N⟩, hq⟩ := rm0 l s _ hw s.heap.size i0 i1 i2 i3 s.heap (Nat.le_refl _) p e ha hc hk s m _ below hf ((Spec.applies_iff_loose hf).mp happ).1 ⟨rfl, State.Warmed39.refl s, rfl⟩ trivial
  refine ⟨n, _, h1, h2, h3, hpost _ _ _ _ _ _ ⟨Cond.after_iff.mpr rfl, Cond.after_iff.mpr (eq_i res_at (Term.int_eval (1)) rfl), trivial⟩ ⟨hq.1, hq.2.1, hq.2.2.1, (hq.2.2.2.sift fun y hy => Or.inr (N y hy)).mono (by decide) (by decide)⟩⟩
theorem main_1_1 : Claimed_1_1 := comes_1 fun _ _ _ _ _ _ h hF => ⟨h.1, hF⟩
theorem main_1_2 : Claimed_1_2 := comes_1 fun _ _ _ _ _ _ h hF => ⟨h.2.1, hF⟩
end Jvm.Pilot.@@N@@
namespace Jvm.Pilot.@@N@@
open Jvm Jvm.ClassFile Sem Op Lib Jvm.Free Jvm.Stand Jvm.Pilot.@@N@@.Jvm.D
/-! MADE BY PROGRAM (witnessworld.py) out of the Statement's table words and the real class files: 15 classes; the members and pool entries that the words name. The judged class is class 1, her method 1. -/
namespace start1
open Jvm.ClassFile
def u (s : String) : CpInfo := .utf8 (stringToUtf16 s)
/-- a pool by its gaps: so many unusable entries, then the entry; so many at the end -/
def gap : Nat → List CpInfo → List CpInfo
  | 0, r => r
  | n + 1, r => .unusable :: gap n r
def poolList (es : List (Nat × CpInfo)) (last : Nat) : List CpInfo := es.foldr (fun e r => gap e.1 (e.2 :: r)) (gap last [])
def pool (es : List (Nat × CpInfo)) (last : Nat) : Array CpInfo := ⟨poolList es last⟩
def fileOf (pool : Array CpInfo) (this : Nat) (attrs : Array Attribute := #[]) (ms : Array MethodInfo := #[]) (fl : Nat := 33) (sup : Nat := 0) (ifs : Array Nat := #[]) (fds : Array FieldInfo := #[]) : ClassFile where
  minorVersion := 0
  majorVersion := 65
  constantPool := pool
  accessFlags := fl
  thisClass := this
  superClass := sup
  interfaces := ifs
  fields := fds
  methods := ms
  attributes := attrs
def plain (name : String) (sup : Option ClassId) : Class where
  name := name
  kind := .ordinary
  loader := none
  accessFlags := 33
  super := sup
  interfaces := #[]
  cf := none
  fields := #[]
  methods := #[]
  instanceTypes := #[]
  staticTypes := #[]
  resolved := #[]
  callSites := []
  init := .initialized
  statics := none
  mirror := none

def pool0 : Array CpInfo := pool [(5, u "<init>"), (0, u "()V"), (1, .class_ 10), (1, u "java/lang/Object")] 113

def k0c0 : Code := { maxStack := 0, maxLocals := 1, code := object_method_1_code, exceptionTable := #[], attributes := #[] }
def k0m0 : Method := { name := "<init>", desc := "()V", sig := { parameters := [], returnType := none }, accessFlags := 1, code := some k0c0 }
/-- java/lang/Object -/
def k0 : Class := { plain "java/lang/Object" none with
  accessFlags := 33
  interfaces := #[]
  cf := some (fileOf pool0 8 #[] #[{ accessFlags := 1, nameIndex := 5, descriptorIndex := 6, attributes := #[] }] 33 0 #[] #[])
  fields := #[]
  methods := #[k0m0]
  instanceTypes := #[]
  staticTypes := #[]
  resolved := Array.replicate 124 none
  statics := none }

def pool1 : Array CpInfo := pool [(2, .class_ 4), (1, u "java/lang/Object"), (0, u "<init>"), (0, u "()V"), (0, .methodref 8 9), (0, .class_ 10), (0, .nameAndType 11 12), (0, u "com/example/idemnity/idemnity/IdempotencyStore$Entry"), (0, u "completed"), (0, u "([B[B)Lcom/example/idemnity/idemnity/IdempotencyStore$Entry;"), (0, .methodref 8 14), (0, .nameAndType 15 16), (0, u "isCompleted"), (0, u "()Z"), (0, .methodref 8 18), (0, .nameAndType 19 20), (0, u "fingerprint"), (0, u "()[B"), (0, .methodref 8 22), (0, .nameAndType 23 20), (0, u "value"), (0, .class_ 25), (0, u "com/example/idemnity/idemnity/EntryCompletedPinLaw"), (2, u "law"), (0, u "(IIII)Z")] 9

def k1m0 : Method := { name := "<init>", desc := "()V", sig := { parameters := [], returnType := none }, accessFlags := 1, code := none }
def k1c1 : Code := { maxStack := 3, maxLocals := 20, code := code, exceptionTable := #[], attributes := #[] }
def k1m1 : Method := { name := "law", desc := "(IIII)Z", sig := { parameters := [.int, .int, .int, .int], returnType := some .boolean }, accessFlags := 9, code := some k1c1 }
/-- com/example/idemnity/idemnity/EntryCompletedPinLaw -/
def k1 : Class := { plain "com/example/idemnity/idemnity/EntryCompletedPinLaw" (some 0) with
  accessFlags := 49
  interfaces := #[]
  cf := some (fileOf pool1 24 #[] #[{ accessFlags := 1, nameIndex := 5, descriptorIndex := 6, attributes := #[] }, { accessFlags := 9, nameIndex := 28, descriptorIndex := 29, attributes := #[] }] 49 2 #[] #[])
  fields := #[]
  methods := #[k1m0, k1m1]
  instanceTypes := #[]
  staticTypes := #[]
  resolved := Array.replicate 39 none
  statics := none }

def pool2 : Array CpInfo := pool [(1, .methodref 2 3), (0, .class_ 4), (0, .nameAndType 5 6), (0, u "java/lang/Object"), (0, u "<init>"), (0, u "()V"), (0, .string 8), (0, u "fingerprint"), (0, .methodref 10 11), (0, .class_ 12), (0, .nameAndType 13 14), (0, u "java/util/Objects"), (0, u "requireNonNull"), (0, u "(Ljava/lang/Object;Ljava/lang/String;)Ljava/lang/Object;"), (0, .class_ 16), (0, u "[B"), (0, .fieldref 18 19), (0, .class_ 20), (0, .nameAndType 8 16), (0, u "com/example/idemnity/idemnity/IdempotencyStore$Entry"), (0, .fieldref 18 22), (0, .nameAndType 23 16), (0, u "value"), (0, .methodref 18 25), (0, .nameAndType 5 26), (0, u "([B[B)V"), (0, .string 23), (11, u "completed"), (0, u "([B[B)Lcom/example/idemnity/idemnity/IdempotencyStore$Entry;"), (0, u "()[B"), (0, u "isCompleted"), (0, u "()Z"), (4, .class_ 49), (0, u "com/example/idemnity/idemnity/IdempotencyStore")] 2

def k2c0 : Code := { maxStack := 3, maxLocals := 3, code := prog_11_method_1_code, exceptionTable := #[], attributes := #[] }
def k2m0 : Method := { name := "<init>", desc := "([B[B)V", sig := { parameters := [(.array .byte), (.array .byte)], returnType := none }, accessFlags := 2, code := some k2c0 }
def k2c1 : Code := { maxStack := 5, maxLocals := 2, code := prog_11_method_3_code, exceptionTable := #[], attributes := #[] }
def k2m1 : Method := { name := "completed", desc := "([B[B)Lcom/example/idemnity/idemnity/IdempotencyStore$Entry;", sig := { parameters := [(.array .byte), (.array .byte)], returnType := some (.object "com/example/idemnity/idemnity/IdempotencyStore$Entry") }, accessFlags := 9, code := some k2c1 }
def k2c2 : Code := { maxStack := 1, maxLocals := 1, code := prog_11_method_4_code, exceptionTable := #[], attributes := #[] }
def k2m2 : Method := { name := "fingerprint", desc := "()[B", sig := { parameters := [], returnType := some (.array .byte) }, accessFlags := 1, code := some k2c2 }
def k2c3 : Code := { maxStack := 1, maxLocals := 1, code := prog_11_method_5_code, exceptionTable := #[], attributes := #[] }
def k2m3 : Method := { name := "isCompleted", desc := "()Z", sig := { parameters := [], returnType := some .boolean }, accessFlags := 1, code := some k2c3 }
def k2c4 : Code := { maxStack := 3, maxLocals := 1, code := prog_11_method_6_code, exceptionTable := #[], attributes := #[] }
def k2m4 : Method := { name := "value", desc := "()[B", sig := { parameters := [], returnType := some (.array .byte) }, accessFlags := 1, code := some k2c4 }
/-- com/example/idemnity/idemnity/IdempotencyStore$Entry -/
def k2 : Class := { plain "com/example/idemnity/idemnity/IdempotencyStore$Entry" (some 0) with
  accessFlags := 49
  interfaces := #[]
  cf := some (fileOf pool2 18 #[.nestHost 48] #[{ accessFlags := 2, nameIndex := 5, descriptorIndex := 26, attributes := #[] }, { accessFlags := 9, nameIndex := 39, descriptorIndex := 40, attributes := #[] }, { accessFlags := 1, nameIndex := 8, descriptorIndex := 41, attributes := #[] }, { accessFlags := 1, nameIndex := 42, descriptorIndex := 43, attributes := #[] }, { accessFlags := 1, nameIndex := 23, descriptorIndex := 41, attributes := #[] }] 49 2 #[] #[{ accessFlags := 18, nameIndex := 8, descriptorIndex := 16, attributes := #[] }, { accessFlags := 18, nameIndex := 23, descriptorIndex := 16, attributes := #[] }])
  fields := #[{ name := "fingerprint", type := (.array .byte), accessFlags := 18, slot := 0, constantValue := 0 }, { name := "value", type := (.array .byte), accessFlags := 18, slot := 1, constantValue := 0 }]
  methods := #[k2m0, k2m1, k2m2, k2m3, k2m4]
  instanceTypes := #[(.array .byte), (.array .byte)]
  staticTypes := #[]
  resolved := Array.replicate 52 none
  statics := none }

def pool3 : Array CpInfo := pool [(1, .class_ 2), (0, u "java/io/Serializable"), (0, .class_ 4), (0, u "java/lang/Object")] 2

/-- java/io/Serializable -/
def k3 : Class := { plain "java/io/Serializable" (some 0) with
  accessFlags := 1537
  interfaces := #[]
  cf := some (fileOf pool3 1 #[] #[] 1537 3 #[] #[])
  fields := #[]
  methods := #[]
  instanceTypes := #[]
  staticTypes := #[]
  resolved := Array.replicate 7 none
  statics := none }

def pool4 : Array CpInfo := pool [(1, .class_ 2), (0, u "java/lang/Comparable"), (0, .class_ 4), (0, u "java/lang/Object")] 7

/-- java/lang/Comparable -/
def k4 : Class := { plain "java/lang/Comparable" (some 0) with
  accessFlags := 1537
  interfaces := #[]
  cf := some (fileOf pool4 1 #[] #[] 1537 3 #[] #[])
  fields := #[]
  methods := #[]
  instanceTypes := #[]
  staticTypes := #[]
  resolved := Array.replicate 12 none
  statics := none }

def pool5 : Array CpInfo := pool [(2, .class_ 4), (1, u "java/lang/CharSequence"), (42, .class_ 48), (0, u "java/lang/CharSequence$1CodePointIterator"), (10, .class_ 60), (0, u "java/lang/CharSequence$1CharIterator"), (5, .class_ 67), (0, u "java/lang/Object")] 63

/-- java/lang/CharSequence -/
def k5 : Class := { plain "java/lang/CharSequence" (some 0) with
  accessFlags := 1537
  interfaces := #[]
  cf := some (fileOf pool5 2 #[.nestMembers #[47, 59]] #[] 1537 66 #[] #[])
  fields := #[]
  methods := #[]
  instanceTypes := #[]
  staticTypes := #[]
  resolved := Array.replicate 131 none
  statics := none }

def pool6 : Array CpInfo := pool [(1, .class_ 2), (0, u "java/lang/constant/Constable"), (0, .class_ 4), (0, u "java/lang/Object")] 6

/-- java/lang/constant/Constable -/
def k6 : Class := { plain "java/lang/constant/Constable" (some 0) with
  accessFlags := 1537
  interfaces := #[]
  cf := some (fileOf pool6 1 #[] #[] 1537 3 #[] #[])
  fields := #[]
  methods := #[]
  instanceTypes := #[]
  staticTypes := #[]
  resolved := Array.replicate 11 none
  statics := none }

def pool7 : Array CpInfo := pool [(1, .class_ 2), (0, u "java/lang/constant/ConstantDesc"), (0, .class_ 4), (0, u "java/lang/Object")] 32

/-- java/lang/constant/ConstantDesc -/
def k7 : Class := { plain "java/lang/constant/ConstantDesc" (some 0) with
  accessFlags := 1537
  interfaces := #[]
  cf := some (fileOf pool7 1 #[] #[] 1537 3 #[] #[])
  fields := #[]
  methods := #[]
  instanceTypes := #[]
  staticTypes := #[]
  resolved := Array.replicate 37 none
  statics := none }

def pool8 : Array CpInfo := pool [(2, .class_ 4), (1, u "java/lang/Object"), (0, u "<init>"), (0, u "()V"), (3, .class_ 12), (1, u "java/lang/String"), (0, u "value"), (0, u "[B"), (2, u "coder"), (0, u "B"), (2, u "hash"), (0, u "I"), (2, u "hashIsZero"), (0, u "Z"), (13, u "COMPACT_STRINGS"), (534, .class_ 576), (0, u "java/lang/CharSequence"), (22, u "CASE_INSENSITIVE_ORDER"), (0, u "Ljava/util/Comparator;"), (500, u "serialPersistentFields"), (0, u "[Ljava/io/ObjectStreamField;"), (0, .class_ 1104), (0, u "java/lang/String$CaseInsensitiveComparator"), (1, .class_ 1107), (0, u "java/io/Serializable"), (0, .class_ 1109), (0, u "java/lang/Comparable"), (0, .class_ 1111), (0, u "java/lang/constant/Constable"), (0, .class_ 1113), (0, u "java/lang/constant/ConstantDesc"), (2, u "serialVersionUID"), (0, u "J"), (3, u "REPL"), (0, u "C"), (2, u "LATIN1"), (1, u "UTF16")] 323

def k8m0 : Method := { name := "<init>", desc := "()V", sig := { parameters := [], returnType := none }, accessFlags := 1, code := none }
/-- java/lang/String -/
def k8 : Class := { plain "java/lang/String" (some 0) with
  accessFlags := 49
  interfaces := #[3, 4, 5, 6, 7]
  cf := some (fileOf pool8 10 #[.nestMembers #[1103]] #[{ accessFlags := 1, nameIndex := 5, descriptorIndex := 6, attributes := #[] }] 49 2 #[1106, 1108, 575, 1110, 1112] #[{ accessFlags := 18, nameIndex := 13, descriptorIndex := 14, attributes := #[] }, { accessFlags := 18, nameIndex := 17, descriptorIndex := 18, attributes := #[] }, { accessFlags := 2, nameIndex := 21, descriptorIndex := 22, attributes := #[] }, { accessFlags := 2, nameIndex := 25, descriptorIndex := 26, attributes := #[] }, { accessFlags := 26, nameIndex := 1116, descriptorIndex := 1117, attributes := #[] }, { accessFlags := 24, nameIndex := 40, descriptorIndex := 26, attributes := #[] }, { accessFlags := 26, nameIndex := 1101, descriptorIndex := 1102, attributes := #[] }, { accessFlags := 26, nameIndex := 1121, descriptorIndex := 1122, attributes := #[] }, { accessFlags := 25, nameIndex := 599, descriptorIndex := 600, attributes := #[] }, { accessFlags := 24, nameIndex := 1125, descriptorIndex := 18, attributes := #[] }, { accessFlags := 24, nameIndex := 1127, descriptorIndex := 18, attributes := #[] }])
  fields := #[{ name := "value", type := (.array .byte), accessFlags := 18, slot := 0, constantValue := 0 }, { name := "coder", type := .byte, accessFlags := 18, slot := 1, constantValue := 0 }, { name := "hash", type := .int, accessFlags := 2, slot := 2, constantValue := 0 }, { name := "hashIsZero", type := .boolean, accessFlags := 2, slot := 3, constantValue := 0 }, { name := "serialVersionUID", type := .long, accessFlags := 26, slot := 0, constantValue := 0 }, { name := "COMPACT_STRINGS", type := .boolean, accessFlags := 24, slot := 1, constantValue := 0 }, { name := "serialPersistentFields", type := (.array (.object "java/io/ObjectStreamField")), accessFlags := 26, slot := 2, constantValue := 0 }, { name := "REPL", type := .char, accessFlags := 26, slot := 3, constantValue := 0 }, { name := "CASE_INSENSITIVE_ORDER", type := (.object "java/util/Comparator"), accessFlags := 25, slot := 4, constantValue := 0 }, { name := "LATIN1", type := .byte, accessFlags := 24, slot := 5, constantValue := 0 }, { name := "UTF16", type := .byte, accessFlags := 24, slot := 6, constantValue := 0 }]
  methods := #[k8m0]
  instanceTypes := #[(.array .byte), .byte, .int, .boolean]
  staticTypes := #[.long, .boolean, (.array (.object "java/io/ObjectStreamField")), .char, (.object "java/util/Comparator"), .byte, .byte]
  resolved := Array.replicate 1451 none
  statics := none }

def pool9 : Array CpInfo := pool [(2, .class_ 4), (1, u "java/lang/Object"), (0, u "<init>"), (0, u "()V"), (35, .class_ 44), (1, u "java/util/Objects"), (0, u "requireNonNull"), (48, u "(Ljava/lang/Object;Ljava/lang/String;)Ljava/lang/Object;")] 89

def k9m0 : Method := { name := "<init>", desc := "()V", sig := { parameters := [], returnType := none }, accessFlags := 2, code := none }
def k9c1 : Code := { maxStack := 3, maxLocals := 2, code := jdk_31_method_11_code, exceptionTable := #[], attributes := #[] }
def k9m1 : Method := { name := "requireNonNull", desc := "(Ljava/lang/Object;Ljava/lang/String;)Ljava/lang/Object;", sig := { parameters := [(.object "java/lang/Object"), (.object "java/lang/String")], returnType := some (.object "java/lang/Object") }, accessFlags := 9, code := some k9c1 }
/-- java/util/Objects -/
def k9 : Class := { plain "java/util/Objects" (some 0) with
  accessFlags := 49
  interfaces := #[]
  cf := some (fileOf pool9 42 #[] #[{ accessFlags := 2, nameIndex := 5, descriptorIndex := 6, attributes := #[] }, { accessFlags := 9, nameIndex := 45, descriptorIndex := 94, attributes := #[] }] 49 2 #[] #[])
  fields := #[]
  methods := #[k9m0, k9m1]
  instanceTypes := #[]
  staticTypes := #[]
  resolved := Array.replicate 184 none
  statics := none }

def pool10 : Array CpInfo := pool [(1, u "java/lang/Cloneable"), (0, .class_ 1), (0, u "java/lang/Object"), (0, .class_ 3)] 3

/-- java/lang/Cloneable -/
def k10 : Class := { plain "java/lang/Cloneable" (some 0) with
  accessFlags := 1537
  interfaces := #[]
  cf := some (fileOf pool10 2 #[] #[] 1537 4 #[] #[])
  fields := #[]
  methods := #[]
  instanceTypes := #[]
  staticTypes := #[]
  resolved := Array.replicate 8 none
  statics := none }

/-- the primitive byte -/
def k11 : Class := { plain "byte" none with kind := .primitive 'B', accessFlags := 0x411 }
/-- [B -/
def k12 : Class := { plain "[B" (some 0) with kind := .array 11 .byte, interfaces := #[10, 3], accessFlags := 1041 }

/-- the primitive int -/
def k13 : Class := { plain "int" none with kind := .primitive 'I', accessFlags := 0x411 }
/-- [I -/
def k14 : Class := { plain "[I" (some 0) with kind := .array 13 .int, interfaces := #[10, 3], accessFlags := 1041 }

def heap : Heap := #[]
def classes : Array Class := #[k0, k1, k2, k3, k4, k5, k6, k7, k8, k9, k10, k11, k12, k13, k14]
def interned : List (Array UInt16 × Addr) := []
def slotsUsed : Nat := 0
def theMethod : MethodId := ⟨1, 1⟩
def args0 : Array Value := #[.int 0, .int 0, .int 0, .int 0]
def aboutOver (below : List Frame) : State where
  vm := { classes := classes, interned := interned.toArray }
  heap := heap
  slotsUsed := slotsUsed
  threads := #[{ frames := .invoking theMethod args0 :: below }]
def below0 : List Frame := [.native { method := ⟨0, 0⟩, args := #[] }]
def about1 : State := aboutOver below0
def p0 : Program := .bare "" "" ""
def e0 : Env := launch0.env 0 0 0
theorem w_frames : about1.frames = Frame.invoking theMethod args0 :: below0 := rfl
set_option maxRecDepth 65536 in
theorem w_args : argsFit about1.vm theMethod args0 = true := by decide +kernel
set_option maxRecDepth 65536 in
theorem w_heap : heapFits about1 = true := by decide +kernel
set_option maxRecDepth 65536 in
theorem w_runnable : about1.curStatus? = some .runnable := by decide +kernel
set_option maxRecDepth 65536 in
theorem w_alone : about1.alone = true := by decide +kernel
set_option maxRecDepth 65536 in
theorem w_named : about1.methodNamed? x = some theMethod := by decide +kernel
set_option maxRecDepth 65536 in
theorem w_hears : about1.hears theMethod below0 = true := by decide +kernel
set_option maxRecDepth 65536 in
theorem w_ripe : about1.ripe theMethod args0 below0 = true := by decide +kernel
theorem w_running : about1.status = .running := rfl
set_option maxRecDepth 65536 in
theorem w_room : about1.hasRoom e0.platform room_1 = true :=
  launch0.hasRoom_least _ room_1 (by decide +kernel) (by decide +kernel) (by decide +kernel) (by decide +kernel) (by decide +kernel) (by decide +kernel)
theorem allAtoms_all (ts : List Jvm.Cond) (a : Array Jvm.Value) (st : Jvm.State) : (allAtoms ts).before a st = ts.all (fun c => c.before a st) := by
  induction ts with
  | nil => rfl
  | cons c t ih =>
    show (Jvm.Cond.and c (allAtoms t)).before a st = _
    rw [Jvm.Cond.before_and, ih, List.all_cons]
def words1 : List Jvm.Cond := Jvm.Cond.code x code maxLocals ret :: tables_1
/-- a 'code' word, met by the world's own term for the bytes: nothing is compared byte by byte -/
theorem code_word {y : MethodName} {bytes : ByteArray} {mx : Nat} {rt : Option FieldType} {a : Array Value} {s : State} {m : MethodId} {meth : Method} {c : Code} (h1 : s.methodNamed? y = some m) (h2 : s.vm.method? m = some meth) (h3 : meth.code = some c) (h4 : c.code = bytes)
    (h5 : (c.maxLocals == mx && c.exceptionTable.isEmpty && decide (c.maxStack ≤ mostOperands) && decide (meth.sig.returnType = rt) && !meth.locks && decide (parseMethodDescriptor y.desc = some meth.sig)) = true) : (Jvm.Cond.code y bytes mx rt).before a s = true := by
  simp only [Bool.and_eq_true, beq_iff_eq, Bool.not_eq_true', decide_eq_true_eq] at h5
  obtain ⟨⟨⟨⟨⟨g1, g2⟩, g3⟩, g4⟩, g5⟩, g6⟩ := h5
  simp [Cond.before, Cond.holds, Cond.value, h1, h2, h3, h4, g1, g2, g3, g4, g5, g6]
def isCode : Jvm.Cond → Bool
  | .code _ _ _ _ => true
  | _ => false
theorem all_split {L : List Jvm.Cond} {P : Jvm.Cond → Bool} (h1 : L.all (fun c => isCode c || P c) = true) (h2 : ∀ c ∈ L.filter isCode, P c = true) : L.all P = true := by
  refine List.all_eq_true.mpr fun c hc => ?_
  have h := List.all_eq_true.mp h1 c hc
  rcases Bool.eq_false_or_eq_true (isCode c) with hi | hi
  · exact h2 c (List.mem_filter.mpr ⟨hc, hi⟩)
  · simpa [hi] using h
set_option maxRecDepth 65536 in
theorem w_c0 : (Jvm.Cond.code x code maxLocals ret).before args0 about1 = true := code_word (m := ⟨1, 1⟩) (meth := k1m1) (c := k1c1) (by decide +kernel) rfl rfl rfl (by decide +kernel)
set_option maxRecDepth 65536 in
theorem w_c1 : (Jvm.Cond.code ({ cls := "com/example/idemnity/idemnity/IdempotencyStore$Entry", name := "completed", desc := "([B[B)Lcom/example/idemnity/idemnity/IdempotencyStore$Entry;" } : Jvm.MethodName) prog_11_method_3_code (2 : Nat) (Option.some (Jvm.ClassFile.FieldType.object "com/example/idemnity/idemnity/IdempotencyStore$Entry"))).before args0 about1 = true := code_word (m := ⟨2, 1⟩) (meth := k2m1) (c := k2c1) (by decide +kernel) rfl rfl rfl (by decide +kernel)
set_option maxRecDepth 65536 in
theorem w_c2 : (Jvm.Cond.code ({ cls := "java/util/Objects", name := "requireNonNull", desc := "(Ljava/lang/Object;Ljava/lang/String;)Ljava/lang/Object;" } : Jvm.MethodName) jdk_31_method_11_code (2 : Nat) (Option.some (Jvm.ClassFile.FieldType.object "java/lang/Object"))).before args0 about1 = true := code_word (m := ⟨9, 1⟩) (meth := k9m1) (c := k9c1) (by decide +kernel) rfl rfl rfl (by decide +kernel)
set_option maxRecDepth 65536 in
theorem w_c3 : (Jvm.Cond.code ({ cls := "com/example/idemnity/idemnity/IdempotencyStore$Entry", name := "<init>", desc := "([B[B)V" } : Jvm.MethodName) prog_11_method_1_code (3 : Nat) (Option.none : Option Jvm.ClassFile.FieldType)).before args0 about1 = true := code_word (m := ⟨2, 0⟩) (meth := k2m0) (c := k2c0) (by decide +kernel) rfl rfl rfl (by decide +kernel)
set_option maxRecDepth 65536 in
theorem w_c4 : (Jvm.Cond.code ({ cls := "java/lang/Object", name := "<init>", desc := "()V" } : Jvm.MethodName) object_method_1_code (1 : Nat) (Option.none : Option Jvm.ClassFile.FieldType)).before args0 about1 = true := code_word (m := ⟨0, 0⟩) (meth := k0m0) (c := k0c0) (by decide +kernel) rfl rfl rfl (by decide +kernel)
set_option maxRecDepth 65536 in
theorem w_c5 : (Jvm.Cond.code ({ cls := "com/example/idemnity/idemnity/IdempotencyStore$Entry", name := "isCompleted", desc := "()Z" } : Jvm.MethodName) prog_11_method_5_code (1 : Nat) (Option.some Jvm.ClassFile.FieldType.boolean)).before args0 about1 = true := code_word (m := ⟨2, 3⟩) (meth := k2m3) (c := k2c3) (by decide +kernel) rfl rfl rfl (by decide +kernel)
set_option maxRecDepth 65536 in
theorem w_c6 : (Jvm.Cond.code ({ cls := "com/example/idemnity/idemnity/IdempotencyStore$Entry", name := "fingerprint", desc := "()[B" } : Jvm.MethodName) prog_11_method_4_code (1 : Nat) (Option.some (Jvm.ClassFile.FieldType.array Jvm.ClassFile.FieldType.byte))).before args0 about1 = true := code_word (m := ⟨2, 2⟩) (meth := k2m2) (c := k2c2) (by decide +kernel) rfl rfl rfl (by decide +kernel)
set_option maxRecDepth 65536 in
theorem w_c7 : (Jvm.Cond.code ({ cls := "com/example/idemnity/idemnity/IdempotencyStore$Entry", name := "value", desc := "()[B" } : Jvm.MethodName) prog_11_method_6_code (1 : Nat) (Option.some (Jvm.ClassFile.FieldType.array Jvm.ClassFile.FieldType.byte))).before args0 about1 = true := code_word (m := ⟨2, 4⟩) (meth := k2m4) (c := k2c4) (by decide +kernel) rfl rfl rfl (by decide +kernel)
def codes1 : List Jvm.Cond := [Jvm.Cond.code x code maxLocals ret, Jvm.Cond.code ({ cls := "com/example/idemnity/idemnity/IdempotencyStore$Entry", name := "completed", desc := "([B[B)Lcom/example/idemnity/idemnity/IdempotencyStore$Entry;" } : Jvm.MethodName) prog_11_method_3_code (2 : Nat) (Option.some (Jvm.ClassFile.FieldType.object "com/example/idemnity/idemnity/IdempotencyStore$Entry")), Jvm.Cond.code ({ cls := "java/util/Objects", name := "requireNonNull", desc := "(Ljava/lang/Object;Ljava/lang/String;)Ljava/lang/Object;" } : Jvm.MethodName) jdk_31_method_11_code (2 : Nat) (Option.some (Jvm.ClassFile.FieldType.object "java/lang/Object")), Jvm.Cond.code ({ cls := "com/example/idemnity/idemnity/IdempotencyStore$Entry", name := "<init>", desc := "([B[B)V" } : Jvm.MethodName) prog_11_method_1_code (3 : Nat) (Option.none : Option Jvm.ClassFile.FieldType), Jvm.Cond.code ({ cls := "java/lang/Object", name := "<init>", desc := "()V" } : Jvm.MethodName) object_method_1_code (1 : Nat) (Option.none : Option Jvm.ClassFile.FieldType), Jvm.Cond.code ({ cls := "com/example/idemnity/idemnity/IdempotencyStore$Entry", name := "isCompleted", desc := "()Z" } : Jvm.MethodName) prog_11_method_5_code (1 : Nat) (Option.some Jvm.ClassFile.FieldType.boolean), Jvm.Cond.code ({ cls := "com/example/idemnity/idemnity/IdempotencyStore$Entry", name := "fingerprint", desc := "()[B" } : Jvm.MethodName) prog_11_method_4_code (1 : Nat) (Option.some (Jvm.ClassFile.FieldType.array Jvm.ClassFile.FieldType.byte)), Jvm.Cond.code ({ cls := "com/example/idemnity/idemnity/IdempotencyStore$Entry", name := "value", desc := "()[B" } : Jvm.MethodName) prog_11_method_6_code (1 : Nat) (Option.some (Jvm.ClassFile.FieldType.array Jvm.ClassFile.FieldType.byte))]
set_option maxRecDepth 65536 in
theorem codes_eq : words1.filter isCode = codes1 := rfl
theorem w_codes : ∀ c ∈ words1.filter isCode, c.before args0 about1 = true := by
  rw [codes_eq]
  intro c hc
  simp only [codes1, List.mem_cons, List.not_mem_nil, or_false] at hc
  rcases hc with rfl | rfl | rfl | rfl | rfl | rfl | rfl | rfl
  · exact w_c0
  · exact w_c1
  · exact w_c2
  · exact w_c3
  · exact w_c4
  · exact w_c5
  · exact w_c6
  · exact w_c7
set_option maxRecDepth 65536 in
theorem w_t1 : (words1.take 24).all (fun c => isCode c || c.before args0 about1) = true := by decide +kernel
set_option maxRecDepth 65536 in
theorem w_t2 : (words1.drop 24).all (fun c => isCode c || c.before args0 about1) = true := by decide +kernel
theorem w_tables : (allAtoms (Jvm.Cond.code x code maxLocals ret :: tables_1)).before args0 about1 = true := by
  rw [allAtoms_all]
  show words1.all (fun c => c.before args0 about1) = true
  refine all_split ?_ w_codes
  rw [← List.take_append_drop 24 words1, List.all_append, w_t1, w_t2]
  rfl
set_option maxRecDepth 65536 in
theorem w_case : (Jvm.Cond.and given_1 narrow_1).before args0 about1 = true := by decide +kernel
theorem w_applies : (headSpec (Jvm.Cond.code x code maxLocals ret :: tables_1) room_1).applies x e0.platform about1 = true :=
  (Spec.applies_iff w_frames).mpr ⟨w_running, w_runnable, w_alone, w_named, w_hears, w_ripe, w_room, w_tables⟩
theorem atStart : AtStart classFile x code maxLocals ret World_1 tables_1 room_1 Calls_1 rest_1 Pre_1 launch0 p0 e0 about1 theMethod args0 below0 :=
  ⟨lists_1, trivial, launch0.admits_env _ _ _, launch0.least_env, fairChoices_fair.cas, fairChoices_fair.clock, w_frames, w_args, w_heap, w_applies, trivial, trivial, w_case⟩
end start1
theorem witness_1 : WitnessClaimed_1 := ⟨start1.p0, start1.e0, start1.about1, start1.theMethod, start1.args0, start1.below0, start1.atStart⟩
end Jvm.Pilot.@@N@@
