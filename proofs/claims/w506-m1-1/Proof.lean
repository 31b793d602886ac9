import JvmDerived
import JvmDerived.Pilot.@@N@@Statement
import JvmDerived.Pilot.@@N@@Code
set_option linter.unusedVariables false
set_option linter.unusedSimpArgs false
namespace Jvm.WpK
open Sem ClassFile Op Lib Jvm.Stand Jvm.Free Jvm.LawKit Jvm.RoadKit
/-- the run's own unknowns: program, environment, the invocation's state, method, arguments, frames below, the method's record, its code -/
abbrev Cx : Type := Program × Env × State × MethodId × Array Value × List Frame × Method × Code
/-- a decoded instruction and the pc behind it -/
def Fet (code : ByteArray) (pc pc' : Nat) (i : Instr) (len : Nat) : Prop := decode code pc = .ok (i, len) ∧ pc + len = pc'
/-- a decoded branch: the pc behind it and its target -/
def Brn (code : ByteArray) (pc pcN pcT : Nat) (i : Instr) (o : Int) : Prop := decode code pc = .ok (i, 3) ∧ pc + 3 = pcN ∧ 0 ≤ (pc : Int) + o ∧ ((pc : Int) + o).toNat = pcT
/-- what is known of the body that is walked -/
def Ok (Z : State) (K : Cx) (code : ByteArray) (own nm : String) (maxL : Nat) (ret : Option FieldType) : Prop :=
  match K with
  | (p, _, s, m, _, _, meth, c) => p.tables.exec = Jvm.exec ∧ c.code = code ∧ Z.Warmed39 s.vm ∧ s.vm.findClass own = some m.cls ∧ meth.name = nm ∧ c.maxLocals = maxL ∧ meth.sig.returnType = ret ∧ meth.locks = false
/-- from this point (heap h, k cells and n slots made so far) the body ends in Q, having written nothing below n0 -/
def Wp (l : Launch) (R : Room) (n0 : Nat) (K : Cx) (Q : Option Value → Heap → Prop) (h : Heap) (k n : Nat) (pc : Nat) (Ls : Array Slot) (st : List Value) : Prop :=
  match K with
  | (p, e, s, m, args, below, meth, c) => ∀ (T : State) (locs : List Loc), Stand p l e R s m args below meth c T locs k n → T.heap = h → Fr n0 locs →
      ∃ s₂ o, Steps p.tables e below (T.setTop (mkF m pc Ls st)) s₂ ∧ s₂.status = .running ∧ Ended s₂ below o ∧ ∃ v L, o = .returned v ∧ (Q v s₂.heap ∧ Fr n0 L) ∧ FrameEnd s o s₂ L R.cells R.slots
/-- a body's contract at one call -/
def Con (l : Launch) (Z : State) (n0 : Nat) (y : MethodName) (bytes : ByteArray) (maxL : Nat) (ret : Option FieldType) (ws : List Cond) (rm : Room) (as : Array Value) (h : Heap) (Q : Option Value → Heap → Prop) : Prop :=
  MetFree l y (head1 (Cond.code y bytes maxL ret :: ws) rm) (fun a U => a = as ∧ Z.Warmed39 U.vm ∧ U.heap = h) (fun _ _ _ _ _ => True) (fun _ U o U' => ∃ v L, o = .returned v ∧ (Q v U'.heap ∧ Fr n0 L) ∧ FrameEnd U o U' L rm.cells rm.slots)
abbrev ConV (l : Launch) (Z : State) (n0 : Nat) (y : MethodName) (bytes : ByteArray) (maxL : Nat) (ret : Option FieldType) (ws : List Cond) (rm : Room) (as : Array Value) (h : Heap) (Q : Value → Heap → Prop) : Prop :=
  Con l Z n0 y bytes maxL ret ws rm as h (fun v h' => ∃ w, v = some w ∧ Q w h')
abbrev ConN (l : Launch) (Z : State) (n0 : Nat) (y : MethodName) (bytes : ByteArray) (maxL : Nat) (ret : Option FieldType) (ws : List Cond) (rm : Room) (as : Array Value) (h : Heap) (Q : Heap → Prop) : Prop :=
  Con l Z n0 y bytes maxL ret ws rm as h (fun v h' => v = none ∧ Q h')
theorem con_of_wp {l : Launch} {Z : State} {n0 : Nat} {y : MethodName} {bytes : ByteArray} {maxL : Nat} {ret : Option FieldType} {ws : List Cond} {rm : Room} {as : Array Value} {h : Heap} {Q : Option Value → Heap → Prop} {Ls : Array Slot}
    (hpl : plainFor y = true) (hef : ∀ m, entryFrame m as maxL = mkF m 0 Ls []) (H : ∀ K, Ok Z K bytes y.cls y.name maxL ret → Wp l rm n0 K Q h 0 0 0 Ls []) : Con l Z n0 y bytes maxL ret ws rm as h Q := by
  refine MetFree.of_bodySF hpl hisR ?_
  intro p e s m args below meth c s₁ Bd hml0 hP hK
  obtain ⟨rfl, hZ, hh⟩ := hP
  have X0 : Stand p l e rm s m args below meth c s₁ [] 0 0 := Stand.of_body Bd
  have e0 : s₁.heap = h := by rw [← hh, Bd.state]; rfl
  obtain ⟨s₂, o, h1, h2, h3, h4⟩ := H (p, e, s, m, args, below, meth, c) ⟨Bd.exec, Bd.bytes, hZ, findClass_of_methodNamed Bd.named, (name_of_methodNamed Bd.named Bd.method).1, hml0, Bd.returns, Bd.notSynchronized⟩ s₁ [] X0 e0 (Fr.nil n0)
  exact ⟨s₂, o, castTop (hef m) h1, h2, h3, h4⟩
section Rules
variable {l : Launch} {R : Room} {n0 : Nat} {K : Cx} {Q : Option Value → Heap → Prop} {h : Heap} {k n k' n' : Nat} {pc pc' : Nat} {Ls Ls' : Array Slot} {st rest : List Value} {Z : State} {code : ByteArray} {own nm : String} {maxL : Nat} {ret : Option FieldType} {a0 : Array Value}
theorem w_cast {pc1 : Nat} {L1 : Array Slot} {s1 : List Value} (hr : Wp l R n0 K Q h k n pc1 L1 s1) (q1 : pc1 = pc) (q2 : L1 = Ls) (q3 : s1 = st) : Wp l R n0 K Q h k n pc Ls st := by
  subst q1 q2 q3; exact hr
theorem w_mono {Q' : Option Value → Heap → Prop} (hr : Wp l R n0 K Q' h k n pc Ls st) (hq : ∀ v h', Q' v h' → Q v h') : Wp l R n0 K Q h k n pc Ls st := by
  obtain ⟨p, e, s, m, args, below, meth, c⟩ := K
  intro T locs X hT hF
  obtain ⟨s₂, o, h1, h2, h3, v, L, h4, ⟨h5, h6⟩, h7⟩ := hr T locs X hT hF
  exact ⟨s₂, o, h1, h2, h3, v, L, h4, ⟨hq _ _ h5, h6⟩, h7⟩
theorem w_int {a b : Int32} (e : a = b) (hr : Wp l R n0 K Q h k n pc Ls (.int b :: st)) : Wp l R n0 K Q h k n pc Ls (.int a :: st) := e ▸ hr
theorem w_long {a b : Int64} (e : a = b) (hr : Wp l R n0 K Q h k n pc Ls (.long b :: st)) : Wp l R n0 K Q h k n pc Ls (.long a :: st) := e ▸ hr
/-- more cells or slots may be booked -/
theorem w_more {k1 n1 : Nat} (hr : Wp l R n0 K Q h k1 n1 pc Ls st) (hk : k ≤ k1) (hn : n ≤ n1) : Wp l R n0 K Q h k n pc Ls st := by
  obtain ⟨p, e, s, m, args, below, meth, c⟩ := K
  intro T locs X hT hF
  exact hr T locs (X.more hk hn) hT hF

theorem w_iloadN (ok : Ok Z K code own nm maxL ret) {j : Fin 4} {x : Int32} (hd : Fet code pc pc' (.iload_n j) 1) (hl : Ls[j.val]? = some (.val (.int x))) (hr : Wp l R n0 K Q h k n pc' Ls (.int x :: st)) : Wp l R n0 K Q h k n pc Ls st := by
  obtain ⟨p, e, s, m, args, below, meth, c⟩ := K
  obtain ⟨hx, hby, hZ, hown, hnm, hml, hret, hlk⟩ := ok
  obtain ⟨hd, rfl⟩ := hd
  intro T locs X hT hF
  obtain ⟨s₂, o, h1, h2⟩ := hr T locs X hT hF
  exact ⟨s₂, o, XS.iloadN X.here hx rfl (hb hby hd) hl h1, h2⟩
theorem w_iload (ok : Ok Z K code own nm maxL ret) {j : Nat} {x : Int32} (hd : Fet code pc pc' (.iload j) 2) (hl : Ls[j]? = some (.val (.int x))) (hr : Wp l R n0 K Q h k n pc' Ls (.int x :: st)) : Wp l R n0 K Q h k n pc Ls st := by
  obtain ⟨p, e, s, m, args, below, meth, c⟩ := K
  obtain ⟨hx, hby, hZ, hown, hnm, hml, hret, hlk⟩ := ok
  obtain ⟨hd, rfl⟩ := hd
  intro T locs X hT hF
  obtain ⟨s₂, o, h1, h2⟩ := hr T locs X hT hF
  exact ⟨s₂, o, XS.iload X.here hx rfl (hb hby hd) hl h1, h2⟩
theorem w_lloadN (ok : Ok Z K code own nm maxL ret) {j : Fin 4} {x : Int64} (hd : Fet code pc pc' (.lload_n j) 1) (hl : Ls[j.val]? = some (.val (.long x))) (hr : Wp l R n0 K Q h k n pc' Ls (.long x :: st)) : Wp l R n0 K Q h k n pc Ls st := by
  obtain ⟨p, e, s, m, args, below, meth, c⟩ := K
  obtain ⟨hx, hby, hZ, hown, hnm, hml, hret, hlk⟩ := ok
  obtain ⟨hd, rfl⟩ := hd
  intro T locs X hT hF
  obtain ⟨s₂, o, h1, h2⟩ := hr T locs X hT hF
  exact ⟨s₂, o, XS.lloadN X.here hx rfl (hb hby hd) hl h1, h2⟩
theorem w_lload (ok : Ok Z K code own nm maxL ret) {j : Nat} {x : Int64} (hd : Fet code pc pc' (.lload j) 2) (hl : Ls[j]? = some (.val (.long x))) (hr : Wp l R n0 K Q h k n pc' Ls (.long x :: st)) : Wp l R n0 K Q h k n pc Ls st := by
  obtain ⟨p, e, s, m, args, below, meth, c⟩ := K
  obtain ⟨hx, hby, hZ, hown, hnm, hml, hret, hlk⟩ := ok
  obtain ⟨hd, rfl⟩ := hd
  intro T locs X hT hF
  obtain ⟨s₂, o, h1, h2⟩ := hr T locs X hT hF
  exact ⟨s₂, o, XS.lload X.here hx rfl (hb hby hd) hl h1, h2⟩
theorem w_aloadN (ok : Ok Z K code own nm maxL ret) {j : Fin 4} {x : Value} (hd : Fet code pc pc' (.aload_n j) 1) (hl : Ls[j.val]? = some (.val x)) (hv : x.isRef = true) (hr : Wp l R n0 K Q h k n pc' Ls (x :: st)) : Wp l R n0 K Q h k n pc Ls st := by
  obtain ⟨p, e, s, m, args, below, meth, c⟩ := K
  obtain ⟨hx, hby, hZ, hown, hnm, hml, hret, hlk⟩ := ok
  obtain ⟨hd, rfl⟩ := hd
  intro T locs X hT hF
  obtain ⟨s₂, o, h1, h2⟩ := hr T locs X hT hF
  exact ⟨s₂, o, XS.aloadN X.here hx rfl (hb hby hd) hl hv h1, h2⟩
theorem w_aload (ok : Ok Z K code own nm maxL ret) {j : Nat} {x : Value} (hd : Fet code pc pc' (.aload j) 2) (hl : Ls[j]? = some (.val x)) (hv : x.isRef = true) (hr : Wp l R n0 K Q h k n pc' Ls (x :: st)) : Wp l R n0 K Q h k n pc Ls st := by
  obtain ⟨p, e, s, m, args, below, meth, c⟩ := K
  obtain ⟨hx, hby, hZ, hown, hnm, hml, hret, hlk⟩ := ok
  obtain ⟨hd, rfl⟩ := hd
  intro T locs X hT hF
  obtain ⟨s₂, o, h1, h2⟩ := hr T locs X hT hF
  exact ⟨s₂, o, XS.aload X.here hx rfl (hb hby hd) hl hv h1, h2⟩
theorem w_istoreN (ok : Ok Z K code own nm maxL ret) {j : Fin 4} {x : Int32} (hd : Fet code pc pc' (.istore_n j) 1) (hl : storeLocals Ls j.val (.int x) = some Ls') (hr : Wp l R n0 K Q h k n pc' Ls' st) : Wp l R n0 K Q h k n pc Ls (.int x :: st) := by
  obtain ⟨p, e, s, m, args, below, meth, c⟩ := K
  obtain ⟨hx, hby, hZ, hown, hnm, hml, hret, hlk⟩ := ok
  obtain ⟨hd, rfl⟩ := hd
  intro T locs X hT hF
  obtain ⟨s₂, o, h1, h2⟩ := hr T locs X hT hF
  exact ⟨s₂, o, XS.istoreN X.here hx rfl (hb hby hd) rfl hl h1, h2⟩
theorem w_istore (ok : Ok Z K code own nm maxL ret) {j : Nat} {x : Int32} (hd : Fet code pc pc' (.istore j) 2) (hl : storeLocals Ls j (.int x) = some Ls') (hr : Wp l R n0 K Q h k n pc' Ls' st) : Wp l R n0 K Q h k n pc Ls (.int x :: st) := by
  obtain ⟨p, e, s, m, args, below, meth, c⟩ := K
  obtain ⟨hx, hby, hZ, hown, hnm, hml, hret, hlk⟩ := ok
  obtain ⟨hd, rfl⟩ := hd
  intro T locs X hT hF
  obtain ⟨s₂, o, h1, h2⟩ := hr T locs X hT hF
  exact ⟨s₂, o, XS.istore X.here hx rfl (hb hby hd) rfl hl h1, h2⟩
theorem w_lstoreN (ok : Ok Z K code own nm maxL ret) {j : Fin 4} {x : Int64} (hd : Fet code pc pc' (.lstore_n j) 1) (hl : storeLocals Ls j.val (.long x) = some Ls') (hr : Wp l R n0 K Q h k n pc' Ls' st) : Wp l R n0 K Q h k n pc Ls (.long x :: st) := by
  obtain ⟨p, e, s, m, args, below, meth, c⟩ := K
  obtain ⟨hx, hby, hZ, hown, hnm, hml, hret, hlk⟩ := ok
  obtain ⟨hd, rfl⟩ := hd
  intro T locs X hT hF
  obtain ⟨s₂, o, h1, h2⟩ := hr T locs X hT hF
  exact ⟨s₂, o, XS.lstoreN X.here hx rfl (hb hby hd) rfl hl h1, h2⟩
theorem w_lstore (ok : Ok Z K code own nm maxL ret) {j : Nat} {x : Int64} (hd : Fet code pc pc' (.lstore j) 2) (hl : storeLocals Ls j (.long x) = some Ls') (hr : Wp l R n0 K Q h k n pc' Ls' st) : Wp l R n0 K Q h k n pc Ls (.long x :: st) := by
  obtain ⟨p, e, s, m, args, below, meth, c⟩ := K
  obtain ⟨hx, hby, hZ, hown, hnm, hml, hret, hlk⟩ := ok
  obtain ⟨hd, rfl⟩ := hd
  intro T locs X hT hF
  obtain ⟨s₂, o, h1, h2⟩ := hr T locs X hT hF
  exact ⟨s₂, o, XS.lstore X.here hx rfl (hb hby hd) rfl hl h1, h2⟩
theorem w_astoreN (ok : Ok Z K code own nm maxL ret) {j : Fin 4} {x : Value} (hd : Fet code pc pc' (.astore_n j) 1) (hl : storeLocals Ls j.val x = some Ls') (hv : x.isRef = true) (hr : Wp l R n0 K Q h k n pc' Ls' st) : Wp l R n0 K Q h k n pc Ls (x :: st) := by
  obtain ⟨p, e, s, m, args, below, meth, c⟩ := K
  obtain ⟨hx, hby, hZ, hown, hnm, hml, hret, hlk⟩ := ok
  obtain ⟨hd, rfl⟩ := hd
  intro T locs X hT hF
  obtain ⟨s₂, o, h1, h2⟩ := hr T locs X hT hF
  exact ⟨s₂, o, XS.astoreN X.here hx rfl (hb hby hd) rfl hv hl h1, h2⟩
theorem w_astore (ok : Ok Z K code own nm maxL ret) {j : Nat} {x : Value} (hd : Fet code pc pc' (.astore j) 2) (hl : storeLocals Ls j x = some Ls') (hv : x.isRef = true) (hr : Wp l R n0 K Q h k n pc' Ls' st) : Wp l R n0 K Q h k n pc Ls (x :: st) := by
  obtain ⟨p, e, s, m, args, below, meth, c⟩ := K
  obtain ⟨hx, hby, hZ, hown, hnm, hml, hret, hlk⟩ := ok
  obtain ⟨hd, rfl⟩ := hd
  intro T locs X hT hF
  obtain ⟨s₂, o, h1, h2⟩ := hr T locs X hT hF
  exact ⟨s₂, o, XS.astore X.here hx rfl (hb hby hd) rfl hv hl h1, h2⟩
theorem w_iinc (ok : Ok Z K code own nm maxL ret) {j : Nat} {cst : Int} {x : Int32} (hd : Fet code pc pc' (.iinc j cst) 3) (hl : Ls[j]? = some (.val (.int x))) (hl' : storeLocals Ls j (.int (x + Int32.ofInt cst)) = some Ls') (hr : Wp l R n0 K Q h k n pc' Ls' st) : Wp l R n0 K Q h k n pc Ls st := by
  obtain ⟨p, e, s, m, args, below, meth, c⟩ := K
  obtain ⟨hx, hby, hZ, hown, hnm, hml, hret, hlk⟩ := ok
  obtain ⟨hd, rfl⟩ := hd
  intro T locs X hT hF
  obtain ⟨s₂, o, h1, h2⟩ := hr T locs X hT hF
  exact ⟨s₂, o, XS.iinc X.here hx rfl (hb hby hd) hl hl' h1, h2⟩
theorem w_iconst (ok : Ok Z K code own nm maxL ret) {i : Int} {z : Int32} (hd : Fet code pc pc' (.iconst i) 1) (hz : Int32.ofInt i = z) (hr : Wp l R n0 K Q h k n pc' Ls (.int z :: st)) : Wp l R n0 K Q h k n pc Ls st := by
  obtain ⟨p, e, s, m, args, below, meth, c⟩ := K
  obtain ⟨hx, hby, hZ, hown, hnm, hml, hret, hlk⟩ := ok
  obtain ⟨hd, rfl⟩ := hd
  intro T locs X hT hF
  subst hz
  obtain ⟨s₂, o, h1, h2⟩ := hr T locs X hT hF
  exact ⟨s₂, o, XS.iconst X.here hx rfl (hb hby hd) h1, h2⟩
theorem w_bipush (ok : Ok Z K code own nm maxL ret) {i : Int} {z : Int32} (hd : Fet code pc pc' (.bipush i) 2) (hz : (Int8.ofInt i).toInt32 = z) (hr : Wp l R n0 K Q h k n pc' Ls (.int z :: st)) : Wp l R n0 K Q h k n pc Ls st := by
  obtain ⟨p, e, s, m, args, below, meth, c⟩ := K
  obtain ⟨hx, hby, hZ, hown, hnm, hml, hret, hlk⟩ := ok
  obtain ⟨hd, rfl⟩ := hd
  intro T locs X hT hF
  subst hz
  obtain ⟨s₂, o, h1, h2⟩ := hr T locs X hT hF
  exact ⟨s₂, o, XS.bipush X.here hx rfl (hb hby hd) h1, h2⟩
theorem w_sipush (ok : Ok Z K code own nm maxL ret) {i : Int} {z : Int32} (hd : Fet code pc pc' (.sipush i) 3) (hz : (Int16.ofInt i).toInt32 = z) (hr : Wp l R n0 K Q h k n pc' Ls (.int z :: st)) : Wp l R n0 K Q h k n pc Ls st := by
  obtain ⟨p, e, s, m, args, below, meth, c⟩ := K
  obtain ⟨hx, hby, hZ, hown, hnm, hml, hret, hlk⟩ := ok
  obtain ⟨hd, rfl⟩ := hd
  intro T locs X hT hF
  subst hz
  obtain ⟨s₂, o, h1, h2⟩ := hr T locs X hT hF
  exact ⟨s₂, o, XS.sipush X.here hx rfl (hb hby hd) h1, h2⟩
theorem w_lconst (ok : Ok Z K code own nm maxL ret) {i : Fin 2} {z : Int64} (hd : Fet code pc pc' (.lconst i) 1) (hz : Int64.ofNat i = z) (hr : Wp l R n0 K Q h k n pc' Ls (.long z :: st)) : Wp l R n0 K Q h k n pc Ls st := by
  obtain ⟨p, e, s, m, args, below, meth, c⟩ := K
  obtain ⟨hx, hby, hZ, hown, hnm, hml, hret, hlk⟩ := ok
  obtain ⟨hd, rfl⟩ := hd
  intro T locs X hT hF
  subst hz
  obtain ⟨s₂, o, h1, h2⟩ := hr T locs X hT hF
  exact ⟨s₂, o, XS.lconst X.here hx rfl (hb hby hd) h1, h2⟩
theorem w_aconstNull (ok : Ok Z K code own nm maxL ret)  (hd : Fet code pc pc' (.aconst_null) 1)  (hr : Wp l R n0 K Q h k n pc' Ls (.null :: st)) : Wp l R n0 K Q h k n pc Ls st := by
  obtain ⟨p, e, s, m, args, below, meth, c⟩ := K
  obtain ⟨hx, hby, hZ, hown, hnm, hml, hret, hlk⟩ := ok
  obtain ⟨hd, rfl⟩ := hd
  intro T locs X hT hF
  obtain ⟨s₂, o, h1, h2⟩ := hr T locs X hT hF
  exact ⟨s₂, o, XS.aconstNull X.here hx rfl (hb hby hd)  h1, h2⟩
theorem w_iadd (ok : Ok Z K code own nm maxL ret) {x y : Int32} (hd : Fet code pc pc' (.iadd) 1)  (hr : Wp l R n0 K Q h k n pc' Ls (.int (x + y) :: st)) : Wp l R n0 K Q h k n pc Ls (.int y :: .int x :: st) := by
  obtain ⟨p, e, s, m, args, below, meth, c⟩ := K
  obtain ⟨hx, hby, hZ, hown, hnm, hml, hret, hlk⟩ := ok
  obtain ⟨hd, rfl⟩ := hd
  intro T locs X hT hF
  obtain ⟨s₂, o, h1, h2⟩ := hr T locs X hT hF
  exact ⟨s₂, o, XS.iadd X.here hx rfl (hb hby hd) rfl h1, h2⟩
theorem w_isub (ok : Ok Z K code own nm maxL ret) {x y : Int32} (hd : Fet code pc pc' (.isub) 1)  (hr : Wp l R n0 K Q h k n pc' Ls (.int (x - y) :: st)) : Wp l R n0 K Q h k n pc Ls (.int y :: .int x :: st) := by
  obtain ⟨p, e, s, m, args, below, meth, c⟩ := K
  obtain ⟨hx, hby, hZ, hown, hnm, hml, hret, hlk⟩ := ok
  obtain ⟨hd, rfl⟩ := hd
  intro T locs X hT hF
  obtain ⟨s₂, o, h1, h2⟩ := hr T locs X hT hF
  exact ⟨s₂, o, XS.isub X.here hx rfl (hb hby hd) rfl h1, h2⟩
theorem w_imul (ok : Ok Z K code own nm maxL ret) {x y : Int32} (hd : Fet code pc pc' (.imul) 1)  (hr : Wp l R n0 K Q h k n pc' Ls (.int (x * y) :: st)) : Wp l R n0 K Q h k n pc Ls (.int y :: .int x :: st) := by
  obtain ⟨p, e, s, m, args, below, meth, c⟩ := K
  obtain ⟨hx, hby, hZ, hown, hnm, hml, hret, hlk⟩ := ok
  obtain ⟨hd, rfl⟩ := hd
  intro T locs X hT hF
  obtain ⟨s₂, o, h1, h2⟩ := hr T locs X hT hF
  exact ⟨s₂, o, XS.imul X.here hx rfl (hb hby hd) rfl h1, h2⟩
theorem w_iand (ok : Ok Z K code own nm maxL ret) {x y : Int32} (hd : Fet code pc pc' (.iand) 1)  (hr : Wp l R n0 K Q h k n pc' Ls (.int (x &&& y) :: st)) : Wp l R n0 K Q h k n pc Ls (.int y :: .int x :: st) := by
  obtain ⟨p, e, s, m, args, below, meth, c⟩ := K
  obtain ⟨hx, hby, hZ, hown, hnm, hml, hret, hlk⟩ := ok
  obtain ⟨hd, rfl⟩ := hd
  intro T locs X hT hF
  obtain ⟨s₂, o, h1, h2⟩ := hr T locs X hT hF
  exact ⟨s₂, o, XS.iand X.here hx rfl (hb hby hd) rfl h1, h2⟩
theorem w_ior (ok : Ok Z K code own nm maxL ret) {x y : Int32} (hd : Fet code pc pc' (.ior) 1)  (hr : Wp l R n0 K Q h k n pc' Ls (.int (x ||| y) :: st)) : Wp l R n0 K Q h k n pc Ls (.int y :: .int x :: st) := by
  obtain ⟨p, e, s, m, args, below, meth, c⟩ := K
  obtain ⟨hx, hby, hZ, hown, hnm, hml, hret, hlk⟩ := ok
  obtain ⟨hd, rfl⟩ := hd
  intro T locs X hT hF
  obtain ⟨s₂, o, h1, h2⟩ := hr T locs X hT hF
  exact ⟨s₂, o, XS.ior X.here hx rfl (hb hby hd) rfl h1, h2⟩
theorem w_ixor (ok : Ok Z K code own nm maxL ret) {x y : Int32} (hd : Fet code pc pc' (.ixor) 1)  (hr : Wp l R n0 K Q h k n pc' Ls (.int (x ^^^ y) :: st)) : Wp l R n0 K Q h k n pc Ls (.int y :: .int x :: st) := by
  obtain ⟨p, e, s, m, args, below, meth, c⟩ := K
  obtain ⟨hx, hby, hZ, hown, hnm, hml, hret, hlk⟩ := ok
  obtain ⟨hd, rfl⟩ := hd
  intro T locs X hT hF
  obtain ⟨s₂, o, h1, h2⟩ := hr T locs X hT hF
  exact ⟨s₂, o, XS.ixor X.here hx rfl (hb hby hd) rfl h1, h2⟩
theorem w_ladd (ok : Ok Z K code own nm maxL ret) {x y : Int64} (hd : Fet code pc pc' (.ladd) 1)  (hr : Wp l R n0 K Q h k n pc' Ls (.long (x + y) :: st)) : Wp l R n0 K Q h k n pc Ls (.long y :: .long x :: st) := by
  obtain ⟨p, e, s, m, args, below, meth, c⟩ := K
  obtain ⟨hx, hby, hZ, hown, hnm, hml, hret, hlk⟩ := ok
  obtain ⟨hd, rfl⟩ := hd
  intro T locs X hT hF
  obtain ⟨s₂, o, h1, h2⟩ := hr T locs X hT hF
  exact ⟨s₂, o, XS.ladd X.here hx rfl (hb hby hd) rfl h1, h2⟩
theorem w_lsub (ok : Ok Z K code own nm maxL ret) {x y : Int64} (hd : Fet code pc pc' (.lsub) 1)  (hr : Wp l R n0 K Q h k n pc' Ls (.long (x - y) :: st)) : Wp l R n0 K Q h k n pc Ls (.long y :: .long x :: st) := by
  obtain ⟨p, e, s, m, args, below, meth, c⟩ := K
  obtain ⟨hx, hby, hZ, hown, hnm, hml, hret, hlk⟩ := ok
  obtain ⟨hd, rfl⟩ := hd
  intro T locs X hT hF
  obtain ⟨s₂, o, h1, h2⟩ := hr T locs X hT hF
  exact ⟨s₂, o, XS.lsub X.here hx rfl (hb hby hd) rfl h1, h2⟩
theorem w_lmul (ok : Ok Z K code own nm maxL ret) {x y : Int64} (hd : Fet code pc pc' (.lmul) 1)  (hr : Wp l R n0 K Q h k n pc' Ls (.long (x * y) :: st)) : Wp l R n0 K Q h k n pc Ls (.long y :: .long x :: st) := by
  obtain ⟨p, e, s, m, args, below, meth, c⟩ := K
  obtain ⟨hx, hby, hZ, hown, hnm, hml, hret, hlk⟩ := ok
  obtain ⟨hd, rfl⟩ := hd
  intro T locs X hT hF
  obtain ⟨s₂, o, h1, h2⟩ := hr T locs X hT hF
  exact ⟨s₂, o, XS.lmul X.here hx rfl (hb hby hd) rfl h1, h2⟩
theorem w_land (ok : Ok Z K code own nm maxL ret) {x y : Int64} (hd : Fet code pc pc' (.land) 1)  (hr : Wp l R n0 K Q h k n pc' Ls (.long (x &&& y) :: st)) : Wp l R n0 K Q h k n pc Ls (.long y :: .long x :: st) := by
  obtain ⟨p, e, s, m, args, below, meth, c⟩ := K
  obtain ⟨hx, hby, hZ, hown, hnm, hml, hret, hlk⟩ := ok
  obtain ⟨hd, rfl⟩ := hd
  intro T locs X hT hF
  obtain ⟨s₂, o, h1, h2⟩ := hr T locs X hT hF
  exact ⟨s₂, o, XS.land X.here hx rfl (hb hby hd) rfl h1, h2⟩
theorem w_lor (ok : Ok Z K code own nm maxL ret) {x y : Int64} (hd : Fet code pc pc' (.lor) 1)  (hr : Wp l R n0 K Q h k n pc' Ls (.long (x ||| y) :: st)) : Wp l R n0 K Q h k n pc Ls (.long y :: .long x :: st) := by
  obtain ⟨p, e, s, m, args, below, meth, c⟩ := K
  obtain ⟨hx, hby, hZ, hown, hnm, hml, hret, hlk⟩ := ok
  obtain ⟨hd, rfl⟩ := hd
  intro T locs X hT hF
  obtain ⟨s₂, o, h1, h2⟩ := hr T locs X hT hF
  exact ⟨s₂, o, XS.lor X.here hx rfl (hb hby hd) rfl h1, h2⟩
theorem w_lxor (ok : Ok Z K code own nm maxL ret) {x y : Int64} (hd : Fet code pc pc' (.lxor) 1)  (hr : Wp l R n0 K Q h k n pc' Ls (.long (x ^^^ y) :: st)) : Wp l R n0 K Q h k n pc Ls (.long y :: .long x :: st) := by
  obtain ⟨p, e, s, m, args, below, meth, c⟩ := K
  obtain ⟨hx, hby, hZ, hown, hnm, hml, hret, hlk⟩ := ok
  obtain ⟨hd, rfl⟩ := hd
  intro T locs X hT hF
  obtain ⟨s₂, o, h1, h2⟩ := hr T locs X hT hF
  exact ⟨s₂, o, XS.lxor X.here hx rfl (hb hby hd) rfl h1, h2⟩
theorem w_ishl (ok : Ok Z K code own nm maxL ret) {x y : Int32} (hd : Fet code pc pc' (.ishl) 1)  (hr : Wp l R n0 K Q h k n pc' Ls (.int (x <<< (y &&& 31)) :: st)) : Wp l R n0 K Q h k n pc Ls (.int y :: .int x :: st) := by
  obtain ⟨p, e, s, m, args, below, meth, c⟩ := K
  obtain ⟨hx, hby, hZ, hown, hnm, hml, hret, hlk⟩ := ok
  obtain ⟨hd, rfl⟩ := hd
  intro T locs X hT hF
  obtain ⟨s₂, o, h1, h2⟩ := hr T locs X hT hF
  exact ⟨s₂, o, XS.ishl X.here hx rfl (hb hby hd) rfl h1, h2⟩
theorem w_ishr (ok : Ok Z K code own nm maxL ret) {x y : Int32} (hd : Fet code pc pc' (.ishr) 1)  (hr : Wp l R n0 K Q h k n pc' Ls (.int (x >>> (y &&& 31)) :: st)) : Wp l R n0 K Q h k n pc Ls (.int y :: .int x :: st) := by
  obtain ⟨p, e, s, m, args, below, meth, c⟩ := K
  obtain ⟨hx, hby, hZ, hown, hnm, hml, hret, hlk⟩ := ok
  obtain ⟨hd, rfl⟩ := hd
  intro T locs X hT hF
  obtain ⟨s₂, o, h1, h2⟩ := hr T locs X hT hF
  exact ⟨s₂, o, XS.ishr X.here hx rfl (hb hby hd) rfl h1, h2⟩
theorem w_iushr (ok : Ok Z K code own nm maxL ret) {x y : Int32} (hd : Fet code pc pc' (.iushr) 1)  (hr : Wp l R n0 K Q h k n pc' Ls (.int ((x.toUInt32 >>> (y &&& 31).toUInt32).toInt32) :: st)) : Wp l R n0 K Q h k n pc Ls (.int y :: .int x :: st) := by
  obtain ⟨p, e, s, m, args, below, meth, c⟩ := K
  obtain ⟨hx, hby, hZ, hown, hnm, hml, hret, hlk⟩ := ok
  obtain ⟨hd, rfl⟩ := hd
  intro T locs X hT hF
  obtain ⟨s₂, o, h1, h2⟩ := hr T locs X hT hF
  exact ⟨s₂, o, XS.iushr X.here hx rfl (hb hby hd) rfl h1, h2⟩
theorem w_lshl (ok : Ok Z K code own nm maxL ret) {x : Int64} {y : Int32} (hd : Fet code pc pc' (.lshl) 1)  (hr : Wp l R n0 K Q h k n pc' Ls (.long (x <<< (y &&& 0x3f).toInt64) :: st)) : Wp l R n0 K Q h k n pc Ls (.int y :: .long x :: st) := by
  obtain ⟨p, e, s, m, args, below, meth, c⟩ := K
  obtain ⟨hx, hby, hZ, hown, hnm, hml, hret, hlk⟩ := ok
  obtain ⟨hd, rfl⟩ := hd
  intro T locs X hT hF
  obtain ⟨s₂, o, h1, h2⟩ := hr T locs X hT hF
  exact ⟨s₂, o, XS.lshl X.here hx rfl (hb hby hd) rfl h1, h2⟩
theorem w_lshr (ok : Ok Z K code own nm maxL ret) {x : Int64} {y : Int32} (hd : Fet code pc pc' (.lshr) 1)  (hr : Wp l R n0 K Q h k n pc' Ls (.long (x >>> (y &&& 0x3f).toInt64) :: st)) : Wp l R n0 K Q h k n pc Ls (.int y :: .long x :: st) := by
  obtain ⟨p, e, s, m, args, below, meth, c⟩ := K
  obtain ⟨hx, hby, hZ, hown, hnm, hml, hret, hlk⟩ := ok
  obtain ⟨hd, rfl⟩ := hd
  intro T locs X hT hF
  obtain ⟨s₂, o, h1, h2⟩ := hr T locs X hT hF
  exact ⟨s₂, o, XS.lshr X.here hx rfl (hb hby hd) rfl h1, h2⟩
theorem w_lushr (ok : Ok Z K code own nm maxL ret) {x : Int64} {y : Int32} (hd : Fet code pc pc' (.lushr) 1)  (hr : Wp l R n0 K Q h k n pc' Ls (.long ((x.toUInt64 >>> (y &&& 0x3f).toInt64.toUInt64).toInt64) :: st)) : Wp l R n0 K Q h k n pc Ls (.int y :: .long x :: st) := by
  obtain ⟨p, e, s, m, args, below, meth, c⟩ := K
  obtain ⟨hx, hby, hZ, hown, hnm, hml, hret, hlk⟩ := ok
  obtain ⟨hd, rfl⟩ := hd
  intro T locs X hT hF
  obtain ⟨s₂, o, h1, h2⟩ := hr T locs X hT hF
  exact ⟨s₂, o, XS.lushr X.here hx rfl (hb hby hd) rfl h1, h2⟩
theorem w_idiv (ok : Ok Z K code own nm maxL ret) {x y : Int32} (hd : Fet code pc pc' (.idiv) 1) (hy : y ≠ 0) (hr : Wp l R n0 K Q h k n pc' Ls (.int (x / y) :: st)) : Wp l R n0 K Q h k n pc Ls (.int y :: .int x :: st) := by
  obtain ⟨p, e, s, m, args, below, meth, c⟩ := K
  obtain ⟨hx, hby, hZ, hown, hnm, hml, hret, hlk⟩ := ok
  obtain ⟨hd, rfl⟩ := hd
  intro T locs X hT hF
  obtain ⟨s₂, o, h1, h2⟩ := hr T locs X hT hF
  exact ⟨s₂, o, XS.idiv X.here hx rfl (hb hby hd) rfl hy h1, h2⟩
theorem w_ldiv (ok : Ok Z K code own nm maxL ret) {x y : Int64} (hd : Fet code pc pc' (.ldiv) 1) (hy : y ≠ 0) (hr : Wp l R n0 K Q h k n pc' Ls (.long (x / y) :: st)) : Wp l R n0 K Q h k n pc Ls (.long y :: .long x :: st) := by
  obtain ⟨p, e, s, m, args, below, meth, c⟩ := K
  obtain ⟨hx, hby, hZ, hown, hnm, hml, hret, hlk⟩ := ok
  obtain ⟨hd, rfl⟩ := hd
  intro T locs X hT hF
  obtain ⟨s₂, o, h1, h2⟩ := hr T locs X hT hF
  exact ⟨s₂, o, XS.ldiv X.here hx rfl (hb hby hd) rfl hy h1, h2⟩
theorem w_ineg (ok : Ok Z K code own nm maxL ret) {x : Int32} (hd : Fet code pc pc' (.ineg) 1)  (hr : Wp l R n0 K Q h k n pc' Ls (.int (-x) :: st)) : Wp l R n0 K Q h k n pc Ls (.int x :: st) := by
  obtain ⟨p, e, s, m, args, below, meth, c⟩ := K
  obtain ⟨hx, hby, hZ, hown, hnm, hml, hret, hlk⟩ := ok
  obtain ⟨hd, rfl⟩ := hd
  intro T locs X hT hF
  obtain ⟨s₂, o, h1, h2⟩ := hr T locs X hT hF
  exact ⟨s₂, o, XS.ineg X.here hx rfl (hb hby hd) rfl h1, h2⟩
theorem w_lneg (ok : Ok Z K code own nm maxL ret) {x : Int64} (hd : Fet code pc pc' (.lneg) 1)  (hr : Wp l R n0 K Q h k n pc' Ls (.long (-x) :: st)) : Wp l R n0 K Q h k n pc Ls (.long x :: st) := by
  obtain ⟨p, e, s, m, args, below, meth, c⟩ := K
  obtain ⟨hx, hby, hZ, hown, hnm, hml, hret, hlk⟩ := ok
  obtain ⟨hd, rfl⟩ := hd
  intro T locs X hT hF
  obtain ⟨s₂, o, h1, h2⟩ := hr T locs X hT hF
  exact ⟨s₂, o, XS.lneg X.here hx rfl (hb hby hd) rfl h1, h2⟩
theorem w_i2l (ok : Ok Z K code own nm maxL ret) {x : Int32} (hd : Fet code pc pc' (.i2l) 1)  (hr : Wp l R n0 K Q h k n pc' Ls (.long x.toInt64 :: st)) : Wp l R n0 K Q h k n pc Ls (.int x :: st) := by
  obtain ⟨p, e, s, m, args, below, meth, c⟩ := K
  obtain ⟨hx, hby, hZ, hown, hnm, hml, hret, hlk⟩ := ok
  obtain ⟨hd, rfl⟩ := hd
  intro T locs X hT hF
  obtain ⟨s₂, o, h1, h2⟩ := hr T locs X hT hF
  exact ⟨s₂, o, XS.i2l X.here hx rfl (hb hby hd) rfl h1, h2⟩
theorem w_l2i (ok : Ok Z K code own nm maxL ret) {x : Int64} (hd : Fet code pc pc' (.l2i) 1)  (hr : Wp l R n0 K Q h k n pc' Ls (.int x.toInt32 :: st)) : Wp l R n0 K Q h k n pc Ls (.long x :: st) := by
  obtain ⟨p, e, s, m, args, below, meth, c⟩ := K
  obtain ⟨hx, hby, hZ, hown, hnm, hml, hret, hlk⟩ := ok
  obtain ⟨hd, rfl⟩ := hd
  intro T locs X hT hF
  obtain ⟨s₂, o, h1, h2⟩ := hr T locs X hT hF
  exact ⟨s₂, o, XS.l2i X.here hx rfl (hb hby hd) rfl h1, h2⟩
theorem w_i2b (ok : Ok Z K code own nm maxL ret) {x : Int32} (hd : Fet code pc pc' (.i2b) 1)  (hr : Wp l R n0 K Q h k n pc' Ls (.int x.toInt8.toInt32 :: st)) : Wp l R n0 K Q h k n pc Ls (.int x :: st) := by
  obtain ⟨p, e, s, m, args, below, meth, c⟩ := K
  obtain ⟨hx, hby, hZ, hown, hnm, hml, hret, hlk⟩ := ok
  obtain ⟨hd, rfl⟩ := hd
  intro T locs X hT hF
  obtain ⟨s₂, o, h1, h2⟩ := hr T locs X hT hF
  exact ⟨s₂, o, XS.i2b X.here hx rfl (hb hby hd) rfl h1, h2⟩
theorem w_i2s (ok : Ok Z K code own nm maxL ret) {x : Int32} (hd : Fet code pc pc' (.i2s) 1)  (hr : Wp l R n0 K Q h k n pc' Ls (.int x.toInt16.toInt32 :: st)) : Wp l R n0 K Q h k n pc Ls (.int x :: st) := by
  obtain ⟨p, e, s, m, args, below, meth, c⟩ := K
  obtain ⟨hx, hby, hZ, hown, hnm, hml, hret, hlk⟩ := ok
  obtain ⟨hd, rfl⟩ := hd
  intro T locs X hT hF
  obtain ⟨s₂, o, h1, h2⟩ := hr T locs X hT hF
  exact ⟨s₂, o, XS.i2s X.here hx rfl (hb hby hd) rfl h1, h2⟩
theorem w_i2c (ok : Ok Z K code own nm maxL ret) {x : Int32} (hd : Fet code pc pc' (.i2c) 1)  (hr : Wp l R n0 K Q h k n pc' Ls (.int x.toUInt32.toUInt16.toUInt32.toInt32 :: st)) : Wp l R n0 K Q h k n pc Ls (.int x :: st) := by
  obtain ⟨p, e, s, m, args, below, meth, c⟩ := K
  obtain ⟨hx, hby, hZ, hown, hnm, hml, hret, hlk⟩ := ok
  obtain ⟨hd, rfl⟩ := hd
  intro T locs X hT hF
  obtain ⟨s₂, o, h1, h2⟩ := hr T locs X hT hF
  exact ⟨s₂, o, XS.i2c X.here hx rfl (hb hby hd) rfl h1, h2⟩
theorem w_dup (ok : Ok Z K code own nm maxL ret) {x : Value} (hd : Fet code pc pc' (.dup) 1) (hc : x.category = 1) (hr : Wp l R n0 K Q h k n pc' Ls (x :: x :: st)) : Wp l R n0 K Q h k n pc Ls (x :: st) := by
  obtain ⟨p, e, s, m, args, below, meth, c⟩ := K
  obtain ⟨hx, hby, hZ, hown, hnm, hml, hret, hlk⟩ := ok
  obtain ⟨hd, rfl⟩ := hd
  intro T locs X hT hF
  obtain ⟨s₂, o, h1, h2⟩ := hr T locs X hT hF
  exact ⟨s₂, o, XS.dup X.here hx rfl (hb hby hd) rfl hc h1, h2⟩
theorem w_pop (ok : Ok Z K code own nm maxL ret) {x : Value} (hd : Fet code pc pc' (.pop) 1) (hc : x.category = 1) (hr : Wp l R n0 K Q h k n pc' Ls st) : Wp l R n0 K Q h k n pc Ls (x :: st) := by
  obtain ⟨p, e, s, m, args, below, meth, c⟩ := K
  obtain ⟨hx, hby, hZ, hown, hnm, hml, hret, hlk⟩ := ok
  obtain ⟨hd, rfl⟩ := hd
  intro T locs X hT hF
  obtain ⟨s₂, o, h1, h2⟩ := hr T locs X hT hF
  exact ⟨s₂, o, XS.pop X.here hx rfl (hb hby hd) rfl hc h1, h2⟩
theorem w_dupX1 (ok : Ok Z K code own nm maxL ret) {x y : Value} (hd : Fet code pc pc' (.dup_x1) 1) (hc : x.category = 1) (hc' : y.category = 1) (hr : Wp l R n0 K Q h k n pc' Ls (x :: y :: x :: st)) : Wp l R n0 K Q h k n pc Ls (x :: y :: st) := by
  obtain ⟨p, e, s, m, args, below, meth, c⟩ := K
  obtain ⟨hx, hby, hZ, hown, hnm, hml, hret, hlk⟩ := ok
  obtain ⟨hd, rfl⟩ := hd
  intro T locs X hT hF
  obtain ⟨s₂, o, h1, h2⟩ := hr T locs X hT hF
  exact ⟨s₂, o, XS.dupX1 X.here hx rfl (hb hby hd) rfl hc hc' h1, h2⟩
theorem w_dup2 (ok : Ok Z K code own nm maxL ret) {x y : Value} (hd : Fet code pc pc' (.dup2) 1) (hc : x.category = 1) (hc' : y.category = 1) (hr : Wp l R n0 K Q h k n pc' Ls (x :: y :: x :: y :: st)) : Wp l R n0 K Q h k n pc Ls (x :: y :: st) := by
  obtain ⟨p, e, s, m, args, below, meth, c⟩ := K
  obtain ⟨hx, hby, hZ, hown, hnm, hml, hret, hlk⟩ := ok
  obtain ⟨hd, rfl⟩ := hd
  intro T locs X hT hF
  obtain ⟨s₂, o, h1, h2⟩ := hr T locs X hT hF
  exact ⟨s₂, o, Jvm.Free.XT.dup2 X.here hx rfl (hb hby hd) rfl hc hc' h1, h2⟩
theorem w_dup2L (ok : Ok Z K code own nm maxL ret) {x : Int64} (hd : Fet code pc pc' (.dup2) 1)  (hr : Wp l R n0 K Q h k n pc' Ls (.long x :: .long x :: st)) : Wp l R n0 K Q h k n pc Ls (.long x :: st) := by
  obtain ⟨p, e, s, m, args, below, meth, c⟩ := K
  obtain ⟨hx, hby, hZ, hown, hnm, hml, hret, hlk⟩ := ok
  obtain ⟨hd, rfl⟩ := hd
  intro T locs X hT hF
  obtain ⟨s₂, o, h1, h2⟩ := hr T locs X hT hF
  exact ⟨s₂, o, Jvm.Free.XT.dup2L X.here hx rfl (hb hby hd) rfl h1, h2⟩
theorem w_irem (ok : Ok Z K code own nm maxL ret) {x y : Int32} (hd : Fet code pc pc' (.irem) 1) (hy : y ≠ 0) (hr : Wp l R n0 K Q h k n pc' Ls (.int (x % y) :: st)) : Wp l R n0 K Q h k n pc Ls (.int y :: .int x :: st) := by
  obtain ⟨p, e, s, m, args, below, meth, c⟩ := K
  obtain ⟨hx, hby, hZ, hown, hnm, hml, hret, hlk⟩ := ok
  obtain ⟨hd, rfl⟩ := hd
  intro T locs X hT hF
  obtain ⟨s₂, o, h1, h2⟩ := hr T locs X hT hF
  exact ⟨s₂, o, iremM X hx rfl (hb hby hd) rfl hy h1, h2⟩
theorem lrem_mod (x y : Int64) : x - (x / y) * y = x % y := by
  apply Int64.toInt_inj.mp
  have h1 := Int64.le_toInt (x % y)
  have h2 := Int64.toInt_lt (x % y)
  rw [Int64.toInt_sub, Int64.toInt_mul, Int64.toInt_div, Int.bmod_mul_bmod, Int.sub_bmod_bmod, Int.mul_comm (x.toInt.tdiv y.toInt), ← Int.tmod_def, ← Int64.toInt_mod]
  exact Int.bmod_eq_of_le_mul_two (by omega) (by omega)

theorem w_lrem (ok : Ok Z K code own nm maxL ret) {x y : Int64} (hd : Fet code pc pc' (.lrem) 1) (hy : y ≠ 0) (hr : Wp l R n0 K Q h k n pc' Ls (.long (x % y) :: st)) : Wp l R n0 K Q h k n pc Ls (.long y :: .long x :: st) := by
  obtain ⟨p, e, s, m, args, below, meth, c⟩ := K
  obtain ⟨hx, hby, hZ, hown, hnm, hml, hret, hlk⟩ := ok
  obtain ⟨hd, rfl⟩ := hd
  intro T locs X hT hF
  obtain ⟨s₂, o, h1, h2⟩ := hr T locs X hT hF
  exact ⟨s₂, o, XS.lrem X.here hx rfl (hb hby hd) rfl hy (by rw [lrem_mod]; exact h1), h2⟩
theorem w_ldc (ok : Ok Z K code own nm maxL ret) {i : Nat} {x : Int32} (w : (Cond.constant own i x).before a0 Z = true) (hd : Fet code pc pc' (.ldc i) 2) (hr : Wp l R n0 K Q h k n pc' Ls (.int x :: st)) : Wp l R n0 K Q h k n pc Ls st := by
  obtain ⟨p, e, s, m, args, below, meth, c⟩ := K
  obtain ⟨hx, hby, hZ, hown, hnm, hml, hret, hlk⟩ := ok
  obtain ⟨hd, rfl⟩ := hd
  intro T locs X hT hF
  obtain ⟨s₂, o, h1, h2⟩ := hr T locs X hT hF
  exact ⟨s₂, o, X.ldcInt hx hown (mvT hZ w) (g := mkF m pc Ls st) rfl (hb hby hd) _ h1, h2⟩
theorem w_ldc2 (ok : Ok Z K code own nm maxL ret) {i : Nat} {x : Int64} (w : (Cond.constantLong own i x).before a0 Z = true) (hd : Fet code pc pc' (.ldc2_w i) 3) (hr : Wp l R n0 K Q h k n pc' Ls (.long x :: st)) : Wp l R n0 K Q h k n pc Ls st := by
  obtain ⟨p, e, s, m, args, below, meth, c⟩ := K
  obtain ⟨hx, hby, hZ, hown, hnm, hml, hret, hlk⟩ := ok
  obtain ⟨hd, rfl⟩ := hd
  intro T locs X hT hF
  obtain ⟨s₂, o, h1, h2⟩ := hr T locs X hT hF
  exact ⟨s₂, o, X.ldc2Long hx hown (mvT hZ w) (g := mkF m pc Ls st) rfl (hb hby hd) _ h1, h2⟩
theorem w_goto (ok : Ok Z K code own nm maxL ret) {pcN : Nat} {o : Int} (hd : Brn code pc pcN pc' (.goto o) o) (hr : Wp l R n0 K Q h k n pc' Ls st) : Wp l R n0 K Q h k n pc Ls st := by
  obtain ⟨p, e, s, m, args, below, meth, c⟩ := K
  obtain ⟨hx, hby, hZ, hown, hnm, hml, hret, hlk⟩ := ok
  obtain ⟨hd, rfl, ho, hp⟩ := hd
  intro T locs X hT hF
  obtain ⟨s₂, o, h1, h2⟩ := hr T locs X hT hF
  exact ⟨s₂, o, XS.goto X.here hx rfl rfl (hb hby hd) ho hp h1, h2⟩
theorem w_if0 (ok : Ok Z K code own nm maxL ret) {pcN pcT : Nat} {o : Int} {cd : ClassFile.Cond} {x : Int32} (hd : Brn code pc pcN pcT (.ifCond cd o) o) (hy : ifCond.holds cd x = true → Wp l R n0 K Q h k n pcT Ls st) (hn : ifCond.holds cd x = false → Wp l R n0 K Q h k n pcN Ls st) : Wp l R n0 K Q h k n pc Ls (.int x :: st) := by
  obtain ⟨p, e, s, m, args, below, meth, c⟩ := K
  obtain ⟨hx, hby, hZ, hown, hnm, hml, hret, hlk⟩ := ok
  obtain ⟨hd, rfl, ho, hp⟩ := hd
  intro T locs X hT hF
  cases hc : ifCond.holds cd x
  · obtain ⟨s₂, o, h1, h2⟩ := hn hc T locs X hT hF
    exact ⟨s₂, o, XS.ifNo X.here hx rfl (hb hby hd) rfl hc h1, h2⟩
  · obtain ⟨s₂, o, h1, h2⟩ := hy hc T locs X hT hF
    exact ⟨s₂, o, XS.ifYes X.here hx rfl rfl (hb hby hd) rfl hc ho hp h1, h2⟩
theorem w_ic (ok : Ok Z K code own nm maxL ret) {pcN pcT : Nat} {o : Int} {cd : ClassFile.Cond} {x y : Int32} (hd : Brn code pc pcN pcT (.if_icmp cd o) o) (hy : if_icmp.holds cd x y = true → Wp l R n0 K Q h k n pcT Ls st) (hn : if_icmp.holds cd x y = false → Wp l R n0 K Q h k n pcN Ls st) : Wp l R n0 K Q h k n pc Ls (.int y :: .int x :: st) := by
  obtain ⟨p, e, s, m, args, below, meth, c⟩ := K
  obtain ⟨hx, hby, hZ, hown, hnm, hml, hret, hlk⟩ := ok
  obtain ⟨hd, rfl, ho, hp⟩ := hd
  intro T locs X hT hF
  cases hc : if_icmp.holds cd x y
  · obtain ⟨s₂, o, h1, h2⟩ := hn hc T locs X hT hF
    exact ⟨s₂, o, XS.icmpNo X.here hx rfl (hb hby hd) rfl hc h1, h2⟩
  · obtain ⟨s₂, o, h1, h2⟩ := hy hc T locs X hT hF
    exact ⟨s₂, o, XS.icmpYes X.here hx rfl rfl (hb hby hd) rfl hc ho hp h1, h2⟩
theorem w_lcmp (ok : Ok Z K code own nm maxL ret) {x y : Int64} (hd : Fet code pc pc' .lcmp 1) (hr : Wp l R n0 K Q h k n pc' Ls (.int (lcmpW x y) :: st)) : Wp l R n0 K Q h k n pc Ls (.long y :: .long x :: st) := by
  obtain ⟨p, e, s, m, args, below, meth, c⟩ := K
  obtain ⟨hx, hby, hZ, hown, hnm, hml, hret, hlk⟩ := ok
  obtain ⟨hd, rfl⟩ := hd
  intro T locs X hT hF
  obtain ⟨s₂, o, h1, h2⟩ := hr T locs X hT hF
  exact ⟨s₂, o, XS.lcmp X.here hx rfl (hb hby hd) rfl h1, h2⟩
theorem h_eq {x y : Int32} : if_icmp.holds .eq x y = decide (x = y) := by rw [Bool.eq_iff_iff]; simp [if_icmp.holds]
theorem h_ne {x y : Int32} : if_icmp.holds .ne x y = decide (¬ x = y) := by rw [Bool.eq_iff_iff]; simp [if_icmp.holds]
theorem h_lt {x y : Int32} : if_icmp.holds .lt x y = decide (x < y) := by simp [if_icmp.holds]
theorem h_ge {x y : Int32} : if_icmp.holds .ge x y = decide (¬ x < y) := by simp [if_icmp.holds]
theorem h_gt {x y : Int32} : if_icmp.holds .gt x y = decide (y < x) := by simp [if_icmp.holds]
theorem h_le {x y : Int32} : if_icmp.holds .le x y = decide (¬ y < x) := by simp [if_icmp.holds]
theorem w_ic_eq (ok : Ok Z K code own nm maxL ret) {pcN pcT : Nat} {o : Int} {x y : Int32} (hd : Brn code pc pcN pcT (.if_icmp .eq o) o) (hy : x = y → Wp l R n0 K Q h k n pcT Ls st) (hn : ¬ x = y → Wp l R n0 K Q h k n pcN Ls st) : Wp l R n0 K Q h k n pc Ls (.int y :: .int x :: st) :=
  w_ic ok hd (fun q => hy (by rw [h_eq] at q; simpa using q)) (fun q => hn (by rw [h_eq] at q; simpa using q))
theorem w_if_eq (ok : Ok Z K code own nm maxL ret) {pcN pcT : Nat} {o : Int} {x : Int32} (hd : Brn code pc pcN pcT (.ifCond .eq o) o) (hy : x = 0 → Wp l R n0 K Q h k n pcT Ls st) (hn : ¬ x = 0 → Wp l R n0 K Q h k n pcN Ls st) : Wp l R n0 K Q h k n pc Ls (.int x :: st) :=
  w_if0 ok hd (fun q => hy (by rw [if0, h_eq] at q; simpa using q)) (fun q => hn (by rw [if0, h_eq] at q; simpa using q))
theorem w_lc_eq (ok : Ok Z K code own nm maxL ret) {pcM pcN pcT : Nat} {o : Int} {x y : Int64} (hd1 : Fet code pc pcM .lcmp 1) (hd : Brn code pcM pcN pcT (.ifCond .eq o) o) (hy : x = y → Wp l R n0 K Q h k n pcT Ls st) (hn : ¬ x = y → Wp l R n0 K Q h k n pcN Ls st) : Wp l R n0 K Q h k n pc Ls (.long y :: .long x :: st) :=
  w_lcmp ok hd1 (w_if_eq ok hd (fun q => hy ((lw_eq x y).mp q)) (fun q => hn (fun r => q ((lw_eq x y).mpr r))))
theorem w_ic_ne (ok : Ok Z K code own nm maxL ret) {pcN pcT : Nat} {o : Int} {x y : Int32} (hd : Brn code pc pcN pcT (.if_icmp .ne o) o) (hy : ¬ x = y → Wp l R n0 K Q h k n pcT Ls st) (hn : x = y → Wp l R n0 K Q h k n pcN Ls st) : Wp l R n0 K Q h k n pc Ls (.int y :: .int x :: st) :=
  w_ic ok hd (fun q => hy (by rw [h_ne] at q; simpa using q)) (fun q => hn (by rw [h_ne] at q; simpa using q))
theorem w_if_ne (ok : Ok Z K code own nm maxL ret) {pcN pcT : Nat} {o : Int} {x : Int32} (hd : Brn code pc pcN pcT (.ifCond .ne o) o) (hy : ¬ x = 0 → Wp l R n0 K Q h k n pcT Ls st) (hn : x = 0 → Wp l R n0 K Q h k n pcN Ls st) : Wp l R n0 K Q h k n pc Ls (.int x :: st) :=
  w_if0 ok hd (fun q => hy (by rw [if0, h_ne] at q; simpa using q)) (fun q => hn (by rw [if0, h_ne] at q; simpa using q))
theorem w_lc_ne (ok : Ok Z K code own nm maxL ret) {pcM pcN pcT : Nat} {o : Int} {x y : Int64} (hd1 : Fet code pc pcM .lcmp 1) (hd : Brn code pcM pcN pcT (.ifCond .ne o) o) (hy : ¬ x = y → Wp l R n0 K Q h k n pcT Ls st) (hn : x = y → Wp l R n0 K Q h k n pcN Ls st) : Wp l R n0 K Q h k n pc Ls (.long y :: .long x :: st) :=
  w_lcmp ok hd1 (w_if_ne ok hd (fun q => hy (fun r => q ((lw_eq x y).mpr r))) (fun q => hn ((lw_eq x y).mp q)))
theorem w_ic_lt (ok : Ok Z K code own nm maxL ret) {pcN pcT : Nat} {o : Int} {x y : Int32} (hd : Brn code pc pcN pcT (.if_icmp .lt o) o) (hy : x < y → Wp l R n0 K Q h k n pcT Ls st) (hn : ¬ x < y → Wp l R n0 K Q h k n pcN Ls st) : Wp l R n0 K Q h k n pc Ls (.int y :: .int x :: st) :=
  w_ic ok hd (fun q => hy (by rw [h_lt] at q; simpa using q)) (fun q => hn (by rw [h_lt] at q; simpa using q))
theorem w_if_lt (ok : Ok Z K code own nm maxL ret) {pcN pcT : Nat} {o : Int} {x : Int32} (hd : Brn code pc pcN pcT (.ifCond .lt o) o) (hy : x < 0 → Wp l R n0 K Q h k n pcT Ls st) (hn : ¬ x < 0 → Wp l R n0 K Q h k n pcN Ls st) : Wp l R n0 K Q h k n pc Ls (.int x :: st) :=
  w_if0 ok hd (fun q => hy (by rw [if0, h_lt] at q; simpa using q)) (fun q => hn (by rw [if0, h_lt] at q; simpa using q))
theorem w_lc_lt (ok : Ok Z K code own nm maxL ret) {pcM pcN pcT : Nat} {o : Int} {x y : Int64} (hd1 : Fet code pc pcM .lcmp 1) (hd : Brn code pcM pcN pcT (.ifCond .lt o) o) (hy : x < y → Wp l R n0 K Q h k n pcT Ls st) (hn : ¬ x < y → Wp l R n0 K Q h k n pcN Ls st) : Wp l R n0 K Q h k n pc Ls (.long y :: .long x :: st) :=
  w_lcmp ok hd1 (w_if_lt ok hd (fun q => hy ((lw_lt x y).mp q)) (fun q => hn (fun r => q ((lw_lt x y).mpr r))))
theorem w_ic_ge (ok : Ok Z K code own nm maxL ret) {pcN pcT : Nat} {o : Int} {x y : Int32} (hd : Brn code pc pcN pcT (.if_icmp .ge o) o) (hy : ¬ x < y → Wp l R n0 K Q h k n pcT Ls st) (hn : x < y → Wp l R n0 K Q h k n pcN Ls st) : Wp l R n0 K Q h k n pc Ls (.int y :: .int x :: st) :=
  w_ic ok hd (fun q => hy (by rw [h_ge] at q; simpa using q)) (fun q => hn (by rw [h_ge] at q; simpa using q))
theorem w_if_ge (ok : Ok Z K code own nm maxL ret) {pcN pcT : Nat} {o : Int} {x : Int32} (hd : Brn code pc pcN pcT (.ifCond .ge o) o) (hy : ¬ x < 0 → Wp l R n0 K Q h k n pcT Ls st) (hn : x < 0 → Wp l R n0 K Q h k n pcN Ls st) : Wp l R n0 K Q h k n pc Ls (.int x :: st) :=
  w_if0 ok hd (fun q => hy (by rw [if0, h_ge] at q; simpa using q)) (fun q => hn (by rw [if0, h_ge] at q; simpa using q))
theorem w_lc_ge (ok : Ok Z K code own nm maxL ret) {pcM pcN pcT : Nat} {o : Int} {x y : Int64} (hd1 : Fet code pc pcM .lcmp 1) (hd : Brn code pcM pcN pcT (.ifCond .ge o) o) (hy : ¬ x < y → Wp l R n0 K Q h k n pcT Ls st) (hn : x < y → Wp l R n0 K Q h k n pcN Ls st) : Wp l R n0 K Q h k n pc Ls (.long y :: .long x :: st) :=
  w_lcmp ok hd1 (w_if_ge ok hd (fun q => hy (fun r => q ((lw_lt x y).mpr r))) (fun q => hn ((lw_lt x y).mp q)))
theorem w_ic_gt (ok : Ok Z K code own nm maxL ret) {pcN pcT : Nat} {o : Int} {x y : Int32} (hd : Brn code pc pcN pcT (.if_icmp .gt o) o) (hy : y < x → Wp l R n0 K Q h k n pcT Ls st) (hn : ¬ y < x → Wp l R n0 K Q h k n pcN Ls st) : Wp l R n0 K Q h k n pc Ls (.int y :: .int x :: st) :=
  w_ic ok hd (fun q => hy (by rw [h_gt] at q; simpa using q)) (fun q => hn (by rw [h_gt] at q; simpa using q))
theorem w_if_gt (ok : Ok Z K code own nm maxL ret) {pcN pcT : Nat} {o : Int} {x : Int32} (hd : Brn code pc pcN pcT (.ifCond .gt o) o) (hy : 0 < x → Wp l R n0 K Q h k n pcT Ls st) (hn : ¬ 0 < x → Wp l R n0 K Q h k n pcN Ls st) : Wp l R n0 K Q h k n pc Ls (.int x :: st) :=
  w_if0 ok hd (fun q => hy (by rw [if0, h_gt] at q; simpa using q)) (fun q => hn (by rw [if0, h_gt] at q; simpa using q))
theorem w_lc_gt (ok : Ok Z K code own nm maxL ret) {pcM pcN pcT : Nat} {o : Int} {x y : Int64} (hd1 : Fet code pc pcM .lcmp 1) (hd : Brn code pcM pcN pcT (.ifCond .gt o) o) (hy : y < x → Wp l R n0 K Q h k n pcT Ls st) (hn : ¬ y < x → Wp l R n0 K Q h k n pcN Ls st) : Wp l R n0 K Q h k n pc Ls (.long y :: .long x :: st) :=
  w_lcmp ok hd1 (w_if_gt ok hd (fun q => hy ((lw_gt x y).mp q)) (fun q => hn (fun r => q ((lw_gt x y).mpr r))))
theorem w_ic_le (ok : Ok Z K code own nm maxL ret) {pcN pcT : Nat} {o : Int} {x y : Int32} (hd : Brn code pc pcN pcT (.if_icmp .le o) o) (hy : ¬ y < x → Wp l R n0 K Q h k n pcT Ls st) (hn : y < x → Wp l R n0 K Q h k n pcN Ls st) : Wp l R n0 K Q h k n pc Ls (.int y :: .int x :: st) :=
  w_ic ok hd (fun q => hy (by rw [h_le] at q; simpa using q)) (fun q => hn (by rw [h_le] at q; simpa using q))
theorem w_if_le (ok : Ok Z K code own nm maxL ret) {pcN pcT : Nat} {o : Int} {x : Int32} (hd : Brn code pc pcN pcT (.ifCond .le o) o) (hy : ¬ 0 < x → Wp l R n0 K Q h k n pcT Ls st) (hn : 0 < x → Wp l R n0 K Q h k n pcN Ls st) : Wp l R n0 K Q h k n pc Ls (.int x :: st) :=
  w_if0 ok hd (fun q => hy (by rw [if0, h_le] at q; simpa using q)) (fun q => hn (by rw [if0, h_le] at q; simpa using q))
theorem w_lc_le (ok : Ok Z K code own nm maxL ret) {pcM pcN pcT : Nat} {o : Int} {x y : Int64} (hd1 : Fet code pc pcM .lcmp 1) (hd : Brn code pcM pcN pcT (.ifCond .le o) o) (hy : ¬ y < x → Wp l R n0 K Q h k n pcT Ls st) (hn : y < x → Wp l R n0 K Q h k n pcN Ls st) : Wp l R n0 K Q h k n pc Ls (.long y :: .long x :: st) :=
  w_lcmp ok hd1 (w_if_le ok hd (fun q => hy (fun r => q ((lw_gt x y).mpr r))) (fun q => hn ((lw_gt x y).mp q)))
theorem w_ifnull_yes (ok : Ok Z K code own nm maxL ret) {pcN pcT : Nat} {o : Int} (hd : Brn code pc pcN pcT (.ifnull o) o) (hr : Wp l R n0 K Q h k n pcT Ls st) : Wp l R n0 K Q h k n pc Ls (.null :: st) := by
  obtain ⟨p, e, s, m, args, below, meth, c⟩ := K
  obtain ⟨hx, hby, hZ, hown, hnm, hml, hret, hlk⟩ := ok
  obtain ⟨hd, rfl, ho, hp⟩ := hd
  intro T locs X hT hF
  obtain ⟨s₂, o, h1, h2⟩ := hr T locs X hT hF
  exact ⟨s₂, o, XS.ifnullYes X.here hx rfl rfl (hb hby hd) rfl ho hp h1, h2⟩
theorem w_ifnull_no (ok : Ok Z K code own nm maxL ret) {pcN pcT : Nat} {o : Int} {b : Addr} (hd : Brn code pc pcN pcT (.ifnull o) o) (hr : Wp l R n0 K Q h k n pcN Ls st) : Wp l R n0 K Q h k n pc Ls (.ref b :: st) := by
  obtain ⟨p, e, s, m, args, below, meth, c⟩ := K
  obtain ⟨hx, hby, hZ, hown, hnm, hml, hret, hlk⟩ := ok
  obtain ⟨hd, rfl, ho, hp⟩ := hd
  intro T locs X hT hF
  obtain ⟨s₂, o, h1, h2⟩ := hr T locs X hT hF
  exact ⟨s₂, o, XS.ifnullNo X.here hx rfl (hb hby hd) rfl h1, h2⟩
theorem w_ifnonnull_yes (ok : Ok Z K code own nm maxL ret) {pcN pcT : Nat} {o : Int} {b : Addr} (hd : Brn code pc pcN pcT (.ifnonnull o) o) (hr : Wp l R n0 K Q h k n pcT Ls st) : Wp l R n0 K Q h k n pc Ls (.ref b :: st) := by
  obtain ⟨p, e, s, m, args, below, meth, c⟩ := K
  obtain ⟨hx, hby, hZ, hown, hnm, hml, hret, hlk⟩ := ok
  obtain ⟨hd, rfl, ho, hp⟩ := hd
  intro T locs X hT hF
  obtain ⟨s₂, o, h1, h2⟩ := hr T locs X hT hF
  exact ⟨s₂, o, XS.ifnonnullYes X.here hx rfl rfl (hb hby hd) rfl ho hp h1, h2⟩
theorem w_ifnonnull_no (ok : Ok Z K code own nm maxL ret) {pcN pcT : Nat} {o : Int} (hd : Brn code pc pcN pcT (.ifnonnull o) o) (hr : Wp l R n0 K Q h k n pcN Ls st) : Wp l R n0 K Q h k n pc Ls (.null :: st) := by
  obtain ⟨p, e, s, m, args, below, meth, c⟩ := K
  obtain ⟨hx, hby, hZ, hown, hnm, hml, hret, hlk⟩ := ok
  obtain ⟨hd, rfl, ho, hp⟩ := hd
  intro T locs X hT hF
  obtain ⟨s₂, o, h1, h2⟩ := hr T locs X hT hF
  exact ⟨s₂, o, XS.ifnonnullNo X.here hx rfl (hb hby hd) rfl h1, h2⟩
theorem w_acmp_eq (ok : Ok Z K code own nm maxL ret) {pcN pcT : Nat} {o : Int} {x y : Value} (hd : Brn code pc pcN pcT (.if_acmp .eq o) o) (hx' : x.isRef = true) (hy' : y.isRef = true) (hy : x = y → Wp l R n0 K Q h k n pcT Ls st) (hn : ¬ x = y → Wp l R n0 K Q h k n pcN Ls st) : Wp l R n0 K Q h k n pc Ls (y :: x :: st) := by
  obtain ⟨p, e, s, m, args, below, meth, c⟩ := K
  obtain ⟨hx, hby, hZ, hown, hnm, hml, hret, hlk⟩ := ok
  obtain ⟨hd, rfl, ho, hp⟩ := hd
  intro T locs X hT hF
  by_cases q : x = y
  · obtain ⟨s₂, o, h1, h2⟩ := hy q T locs X hT hF
    exact ⟨s₂, o, Jvm.RoadKit.acmp X hx rfl hx' hy' rfl (hb hby hd) rfl (decide_eq_true q) ho (by simp [acV, hp]) h1, h2⟩
  · obtain ⟨s₂, o, h1, h2⟩ := hn q T locs X hT hF
    exact ⟨s₂, o, Jvm.RoadKit.acmp X hx rfl hx' hy' rfl (hb hby hd) rfl (decide_eq_false q) ho (by simp [acV, hp]) h1, h2⟩
theorem w_acmp_ne (ok : Ok Z K code own nm maxL ret) {pcN pcT : Nat} {o : Int} {x y : Value} (hd : Brn code pc pcN pcT (.if_acmp .ne o) o) (hx' : x.isRef = true) (hy' : y.isRef = true) (hy : ¬ x = y → Wp l R n0 K Q h k n pcT Ls st) (hn : x = y → Wp l R n0 K Q h k n pcN Ls st) : Wp l R n0 K Q h k n pc Ls (y :: x :: st) := by
  obtain ⟨p, e, s, m, args, below, meth, c⟩ := K
  obtain ⟨hx, hby, hZ, hown, hnm, hml, hret, hlk⟩ := ok
  obtain ⟨hd, rfl, ho, hp⟩ := hd
  intro T locs X hT hF
  by_cases q : x = y
  · obtain ⟨s₂, o, h1, h2⟩ := hn q T locs X hT hF
    exact ⟨s₂, o, Jvm.RoadKit.acmp X hx rfl hx' hy' rfl (hb hby hd) rfl (decide_eq_true q) ho (by simp [acV, hp]) h1, h2⟩
  · obtain ⟨s₂, o, h1, h2⟩ := hy q T locs X hT hF
    exact ⟨s₂, o, Jvm.RoadKit.acmp X hx rfl hx' hy' rfl (hb hby hd) rfl (decide_eq_false q) ho (by simp [acV, hp]) h1, h2⟩
theorem w_return (ok : Ok Z K code own nm maxL none) (hd : Fet code pc pc' .return_ 1) (hk : k ≤ R.cells) (hn : n ≤ R.slots) (hQ : Q none h) : Wp l R n0 K Q h k n pc Ls [] := by
  obtain ⟨p, e, s, m, args, below, meth, c⟩ := K
  obtain ⟨hx, hby, hZ, hown, hnm, hml, hret, hlk⟩ := ok
  obtain ⟨hd, -⟩ := hd
  intro T locs X hT hF
  obtain ⟨fs, hr, hrun, hended, hW, hsame⟩ := X.leave (v := none) (fun _ => rfl) hlk
  refine ⟨_, _, X.returnOut hx hret (hb hby hd) hr, hrun, hended, _, locs, rfl, ⟨?_, hF⟩, ⟨_, rfl⟩, hW, hsame.mono hk hn⟩
  show Q _ T.heap
  rw [hT]; exact hQ
theorem w_ireturnN {t : FieldType} (ok : Ok Z K code own nm maxL (some t)) {x : Int32} (ht : t = .boolean ∨ t = .byte ∨ t = .char ∨ t = .short) (hd : Fet code pc pc' .ireturn 1) (hk : k ≤ R.cells) (hn : n ≤ R.slots) (hQ : Q (some (.int (nar t x))) h) : Wp l R n0 K Q h k n pc Ls (.int x :: st) := by
  obtain ⟨p, e, s, m, args, below, meth, c⟩ := K
  obtain ⟨hx, hby, hZ, hown, hnm, hml, hret, hlk⟩ := ok
  obtain ⟨hd, -⟩ := hd
  intro T locs X hT hF
  obtain ⟨fs, hr, hrun, hended, hW, hsame⟩ := X.leave (v := some (.int (nar t x))) (fun q => by rw [hret] at q; cases q) hlk
  refine ⟨_, _, retN X hx hret ht (hb hby hd) hr, hrun, hended, _, locs, rfl, ⟨?_, hF⟩, ⟨_, rfl⟩, hW, hsame.mono hk hn⟩
  show Q _ T.heap
  rw [hT]; exact hQ
theorem w_ireturnI (ok : Ok Z K code own nm maxL (some .int)) {x : Int32} (hd : Fet code pc pc' .ireturn 1) (hk : k ≤ R.cells) (hn : n ≤ R.slots) (hQ : Q (some (.int x)) h) : Wp l R n0 K Q h k n pc Ls (.int x :: st) := by
  obtain ⟨p, e, s, m, args, below, meth, c⟩ := K
  obtain ⟨hx, hby, hZ, hown, hnm, hml, hret, hlk⟩ := ok
  obtain ⟨hd, -⟩ := hd
  intro T locs X hT hF
  obtain ⟨fs, hr, hrun, hended, hW, hsame⟩ := X.leave (v := some (.int x)) (fun q => by rw [hret] at q; cases q) hlk
  refine ⟨_, _, retOut X hx hret (by rfl) (Or.inl ⟨rfl, Or.inl rfl, _, rfl⟩) (hb hby hd) hr, hrun, hended, _, locs, rfl, ⟨?_, hF⟩, ⟨_, rfl⟩, hW, hsame.mono hk hn⟩
  show Q _ T.heap
  rw [hT]; exact hQ
theorem w_lreturn (ok : Ok Z K code own nm maxL (some .long)) {x : Int64} (hd : Fet code pc pc' .lreturn 1) (hk : k ≤ R.cells) (hn : n ≤ R.slots) (hQ : Q (some (.long x)) h) : Wp l R n0 K Q h k n pc Ls (.long x :: st) := by
  obtain ⟨p, e, s, m, args, below, meth, c⟩ := K
  obtain ⟨hx, hby, hZ, hown, hnm, hml, hret, hlk⟩ := ok
  obtain ⟨hd, -⟩ := hd
  intro T locs X hT hF
  obtain ⟨fs, hr, hrun, hended, hW, hsame⟩ := X.leave (v := some (.long x)) (fun q => by rw [hret] at q; cases q) hlk
  refine ⟨_, _, retOut X hx hret (by rfl) (Or.inr (Or.inl ⟨rfl, rfl, _, rfl⟩)) (hb hby hd) hr, hrun, hended, _, locs, rfl, ⟨?_, hF⟩, ⟨_, rfl⟩, hW, hsame.mono hk hn⟩
  show Q _ T.heap
  rw [hT]; exact hQ
theorem w_areturn {t : FieldType} (ok : Ok Z K code own nm maxL (some t)) {x : Value} (ht : t.isReference = true) (hv : x.isRef = true) (hnar : narrow t x = x) (hd : Fet code pc pc' .areturn 1) (hk : k ≤ R.cells) (hn : n ≤ R.slots) (hQ : Q (some x) h) : Wp l R n0 K Q h k n pc Ls (x :: st) := by
  obtain ⟨p, e, s, m, args, below, meth, c⟩ := K
  obtain ⟨hx, hby, hZ, hown, hnm, hml, hret, hlk⟩ := ok
  obtain ⟨hd, -⟩ := hd
  intro T locs X hT hF
  obtain ⟨fs, hr, hrun, hended, hW, hsame⟩ := X.leave (v := some x) (fun q => by rw [hret] at q; cases q) hlk
  refine ⟨_, _, retOut X hx hret hnar (Or.inr (Or.inr (Or.inr (Or.inr ⟨rfl, ht, hv⟩)))) (hb hby hd) hr, hrun, hended, _, locs, rfl, ⟨?_, hF⟩, ⟨_, rfl⟩, hW, hsame.mono hk hn⟩
  show Q _ T.heap
  rw [hT]; exact hQ
theorem w_getfield (ok : Ok Z K code own nm maxL ret) {R0 O f d host : String} {i : Nat} {a : Addr} {x : Value} (w : (Cond.fieldLink own i R0 f d).before a0 Z = true ∨ (Cond.fieldLinkNest own i R0 f d host).before a0 Z = true) (via : Via Z R0 O f d) (F : Fld Z h a O f d x) (hd : Fet code pc pc' (.getfield i) 3) (hr : Wp l R n0 K Q h k n pc' Ls (x :: st)) : Wp l R n0 K Q h k n pc Ls (.ref a :: st) := by
  obtain ⟨p, e, s, m, args, below, meth, c⟩ := K
  obtain ⟨hx, hby, hZ, hown, hnm, hml, hret, hlk⟩ := ok
  obtain ⟨hd, rfl⟩ := hd
  intro T locs X hT hF
  obtain ⟨T', X', e', stp⟩ := getF X hx hZ hown w via hT F (g := mkF m pc Ls (.ref a :: st)) rfl rfl (hb hby hd)
  obtain ⟨s₂, o, h1, h2⟩ := hr T' locs X' e' hF
  exact ⟨s₂, o, stp _ h1, h2⟩
theorem w_getstatic (ok : Ok Z K code own nm maxL ret) {R0 O f d : String} {i : Nat} {x : Value} (w : (Cond.fieldLink own i R0 f d).before a0 Z = true) (via : Via Z R0 O f d) (F : Sta Z h O f d x) (hd : Fet code pc pc' (.getstatic i) 3) (hr : Wp l R n0 K Q h k n pc' Ls (x :: st)) : Wp l R n0 K Q h k n pc Ls st := by
  obtain ⟨p, e, s, m, args, below, meth, c⟩ := K
  obtain ⟨hx, hby, hZ, hown, hnm, hml, hret, hlk⟩ := ok
  obtain ⟨hd, rfl⟩ := hd
  intro T locs X hT hF
  obtain ⟨T', X', e', stp⟩ := getS (host := "") X hx hZ hown w via hT F (g := mkF m pc Ls st) rfl (hb hby hd)
  obtain ⟨s₂, o, h1, h2⟩ := hr T' locs X' e' hF
  exact ⟨s₂, o, stp _ h1, h2⟩
theorem w_putfield (ok : Ok Z K code own nm maxL ret) {R0 O f d host C : String} {i kk : Nat} {ty : FieldType} {a : Addr} {x old : Value} (w : (Cond.fieldLink own i R0 f d).before a0 Z = true ∨ (Cond.fieldLinkNest own i R0 f d host).before a0 Z = true) (via : Via Z R0 O f d) (F : Fld Z h a O f d old) (E : Exa Z h a C)
    (L : (Cond.lays C O f d).before a0 Z = true ∨ ((Cond.laysFinal C O f d).before a0 Z = true ∧ own = O ∧ nm = "<init>")) (wi : (Cond.instantiable C kk).before a0 Z = true) (hty : parseFieldDescriptor d = some ty) (hna : narrow ty x = x) (hfi : fits ty x = true) (ha : n0 ≤ a) (hd : Fet code pc pc' (.putfield i) 3)
    (hr : ∀ h', Wr h h' a (Jvm.RoadKit.slotOf Z O f d) x → Wp l R n0 K Q h' k n pc' Ls st) : Wp l R n0 K Q h k n pc Ls (x :: .ref a :: st) := by
  obtain ⟨p, e, s, m, args, below, meth, c⟩ := K
  obtain ⟨hx, hby, hZ, hown, hnm, hml, hret, hlk⟩ := ok
  obtain ⟨hd, rfl⟩ := hd
  intro T locs X hT hF
  obtain ⟨T', h', X', e', W', stp⟩ := putF X hx hZ hown w via hT F E (L.imp id fun q => ⟨q.1, q.2.1, hnm.trans q.2.2⟩) wi hty hna hfi (g := mkF m pc Ls (x :: .ref a :: st)) rfl rfl (hb hby hd)
  obtain ⟨s₂, o, h1, h2⟩ := hr h' W' T' _ X' e' (Fr.snoc X' hF ha)
  exact ⟨s₂, o, stp _ h1, h2⟩
theorem w_putfieldN (ok : Ok Z K code own nm maxL ret) {R0 O f d C : String} {i kk : Nat} {ty : FieldType} {a : Addr} {x x' old : Value} (w : (Cond.fieldLink own i R0 f d).before a0 Z = true) (via : Via Z R0 O f d) (F : Fld Z h a O f d old) (E : Exa Z h a C)
    (L : (Cond.lays C O f d).before a0 Z = true ∨ ((Cond.laysFinal C O f d).before a0 Z = true ∧ own = O ∧ nm = "<init>")) (wi : (Cond.instantiable C kk).before a0 Z = true) (hty : parseFieldDescriptor d = some ty) (hna : narrow ty x = x') (hfi : fits ty x' = true) (ha : n0 ≤ a) (hd : Fet code pc pc' (.putfield i) 3)
    (hr : ∀ h', Wr h h' a (Jvm.RoadKit.slotOf Z O f d) x' → Wp l R n0 K Q h' k n pc' Ls st) : Wp l R n0 K Q h k n pc Ls (x :: .ref a :: st) := by
  obtain ⟨p, e, s, m, args, below, meth, c⟩ := K
  obtain ⟨hx, hby, hZ, hown, hnm, hml, hret, hlk⟩ := ok
  obtain ⟨hd, rfl⟩ := hd
  intro T locs X hT hF
  obtain ⟨T', h', X', e', W', stp⟩ := putFN X hx hZ hown w via hT F E (L.imp id fun q => ⟨q.1, q.2.1, hnm.trans q.2.2⟩) wi hty hna hfi (g := mkF m pc Ls (x :: .ref a :: st)) rfl rfl (hb hby hd)
  obtain ⟨s₂, o, h1, h2⟩ := hr h' W' T' _ X' e' (Fr.snoc X' hF ha)
  exact ⟨s₂, o, stp _ h1, h2⟩
theorem w_new (ok : Ok Z K code own nm maxL ret) {C : String} {i nn : Nat} (w : (Cond.classLink own i C).before a0 Z = true) (wi : (Cond.instantiable C nn).before a0 Z = true) (wz : (Cond.initialized C).before a0 Z = true) (hd : Fet code pc pc' (.new i) 3) (ek : k + 1 = k') (en : n + nn = n') (hc : k' ≤ R.cells) (hl : n' ≤ R.slots)
    (hr : ∀ h' b, b = h.size → Ext h h' → Exa Z h' b C → (∀ {O f d : String} {ty : FieldType}, Laid Z a0 C O f d → parseFieldDescriptor d = some ty → Fld Z h' b O f d (defaultValue ty)) → Wp l R n0 K Q h' k' n' pc' Ls (.ref b :: st)) : Wp l R n0 K Q h k n pc Ls st := by
  obtain ⟨p, e, s, m, args, below, meth, c⟩ := K
  obtain ⟨hx, hby, hZ, hown, hnm, hml, hret, hlk⟩ := ok
  obtain ⟨hd, rfl⟩ := hd
  intro T locs X hT hF
  subst ek en
  obtain ⟨T', h', X', e', E', A', D', -, stp⟩ := newO X hx hZ hown w wi wz hT (g := mkF m pc Ls st) rfl (hb hby hd) hc hl
  obtain ⟨s₂, o, h1, h2⟩ := hr h' _ rfl E' A' D' T' _ X' e' hF
  exact ⟨s₂, o, stp _ h1, h2⟩
theorem w_newarray (ok : Ok Z K code own nm maxL ret) {aty : ArrayType} {z : Int32} {cap : Nat} (w : (Cond.arrayClass (newarray.typeOf aty)).before a0 Z = true) (hd : Fet code pc pc' (.newarray aty) 2) (hz : ¬ z < 0) (hcap : z.toNatClampNeg ≤ cap) (hb8 : cap * 8 ≤ 536870912) (ek : k + 1 = k') (en : n + cap = n') (hc : k' ≤ R.cells) (hl : n' ≤ R.slots)
    (hr : ∀ h' b cA, b = h.size → Ext h h' → Arr Z h' b (newA cA (newarray.typeOf aty) z) (newarray.typeOf aty) → Wp l R n0 K Q h' k' n' pc' Ls (.ref b :: st)) : Wp l R n0 K Q h k n pc Ls (.int z :: st) := by
  obtain ⟨p, e, s, m, args, below, meth, c⟩ := K
  obtain ⟨hx, hby, hZ, hown, hnm, hml, hret, hlk⟩ := ok
  obtain ⟨hd, rfl⟩ := hd
  intro T locs X hT hF
  subst ek en
  obtain ⟨T', h', cA, X', e', E', A', stp⟩ := newP X hx hZ w hT (g := mkF m pc Ls (.int z :: st)) rfl (hb hby hd) rfl hz hcap hb8 hc hl
  obtain ⟨s₂, o, h1, h2⟩ := hr h' _ cA rfl E' A' T' _ X' e' hF
  exact ⟨s₂, o, stp _ h1, h2⟩
theorem w_initO (ok : Ok Z K code own nm maxL ret) {i : Nat} {a : Addr} (w1 : (Cond.methodLink own i Lib.objectInit).before a0 Z = true) (w2 : (Cond.instanceMethod Lib.objectInit).before a0 Z = true) (w3 : (Cond.code Lib.objectInit ⟨#[0xb1]⟩ 1 none).before a0 Z = true) (hd : Fet code pc pc' (.invokespecial i) 3)
    (hsz : Ls.size = maxL) (hf : 1 ≤ R.frames) (hl : (st.map fun v => v.category).sum + 12 ≤ R.locals) (hr : Wp l R n0 K Q h k n pc' Ls st) : Wp l R n0 K Q h k n pc Ls (.ref a :: st) := by
  obtain ⟨p, e, s, m, args, below, meth, c⟩ := K
  obtain ⟨hx, hby, hZ, hown, hnm, hml, hret, hlk⟩ := ok
  obtain ⟨hd, rfl⟩ := hd
  intro T locs X hT hF
  obtain ⟨T', X', e', stp⟩ := initO X hx hZ hown w1 w2 w3 hT (g := mkF m pc Ls (.ref a :: st)) rfl (hsz.trans hml.symm) rfl (hb hby hd) hf (W := (st.map fun v => v.category).sum) (by show 2 * 0 + _ ≤ _; omega) hl
  obtain ⟨s₂, o, h1, h2⟩ := hr T' locs X' e' hF
  exact ⟨s₂, o, stp _ h1, h2⟩
theorem w_iastore (ok : Ok Z K code own nm maxL ret) {a : Addr} {cl : Cell} {j : Int32} {x : Int32} (A : Arr Z h a cl .int) (hj : ¬ (j < 0 ∨ cl.slots.size ≤ j.toNatClampNeg)) (ha : n0 ≤ a) (hd : Fet code pc pc' .iastore 1)
    (hr : ∀ h', Wr h h' a j.toNatClampNeg (.int x) → Wp l R n0 K Q h' k n pc' Ls st) : Wp l R n0 K Q h k n pc Ls ((.int x) :: .int j :: .ref a :: st) := by
  obtain ⟨p, e, s, m, args, below, meth, c⟩ := K
  obtain ⟨hx, hby, hZ, hown, hnm, hml, hret, hlk⟩ := ok
  obtain ⟨hd, rfl⟩ := hd
  intro T locs X hT hF
  obtain ⟨T', h', X', e', W', stp⟩ := stI X hx hZ hT A hj (g := mkF m pc Ls ((.int x) :: .int j :: .ref a :: st)) rfl rfl (hb hby hd)
  obtain ⟨s₂, o, h1, h2⟩ := hr h' W' T' _ X' e' (Fr.snoc X' hF ha)
  exact ⟨s₂, o, stp _ h1, h2⟩
theorem w_lastore (ok : Ok Z K code own nm maxL ret) {a : Addr} {cl : Cell} {j : Int32} {x : Int64} (A : Arr Z h a cl .long) (hj : ¬ (j < 0 ∨ cl.slots.size ≤ j.toNatClampNeg)) (ha : n0 ≤ a) (hd : Fet code pc pc' .lastore 1)
    (hr : ∀ h', Wr h h' a j.toNatClampNeg (.long x) → Wp l R n0 K Q h' k n pc' Ls st) : Wp l R n0 K Q h k n pc Ls ((.long x) :: .int j :: .ref a :: st) := by
  obtain ⟨p, e, s, m, args, below, meth, c⟩ := K
  obtain ⟨hx, hby, hZ, hown, hnm, hml, hret, hlk⟩ := ok
  obtain ⟨hd, rfl⟩ := hd
  intro T locs X hT hF
  obtain ⟨T', h', X', e', W', stp⟩ := stJ X hx hZ hT A hj (g := mkF m pc Ls ((.long x) :: .int j :: .ref a :: st)) rfl rfl (hb hby hd)
  obtain ⟨s₂, o, h1, h2⟩ := hr h' W' T' _ X' e' (Fr.snoc X' hF ha)
  exact ⟨s₂, o, stp _ h1, h2⟩
theorem w_castore (ok : Ok Z K code own nm maxL ret) {a : Addr} {cl : Cell} {j : Int32} {x : Int32} (A : Arr Z h a cl .char) (hj : ¬ (j < 0 ∨ cl.slots.size ≤ j.toNatClampNeg)) (ha : n0 ≤ a) (hd : Fet code pc pc' .castore 1)
    (hr : ∀ h', Wr h h' a j.toNatClampNeg (.int (nar .char x)) → Wp l R n0 K Q h' k n pc' Ls st) : Wp l R n0 K Q h k n pc Ls ((.int x) :: .int j :: .ref a :: st) := by
  obtain ⟨p, e, s, m, args, below, meth, c⟩ := K
  obtain ⟨hx, hby, hZ, hown, hnm, hml, hret, hlk⟩ := ok
  obtain ⟨hd, rfl⟩ := hd
  intro T locs X hT hF
  obtain ⟨T', h', X', e', W', stp⟩ := stC X hx hZ hT A hj (g := mkF m pc Ls ((.int x) :: .int j :: .ref a :: st)) rfl rfl (hb hby hd)
  obtain ⟨s₂, o, h1, h2⟩ := hr h' W' T' _ X' e' (Fr.snoc X' hF ha)
  exact ⟨s₂, o, stp _ h1, h2⟩
theorem w_bastoreB (ok : Ok Z K code own nm maxL ret) {a : Addr} {cl : Cell} {j : Int32} {x : Int32} (A : Arr Z h a cl .byte) (hj : ¬ (j < 0 ∨ cl.slots.size ≤ j.toNatClampNeg)) (ha : n0 ≤ a) (hd : Fet code pc pc' .bastore 1)
    (hr : ∀ h', Wr h h' a j.toNatClampNeg (.int (nar .byte x)) → Wp l R n0 K Q h' k n pc' Ls st) : Wp l R n0 K Q h k n pc Ls ((.int x) :: .int j :: .ref a :: st) := by
  obtain ⟨p, e, s, m, args, below, meth, c⟩ := K
  obtain ⟨hx, hby, hZ, hown, hnm, hml, hret, hlk⟩ := ok
  obtain ⟨hd, rfl⟩ := hd
  intro T locs X hT hF
  obtain ⟨T', h', X', e', W', stp⟩ := stB X hx hZ hT A hj (g := mkF m pc Ls ((.int x) :: .int j :: .ref a :: st)) rfl rfl (hb hby hd)
  obtain ⟨s₂, o, h1, h2⟩ := hr h' W' T' _ X' e' (Fr.snoc X' hF ha)
  exact ⟨s₂, o, stp _ h1, h2⟩
theorem w_bastoreZ (ok : Ok Z K code own nm maxL ret) {a : Addr} {cl : Cell} {j : Int32} {x : Int32} (A : Arr Z h a cl .boolean) (hj : ¬ (j < 0 ∨ cl.slots.size ≤ j.toNatClampNeg)) (ha : n0 ≤ a) (hd : Fet code pc pc' .bastore 1)
    (hr : ∀ h', Wr h h' a j.toNatClampNeg (.int (nar .boolean x)) → Wp l R n0 K Q h' k n pc' Ls st) : Wp l R n0 K Q h k n pc Ls ((.int x) :: .int j :: .ref a :: st) := by
  obtain ⟨p, e, s, m, args, below, meth, c⟩ := K
  obtain ⟨hx, hby, hZ, hown, hnm, hml, hret, hlk⟩ := ok
  obtain ⟨hd, rfl⟩ := hd
  intro T locs X hT hF
  obtain ⟨T', h', X', e', W', stp⟩ := stZ X hx hZ hT A hj (g := mkF m pc Ls ((.int x) :: .int j :: .ref a :: st)) rfl rfl (hb hby hd)
  obtain ⟨s₂, o, h1, h2⟩ := hr h' W' T' _ X' e' (Fr.snoc X' hF ha)
  exact ⟨s₂, o, stp _ h1, h2⟩
theorem w_callSV (ok : Ok Z K code own nm maxL ret) {y : MethodName} {bytes : ByteArray} {mL i : Nat} {rt : Option FieldType} {rm : Room} {Qc : Value → Heap → Prop} {argsL : List Value}  (w1 : (Cond.methodLink own i y).before a0 Z = true) (w2 : (Cond.static y).before a0 Z = true) (wz : (Cond.initialized y.cls).before a0 Z = true) (wc : (Cond.code y bytes mL rt).before a0 Z = true) (hy : y.cls ≠ "java/lang/invoke/MethodHandle" ∧ y.cls ≠ "java/lang/invoke/VarHandle")
    (hM : ConV l Z n0 y bytes mL rt [] rm (argsL).toArray h Qc) (hd : Fet code pc pc' (.invokestatic i) 3) (hlen : ∀ sig, parseMethodDescriptor y.desc = some sig → argsL.length = sig.parameters.length) (hst : st = argsL.reverse ++ rest) (hsz : Ls.size = maxL) (hf : rm.frames + 1 ≤ R.frames) (hl : (rest.map fun v => v.category).sum + (mL + 11) + rm.locals ≤ R.locals)
    (ek : k + rm.cells = k') (en : n + rm.slots = n') (hc : k' ≤ R.cells) (hs : n' ≤ R.slots) (hr : ∀ w h', Qc w h' → Wp l R n0 K Q h' k' n' pc' Ls (w :: rest)) : Wp l R n0 K Q h k n pc Ls st := by
  obtain ⟨p, e, s, m, args, below, meth, c⟩ := K
  obtain ⟨hx, hby, hZ, hown, hnm, hml, hret, hlk⟩ := ok
  obtain ⟨hd, rfl⟩ := hd
  intro T locs X hT hF
  subst hst ek en
  obtain ⟨v, _, ⟨T', L', k1, n1⟩, -, X', ⟨Lc, hQ, l1, y1, z1⟩, stp⟩ := Jvm.LawKit.callS X hx (y := y) hown (mvT hZ w1) (mvT hZ w2) (mvT hZ wz) (mvT hZ wc) hy (backOf (W := (rest.map fun v => v.category).sum) (Q := fun v h' L => (∃ w, v = some w ∧ Qc w h') ∧ Fr n0 L) (as' := (argsL).toArray) (rm := rm) (bytes := bytes) (maxL := mL) (ret := rt) (h := h) (Z := Z) hM hZ wc wz hf hl) (g := mkF m pc Ls (argsL.reverse ++ rest)) rfl (hsz.trans hml.symm) (argsL := argsL) (rest := rest) hlen rfl (by show 2 * 0 + _ ≤ _; omega) (hb hby hd) (fun _ _ => ⟨rfl, hT, hc, hs⟩)
  dsimp only [Pt.U, Pt.locs, Pt.cells, Pt.slots] at X' l1 y1 z1 stp hQ
  subst l1 y1 z1

  obtain ⟨⟨w, rfl, hQ⟩, hFc⟩ := hQ
  obtain ⟨s₂, o, h1, h2⟩ := hr _ _ hQ T' _ X' rfl (Fr.app hF hFc)
  exact ⟨s₂, o, stp _ h1, h2⟩
theorem w_callSN (ok : Ok Z K code own nm maxL ret) {y : MethodName} {bytes : ByteArray} {mL i : Nat} {rt : Option FieldType} {rm : Room} {Qc : Heap → Prop} {argsL : List Value}  (w1 : (Cond.methodLink own i y).before a0 Z = true) (w2 : (Cond.static y).before a0 Z = true) (wz : (Cond.initialized y.cls).before a0 Z = true) (wc : (Cond.code y bytes mL rt).before a0 Z = true) (hy : y.cls ≠ "java/lang/invoke/MethodHandle" ∧ y.cls ≠ "java/lang/invoke/VarHandle")
    (hM : ConN l Z n0 y bytes mL rt [] rm (argsL).toArray h Qc) (hd : Fet code pc pc' (.invokestatic i) 3) (hlen : ∀ sig, parseMethodDescriptor y.desc = some sig → argsL.length = sig.parameters.length) (hst : st = argsL.reverse ++ rest) (hsz : Ls.size = maxL) (hf : rm.frames + 1 ≤ R.frames) (hl : (rest.map fun v => v.category).sum + (mL + 11) + rm.locals ≤ R.locals)
    (ek : k + rm.cells = k') (en : n + rm.slots = n') (hc : k' ≤ R.cells) (hs : n' ≤ R.slots) (hr : ∀ h', Qc h' → Wp l R n0 K Q h' k' n' pc' Ls rest) : Wp l R n0 K Q h k n pc Ls st := by
  obtain ⟨p, e, s, m, args, below, meth, c⟩ := K
  obtain ⟨hx, hby, hZ, hown, hnm, hml, hret, hlk⟩ := ok
  obtain ⟨hd, rfl⟩ := hd
  intro T locs X hT hF
  subst hst ek en
  obtain ⟨v, _, ⟨T', L', k1, n1⟩, -, X', ⟨Lc, hQ, l1, y1, z1⟩, stp⟩ := Jvm.LawKit.callS X hx (y := y) hown (mvT hZ w1) (mvT hZ w2) (mvT hZ wz) (mvT hZ wc) hy (backOf (W := (rest.map fun v => v.category).sum) (Q := fun v h' L => (v = none ∧ Qc h') ∧ Fr n0 L) (as' := (argsL).toArray) (rm := rm) (bytes := bytes) (maxL := mL) (ret := rt) (h := h) (Z := Z) hM hZ wc wz hf hl) (g := mkF m pc Ls (argsL.reverse ++ rest)) rfl (hsz.trans hml.symm) (argsL := argsL) (rest := rest) hlen rfl (by show 2 * 0 + _ ≤ _; omega) (hb hby hd) (fun _ _ => ⟨rfl, hT, hc, hs⟩)
  dsimp only [Pt.U, Pt.locs, Pt.cells, Pt.slots] at X' l1 y1 z1 stp hQ
  subst l1 y1 z1

  obtain ⟨⟨rfl, hQ⟩, hFc⟩ := hQ
  obtain ⟨s₂, o, h1, h2⟩ := hr _ hQ T' _ X' rfl (Fr.app hF hFc)
  exact ⟨s₂, o, stp _ h1, h2⟩
theorem w_init (ok : Ok Z K code own nm maxL ret) {y : MethodName} {bytes : ByteArray} {mL i : Nat} {rt : Option FieldType} {rm : Room} {Qc : Heap → Prop} {argsL : List Value} {a : Addr} (hy1 : y.name = "<init>") (hrt : rt = none) (w1 : (Cond.methodLink own i y).before a0 Z = true) (w2 : (Cond.instanceMethod y).before a0 Z = true) (wz : (Cond.initialized y.cls).before a0 Z = true) (wc : (Cond.code y bytes mL rt).before a0 Z = true) (hy : y.cls ≠ "java/lang/invoke/MethodHandle" ∧ y.cls ≠ "java/lang/invoke/VarHandle")
    (hM : ConN l Z n0 y bytes mL rt [] rm (.ref a :: argsL).toArray h Qc) (hd : Fet code pc pc' (.invokespecial i) 3) (hlen : ∀ sig, parseMethodDescriptor y.desc = some sig → argsL.length = sig.parameters.length) (hst : st = argsL.reverse ++ .ref a :: rest) (hsz : Ls.size = maxL) (hf : rm.frames + 1 ≤ R.frames) (hl : (rest.map fun v => v.category).sum + (mL + 11) + rm.locals ≤ R.locals)
    (ek : k + rm.cells = k') (en : n + rm.slots = n') (hc : k' ≤ R.cells) (hs : n' ≤ R.slots) (hr : ∀ h', Qc h' → Wp l R n0 K Q h' k' n' pc' Ls rest) : Wp l R n0 K Q h k n pc Ls st := by
  obtain ⟨p, e, s, m, args, below, meth, c⟩ := K
  obtain ⟨hx, hby, hZ, hown, hnm, hml, hret, hlk⟩ := ok
  obtain ⟨hd, rfl⟩ := hd
  intro T locs X hT hF
  subst hst ek en
  subst hrt
  obtain ⟨v, _, ⟨T', L', k1, n1⟩, -, X', ⟨Lc, hQ, l1, y1, z1⟩, stp⟩ := X.specialBack hx (y := y) hy1 hown (mvT hZ w1) (mvT hZ w2) (mvT hZ wc) hy (backOf (W := (rest.map fun v => v.category).sum) (Q := fun v h' L => (v = none ∧ Qc h') ∧ Fr n0 L) (as' := (Value.ref a :: argsL).toArray) (rm := rm) (bytes := bytes) (maxL := mL) (ret := none) (h := h) (Z := Z) hM hZ wc wz hf hl) (g := mkF m pc Ls (argsL.reverse ++ .ref a :: rest)) rfl (hsz.trans hml.symm) (Steps.refl _) (a := a) (argsL := argsL) (rest := rest) hlen rfl (by show 2 * 0 + _ ≤ _; omega) (hb hby hd) (fun _ _ => ⟨rfl, hT, hc, hs⟩)
  dsimp only [Pt.U, Pt.locs, Pt.cells, Pt.slots] at X' l1 y1 z1 stp hQ
  subst l1 y1 z1

  obtain ⟨⟨rfl, hQ⟩, hFc⟩ := hQ
  obtain ⟨s₂, o, h1, h2⟩ := hr _ hQ T' _ X' rfl (Fr.app hF hFc)
  exact ⟨s₂, o, stp.trans h1, h2⟩
theorem w_virtV (ok : Ok Z K code own nm maxL ret) {y : MethodName} {bytes : ByteArray} {mL i : Nat} {rt : Option FieldType} {rm : Room} {Qc : Value → Heap → Prop} {argsL : List Value} {a : Addr} {C : String} (w1 : (Cond.methodLink own i y).before a0 Z = true) (w2 : (Cond.declares y).before a0 Z = true) (w3 : (Cond.selects C y y).before a0 Z = true) (w4 : (Cond.instanceMethod y).before a0 Z = true) (wz : (Cond.initialized y.cls).before a0 Z = true) (wc : (Cond.code y bytes mL rt).before a0 Z = true) (E : Exa Z h a C) (hy : y.cls ≠ "java/lang/invoke/MethodHandle" ∧ y.cls ≠ "java/lang/invoke/VarHandle")
    (hM : ConV l Z n0 y bytes mL rt [] rm (.ref a :: argsL).toArray h Qc) (hd : Fet code pc pc' (.invokevirtual i) 3) (hlen : ∀ sig, parseMethodDescriptor y.desc = some sig → argsL.length = sig.parameters.length) (hst : st = argsL.reverse ++ .ref a :: rest) (hsz : Ls.size = maxL) (hf : rm.frames + 1 ≤ R.frames) (hl : (rest.map fun v => v.category).sum + (mL + 11) + rm.locals ≤ R.locals)
    (ek : k + rm.cells = k') (en : n + rm.slots = n') (hc : k' ≤ R.cells) (hs : n' ≤ R.slots) (hr : ∀ w h', Qc w h' → Wp l R n0 K Q h' k' n' pc' Ls (w :: rest)) : Wp l R n0 K Q h k n pc Ls st := by
  obtain ⟨p, e, s, m, args, below, meth, c⟩ := K
  obtain ⟨hx, hby, hZ, hown, hnm, hml, hret, hlk⟩ := ok
  obtain ⟨hd, rfl⟩ := hd
  intro T locs X hT hF
  subst hst ek en
  obtain ⟨cB, kB, qa, qb, qc⟩ := isOf hZ hT E
  obtain ⟨v, _, ⟨T', L', k1, n1⟩, -, X', ⟨Lc, hQ, l1, y1, z1⟩, stp⟩ := X.virtualBack hx (y := y) (z := y) hown (mvT hZ w1) (mvT hZ w2) (notFace_of_selects (args := #[]) (mvT hZ w3)) (mvT hZ w3) (mvT hZ w4) hy (backOf (W := (rest.map fun v => v.category).sum) (Q := fun v h' L => (∃ w, v = some w ∧ Qc w h') ∧ Fr n0 L) (as' := (Value.ref a :: argsL).toArray) (rm := rm) (bytes := bytes) (maxL := mL) (ret := rt) (h := h) (Z := Z) hM hZ wc wz hf hl) qa qc (g := mkF m pc Ls (argsL.reverse ++ .ref a :: rest)) rfl (hsz.trans hml.symm) (Steps.refl _) (argsL := argsL) (rest := rest) hlen rfl (by show 2 * 0 + _ ≤ _; omega) (hb hby hd) (fun _ _ => ⟨rfl, hT, hc, hs⟩)
  dsimp only [Pt.U, Pt.locs, Pt.cells, Pt.slots] at X' l1 y1 z1 stp hQ
  subst l1 y1 z1

  obtain ⟨⟨w, rfl, hQ⟩, hFc⟩ := hQ
  obtain ⟨s₂, o, h1, h2⟩ := hr _ _ hQ T' _ X' rfl (Fr.app hF hFc)
  exact ⟨s₂, o, stp.trans h1, h2⟩
theorem w_virtN (ok : Ok Z K code own nm maxL ret) {y : MethodName} {bytes : ByteArray} {mL i : Nat} {rt : Option FieldType} {rm : Room} {Qc : Heap → Prop} {argsL : List Value} {a : Addr} {C : String} (w1 : (Cond.methodLink own i y).before a0 Z = true) (w2 : (Cond.declares y).before a0 Z = true) (w3 : (Cond.selects C y y).before a0 Z = true) (w4 : (Cond.instanceMethod y).before a0 Z = true) (wz : (Cond.initialized y.cls).before a0 Z = true) (wc : (Cond.code y bytes mL rt).before a0 Z = true) (E : Exa Z h a C) (hy : y.cls ≠ "java/lang/invoke/MethodHandle" ∧ y.cls ≠ "java/lang/invoke/VarHandle")
    (hM : ConN l Z n0 y bytes mL rt [] rm (.ref a :: argsL).toArray h Qc) (hd : Fet code pc pc' (.invokevirtual i) 3) (hlen : ∀ sig, parseMethodDescriptor y.desc = some sig → argsL.length = sig.parameters.length) (hst : st = argsL.reverse ++ .ref a :: rest) (hsz : Ls.size = maxL) (hf : rm.frames + 1 ≤ R.frames) (hl : (rest.map fun v => v.category).sum + (mL + 11) + rm.locals ≤ R.locals)
    (ek : k + rm.cells = k') (en : n + rm.slots = n') (hc : k' ≤ R.cells) (hs : n' ≤ R.slots) (hr : ∀ h', Qc h' → Wp l R n0 K Q h' k' n' pc' Ls rest) : Wp l R n0 K Q h k n pc Ls st := by
  obtain ⟨p, e, s, m, args, below, meth, c⟩ := K
  obtain ⟨hx, hby, hZ, hown, hnm, hml, hret, hlk⟩ := ok
  obtain ⟨hd, rfl⟩ := hd
  intro T locs X hT hF
  subst hst ek en
  obtain ⟨cB, kB, qa, qb, qc⟩ := isOf hZ hT E
  obtain ⟨v, _, ⟨T', L', k1, n1⟩, -, X', ⟨Lc, hQ, l1, y1, z1⟩, stp⟩ := X.virtualBack hx (y := y) (z := y) hown (mvT hZ w1) (mvT hZ w2) (notFace_of_selects (args := #[]) (mvT hZ w3)) (mvT hZ w3) (mvT hZ w4) hy (backOf (W := (rest.map fun v => v.category).sum) (Q := fun v h' L => (v = none ∧ Qc h') ∧ Fr n0 L) (as' := (Value.ref a :: argsL).toArray) (rm := rm) (bytes := bytes) (maxL := mL) (ret := rt) (h := h) (Z := Z) hM hZ wc wz hf hl) qa qc (g := mkF m pc Ls (argsL.reverse ++ .ref a :: rest)) rfl (hsz.trans hml.symm) (Steps.refl _) (argsL := argsL) (rest := rest) hlen rfl (by show 2 * 0 + _ ≤ _; omega) (hb hby hd) (fun _ _ => ⟨rfl, hT, hc, hs⟩)
  dsimp only [Pt.U, Pt.locs, Pt.cells, Pt.slots] at X' l1 y1 z1 stp hQ
  subst l1 y1 z1

  obtain ⟨⟨rfl, hQ⟩, hFc⟩ := hQ
  obtain ⟨s₂, o, h1, h2⟩ := hr _ hQ T' _ X' rfl (Fr.app hF hFc)
  exact ⟨s₂, o, stp.trans h1, h2⟩
end Rules
/-- an array of this kind with these values -/
def Ary (Z : State) (h : Heap) (a : Addr) (ty : FieldType) (vs : List Value) : Prop := ∃ c : Cell, Arr Z h a c ty ∧ c.slots.toList = vs
section AryFacts
variable {Z : State} {h h' : Heap} {a b : Addr} {ty : FieldType} {vs : List Value} {v : Value} {sl i : Nat} {ws : List Addr}
theorem Ary.lt (A : Ary Z h a ty vs) : a < h.size := by obtain ⟨c, A, -⟩ := A; exact A.lt
theorem Ary.ext (A : Ary Z h a ty vs) (E : Ext h h') : Ary Z h' a ty vs := by obtain ⟨c, A, r⟩ := A; exact ⟨c, A.ext E, r⟩
theorem Ary.other (A : Ary Z h b ty vs) (W : Wr h h' a sl v) (q : b ≠ a) : Ary Z h' b ty vs := by obtain ⟨c, A, r⟩ := A; exact ⟨c, A.other W q, r⟩
theorem Ary.keep (A : Ary Z h a ty vs) (K : Keep h h' ws) (q : a ∉ ws) : Ary Z h' a ty vs := by obtain ⟨c, A, r⟩ := A; exact ⟨c, ⟨K.2.1 a c A.1 q, A.2⟩, r⟩
theorem Ary.same (A : Ary Z h a ty vs) (W : Wr h h' a i v) : Ary Z h' a ty (vs.set i v) := by
  obtain ⟨c, A, r⟩ := A
  refine ⟨_, A.same W, ?_⟩
  rw [← r]
  simp [Cell.setSlot, Array.toList_setIfInBounds]
theorem Ary.cast {vs' : List Value} (A : Ary Z h a ty vs) (e : vs = vs') : Ary Z h a ty vs' := e ▸ A
theorem ary_new {cA : ClassId} {z : Int32} (A : Arr Z h a (newA cA ty z) ty) : Ary Z h a ty (List.replicate z.toNatClampNeg (defaultValue ty)) := ⟨_, A, by simp [newA]⟩
theorem idx_ok {i n : Nat} (hi : i < n) (hn : n < 2 ^ 31) : ¬ (Int32.ofNat i < 0 ∨ n ≤ (Int32.ofNat i).toNatClampNeg) := idx_in hi hn
theorem idx_nat {i : Nat} (hi : i < 2 ^ 31) : (Int32.ofNat i).toNatClampNeg = i := by
  have q : (Int32.ofNat i).toInt = i := Int32.toInt_ofNat_of_lt (by omega)
  simp only [Int32.toNatClampNeg, q]; omega
end AryFacts
section AryRules
variable {l : Launch} {R : Room} {n0 : Nat} {K : Cx} {Q : Option Value → Heap → Prop} {h : Heap} {k n k' n' : Nat} {pc pc' : Nat} {Ls Ls' : Array Slot} {st rest : List Value} {Z : State} {code : ByteArray} {own nm : String} {maxL : Nat} {ret : Option FieldType} {a0 : Array Value}
theorem w_arraylength (ok : Ok Z K code own nm maxL ret) {a : Addr} {ty : FieldType} {vs : List Value} (A : Ary Z h a ty vs) (hd : Fet code pc pc' .arraylength 1) (hr : Wp l R n0 K Q h k n pc' Ls (.int (Int32.ofNat vs.length) :: st)) : Wp l R n0 K Q h k n pc Ls (.ref a :: st) := by
  obtain ⟨p, e, s, m, args, below, meth, c⟩ := K
  obtain ⟨hx, hby, hZ, hown, hnm, hml, hret, hlk⟩ := ok
  obtain ⟨hd, rfl⟩ := hd
  intro T locs X hT hF
  obtain ⟨c, A, rfl⟩ := A
  obtain ⟨s₂, o, h1, h2⟩ := hr T locs X hT hF
  exact ⟨s₂, o, X.arraylength hx (by rw [hT]; exact A.1) (State.isArrayOf_alike hZ.alike A.2.1) (g := mkF m pc Ls (.ref a :: st)) rfl rfl (hb hby hd) _ (by rw [Array.length_toList] at h1; exact h1), h2⟩
theorem w_iaload (ok : Ok Z K code own nm maxL ret) {a : Addr} {i : Nat} {v : Value} {vs : List Value} (A : Ary Z h a .int vs) (hl : vs.length < 2 ^ 31) (hv : vs[i]? = some v) (hd : Fet code pc pc' .iaload 1) (hr : Wp l R n0 K Q h k n pc' Ls (v :: st)) : Wp l R n0 K Q h k n pc Ls (.int (Int32.ofNat i) :: .ref a :: st) := by
  obtain ⟨p, e, s, m, args, below, meth, c⟩ := K
  obtain ⟨hx, hby, hZ, hown, hnm, hml, hret, hlk⟩ := ok
  obtain ⟨hd, rfl⟩ := hd
  intro T locs X hT hF
  obtain ⟨c, A, rfl⟩ := A
  obtain ⟨s₂, o, h1, h2⟩ := hr T locs X hT hF
  have hi : i < c.slots.toList.length := (List.getElem?_eq_some_iff.mp hv).1
  rw [Array.length_toList] at hi hl
  exact ⟨s₂, o, X.iaload hx (j := Int32.ofNat i) (v := v) (by rw [hT]; exact A.1) (State.isArrayOf_alike hZ.alike A.2.1) A.2.2 (idx_ok hi hl) (by rw [idx_nat (Nat.lt_trans hi hl), ← hv, Array.getElem?_toList]) (g := mkF m pc Ls (.int (Int32.ofNat i) :: .ref a :: st)) rfl rfl (hb hby hd) _ h1, h2⟩
theorem w_laload (ok : Ok Z K code own nm maxL ret) {a : Addr} {i : Nat} {v : Value} {vs : List Value} (A : Ary Z h a .long vs) (hl : vs.length < 2 ^ 31) (hv : vs[i]? = some v) (hd : Fet code pc pc' .laload 1) (hr : Wp l R n0 K Q h k n pc' Ls (v :: st)) : Wp l R n0 K Q h k n pc Ls (.int (Int32.ofNat i) :: .ref a :: st) := by
  obtain ⟨p, e, s, m, args, below, meth, c⟩ := K
  obtain ⟨hx, hby, hZ, hown, hnm, hml, hret, hlk⟩ := ok
  obtain ⟨hd, rfl⟩ := hd
  intro T locs X hT hF
  obtain ⟨c, A, rfl⟩ := A
  obtain ⟨s₂, o, h1, h2⟩ := hr T locs X hT hF
  have hi : i < c.slots.toList.length := (List.getElem?_eq_some_iff.mp hv).1
  rw [Array.length_toList] at hi hl
  exact ⟨s₂, o, X.laload hx (j := Int32.ofNat i) (v := v) (by rw [hT]; exact A.1) (State.isArrayOf_alike hZ.alike A.2.1) A.2.2 (idx_ok hi hl) (by rw [idx_nat (Nat.lt_trans hi hl), ← hv, Array.getElem?_toList]) (g := mkF m pc Ls (.int (Int32.ofNat i) :: .ref a :: st)) rfl rfl (hb hby hd) _ h1, h2⟩
theorem w_baloadB (ok : Ok Z K code own nm maxL ret) {a : Addr} {i : Nat} {v : Value} {vs : List Value} (A : Ary Z h a .byte vs) (hl : vs.length < 2 ^ 31) (hv : vs[i]? = some v) (hd : Fet code pc pc' .baload 1) (hr : Wp l R n0 K Q h k n pc' Ls (v :: st)) : Wp l R n0 K Q h k n pc Ls (.int (Int32.ofNat i) :: .ref a :: st) := by
  obtain ⟨p, e, s, m, args, below, meth, c⟩ := K
  obtain ⟨hx, hby, hZ, hown, hnm, hml, hret, hlk⟩ := ok
  obtain ⟨hd, rfl⟩ := hd
  intro T locs X hT hF
  obtain ⟨c, A, rfl⟩ := A
  obtain ⟨s₂, o, h1, h2⟩ := hr T locs X hT hF
  have hi : i < c.slots.toList.length := (List.getElem?_eq_some_iff.mp hv).1
  rw [Array.length_toList] at hi hl
  exact ⟨s₂, o, X.baloadBytes hx (j := Int32.ofNat i) (v := v) (by rw [hT]; exact A.1) (State.isArrayOf_alike hZ.alike A.2.1) A.2.2 (idx_ok hi hl) (by rw [idx_nat (Nat.lt_trans hi hl), ← hv, Array.getElem?_toList]) (g := mkF m pc Ls (.int (Int32.ofNat i) :: .ref a :: st)) rfl rfl (hb hby hd) _ h1, h2⟩
theorem w_baloadZ (ok : Ok Z K code own nm maxL ret) {a : Addr} {i : Nat} {v : Value} {vs : List Value} (A : Ary Z h a .boolean vs) (hl : vs.length < 2 ^ 31) (hv : vs[i]? = some v) (hd : Fet code pc pc' .baload 1) (hr : Wp l R n0 K Q h k n pc' Ls (v :: st)) : Wp l R n0 K Q h k n pc Ls (.int (Int32.ofNat i) :: .ref a :: st) := by
  obtain ⟨p, e, s, m, args, below, meth, c⟩ := K
  obtain ⟨hx, hby, hZ, hown, hnm, hml, hret, hlk⟩ := ok
  obtain ⟨hd, rfl⟩ := hd
  intro T locs X hT hF
  obtain ⟨c, A, rfl⟩ := A
  obtain ⟨s₂, o, h1, h2⟩ := hr T locs X hT hF
  have hi : i < c.slots.toList.length := (List.getElem?_eq_some_iff.mp hv).1
  rw [Array.length_toList] at hi hl
  exact ⟨s₂, o, X.baloadBooleans hx (j := Int32.ofNat i) (v := v) (by rw [hT]; exact A.1) (State.isArrayOf_alike hZ.alike A.2.1) A.2.2 (idx_ok hi hl) (by rw [idx_nat (Nat.lt_trans hi hl), ← hv, Array.getElem?_toList]) (g := mkF m pc Ls (.int (Int32.ofNat i) :: .ref a :: st)) rfl rfl (hb hby hd) _ h1, h2⟩
theorem w_iastore' (ok : Ok Z K code own nm maxL ret) {a : Addr} {i : Nat} {x : Int32} {vs : List Value} (A : Ary Z h a .int vs) (hl : vs.length < 2 ^ 31) (hi : i < vs.length) (ha : n0 ≤ a) (hd : Fet code pc pc' .iastore 1)
    (hr : ∀ h', Wr h h' a i (.int x) → Ary Z h' a .int (vs.set i (.int x)) → Wp l R n0 K Q h' k n pc' Ls st) : Wp l R n0 K Q h k n pc Ls ((.int x) :: .int (Int32.ofNat i) :: .ref a :: st) := by
  have A0 := A
  obtain ⟨c, A, rfl⟩ := A
  rw [Array.length_toList] at hi hl
  refine w_iastore ok A (idx_ok hi hl) ha hd (fun h' W => ?_)
  rw [idx_nat (Nat.lt_trans hi hl)] at W
  exact hr h' W (A0.same W)
theorem w_lastore' (ok : Ok Z K code own nm maxL ret) {a : Addr} {i : Nat} {x : Int64} {vs : List Value} (A : Ary Z h a .long vs) (hl : vs.length < 2 ^ 31) (hi : i < vs.length) (ha : n0 ≤ a) (hd : Fet code pc pc' .lastore 1)
    (hr : ∀ h', Wr h h' a i (.long x) → Ary Z h' a .long (vs.set i (.long x)) → Wp l R n0 K Q h' k n pc' Ls st) : Wp l R n0 K Q h k n pc Ls ((.long x) :: .int (Int32.ofNat i) :: .ref a :: st) := by
  have A0 := A
  obtain ⟨c, A, rfl⟩ := A
  rw [Array.length_toList] at hi hl
  refine w_lastore ok A (idx_ok hi hl) ha hd (fun h' W => ?_)
  rw [idx_nat (Nat.lt_trans hi hl)] at W
  exact hr h' W (A0.same W)
theorem w_bastoreB' (ok : Ok Z K code own nm maxL ret) {a : Addr} {i : Nat} {x : Int32} {vs : List Value} (A : Ary Z h a .byte vs) (hl : vs.length < 2 ^ 31) (hi : i < vs.length) (ha : n0 ≤ a) (hd : Fet code pc pc' .bastore 1)
    (hr : ∀ h', Wr h h' a i (.int (nar .byte x)) → Ary Z h' a .byte (vs.set i (.int (nar .byte x))) → Wp l R n0 K Q h' k n pc' Ls st) : Wp l R n0 K Q h k n pc Ls ((.int x) :: .int (Int32.ofNat i) :: .ref a :: st) := by
  have A0 := A
  obtain ⟨c, A, rfl⟩ := A
  rw [Array.length_toList] at hi hl
  refine w_bastoreB ok A (idx_ok hi hl) ha hd (fun h' W => ?_)
  rw [idx_nat (Nat.lt_trans hi hl)] at W
  exact hr h' W (A0.same W)
theorem w_bastoreZ' (ok : Ok Z K code own nm maxL ret) {a : Addr} {i : Nat} {x : Int32} {vs : List Value} (A : Ary Z h a .boolean vs) (hl : vs.length < 2 ^ 31) (hi : i < vs.length) (ha : n0 ≤ a) (hd : Fet code pc pc' .bastore 1)
    (hr : ∀ h', Wr h h' a i (.int (nar .boolean x)) → Ary Z h' a .boolean (vs.set i (.int (nar .boolean x))) → Wp l R n0 K Q h' k n pc' Ls st) : Wp l R n0 K Q h k n pc Ls ((.int x) :: .int (Int32.ofNat i) :: .ref a :: st) := by
  have A0 := A
  obtain ⟨c, A, rfl⟩ := A
  rw [Array.length_toList] at hi hl
  refine w_bastoreZ ok A (idx_ok hi hl) ha hd (fun h' W => ?_)
  rw [idx_nat (Nat.lt_trans hi hl)] at W
  exact hr h' W (A0.same W)
theorem w_aaload (ok : Ok Z K code own nm maxL ret) {a : Addr} {cl : Cell} {j : Int32} {v : Value} {ty : FieldType} (A : Arr Z h a cl ty) (hty : ty.isReference = true) (hj : ¬ (j < 0 ∨ cl.slots.size ≤ j.toNatClampNeg)) (hv : cl.slots[j.toNatClampNeg]? = some v) (hd : Fet code pc pc' .aaload 1) (hr : Wp l R n0 K Q h k n pc' Ls (v :: st)) : Wp l R n0 K Q h k n pc Ls (.int j :: .ref a :: st) := by
  obtain ⟨p, e, s, m, args, below, meth, c⟩ := K
  obtain ⟨hx, hby, hZ, hown, hnm, hml, hret, hlk⟩ := ok
  obtain ⟨hd, rfl⟩ := hd
  intro T locs X hT hF
  obtain ⟨s₂, o, h1, h2⟩ := hr T locs X hT hF
  exact ⟨s₂, o, X.aaload hx (j := j) (v := v) (by rw [hT]; exact A.1) (State.isArrayOf_alike hZ.alike A.2.1) hty A.2.2 hj hv (g := mkF m pc Ls (.int j :: .ref a :: st)) rfl rfl (hb hby hd) _ h1, h2⟩
theorem w_checkcast (ok : Ok Z K code own nm maxL ret) {C : String} {i : Nat} {a : Addr} (w : (Cond.classLink own i C).before a0 Z = true) (F : Ins Z h a C true) (hd : Fet code pc pc' (.checkcast i) 3) (hr : Wp l R n0 K Q h k n pc' Ls (.ref a :: st)) : Wp l R n0 K Q h k n pc Ls (.ref a :: st) := by
  obtain ⟨p, e, s, m, args, below, meth, c⟩ := K
  obtain ⟨hx, hby, hZ, hown, hnm, hml, hret, hlk⟩ := ok
  obtain ⟨hd, rfl⟩ := hd
  intro T locs X hT hF
  obtain ⟨T', X', e', stp⟩ := castY X hx hZ hown w hT F (g := mkF m pc Ls (.ref a :: st)) rfl rfl (hb hby hd)
  obtain ⟨s₂, o, h1, h2⟩ := hr T' locs X' e' hF
  exact ⟨s₂, o, stp _ h1, h2⟩
theorem w_checkcastNull (ok : Ok Z K code own nm maxL ret) {i : Nat} (hd : Fet code pc pc' (.checkcast i) 3) (hr : Wp l R n0 K Q h k n pc' Ls (.null :: st)) : Wp l R n0 K Q h k n pc Ls (.null :: st) := by
  obtain ⟨p, e, s, m, args, below, meth, c⟩ := K
  obtain ⟨hx, hby, hZ, hown, hnm, hml, hret, hlk⟩ := ok
  obtain ⟨hd, rfl⟩ := hd
  intro T locs X hT hF
  obtain ⟨s₂, o, h1, h2⟩ := hr T locs X hT hF
  exact ⟨s₂, o, X.checkcastNull hx (g := mkF m pc Ls (.null :: st)) rfl rfl (hb hby hd) _ h1, h2⟩
theorem w_instanceof (ok : Ok Z K code own nm maxL ret) {C : String} {i : Nat} {a : Addr} (w : (Cond.classLink own i C).before a0 Z = true) (F : Ins Z h a C true) (hd : Fet code pc pc' (.instanceof i) 3) (hr : Wp l R n0 K Q h k n pc' Ls (.int 1 :: st)) : Wp l R n0 K Q h k n pc Ls (.ref a :: st) := by
  obtain ⟨p, e, s, m, args, below, meth, c⟩ := K
  obtain ⟨hx, hby, hZ, hown, hnm, hml, hret, hlk⟩ := ok
  obtain ⟨hd, rfl⟩ := hd
  intro T locs X hT hF
  obtain ⟨T', X', e', stp⟩ := instY X hx hZ hown w hT F (g := mkF m pc Ls (.ref a :: st)) rfl rfl (hb hby hd)
  obtain ⟨s₂, o, h1, h2⟩ := hr T' locs X' e' hF
  exact ⟨s₂, o, stp _ h1, h2⟩
theorem sta_keep0 {h' : Heap} {C f d : String} {v : Value} (F : Sta Z h C f d v) (K : Keep h h' []) : Sta Z h' C f d v := by
  obtain ⟨cf, i, k, f, st, cell, h1, h2, h3, h4, h5, r⟩ := F
  exact ⟨cf, i, k, f, st, cell, h1, h2, h3, h4, K.2.1 _ _ h5 (fun q => nomatch q), r⟩

end AryRules
end Jvm.WpK
namespace Jvm.Pilot.@@N@@
open Jvm Jvm.ClassFile Sem Op Lib Jvm.Free Jvm.Stand Jvm.LawKit Jvm.RoadKit Jvm.WpK Bundle Jvm.Pilot.@@N@@.Jvm.D
/-- is it a digit's byte? -/
def own_dgt (b : Int32) : Int32 := if b < 48 then 0 else if 57 < b then 0 else 1
def own_fold : Int64 → List Int32 → Int64
  | acc, [] => acc
  | acc, b :: bs => if own_dgt b = 0 then -1 else own_fold (acc * 10 + (b - 48).toInt64) bs
def own_num (bs : List Int32) : Int64 := if bs.length = 0 then -1 else if 18 < bs.length then -1 else own_fold 0 bs
def own_dig (big place : Int64) : Int32 := nar .byte ((48 : Int32) + ((big / place) % (10 : Int64)).toInt32).toInt8.toInt32
abbrev own_by (bs : List Int32) : List Value := bs.map fun b => .int b
theorem own_byte2 (x : Int32) : nar .byte x.toInt8.toInt32 = x.toInt8.toInt32 := by
  show x.toInt8.toInt32.toInt8.toInt32 = x.toInt8.toInt32
  rw [Int8.toInt8_toInt32]
theorem own_ltN {i n : Nat} (hi : i < 2 ^ 31) (hn : n < 2 ^ 31) : Int32.ofNat i < Int32.ofNat n ↔ i < n := by
  rw [Int32.lt_iff_toInt_lt, Int32.toInt_ofNat_of_lt (by omega), Int32.toInt_ofNat_of_lt (by omega)]
  omega
theorem own_inc (i : Nat) : Int32.ofNat i + (1 : Int32) = Int32.ofNat (i + 1) := (Int32.ofNat_succ i).symm ▸ rfl
theorem own_dgt_lo {b : Int32} (h : b < 48) : own_dgt b = 0 := by simp [own_dgt, h]
theorem own_dgt_hi {b : Int32} (h : ¬ b < 48) (g : 57 < b) : own_dgt b = 0 := by simp [own_dgt, h, g]
theorem own_dgt_in {b : Int32} (h : ¬ b < 48) (g : ¬ 57 < b) : ¬ own_dgt b = 0 := by simp [own_dgt, h, g]
theorem own_fold_no {acc : Int64} {b : Int32} {bs : List Int32} (h : own_dgt b = 0) : own_fold acc (b :: bs) = -1 := by simp [own_fold, h]
theorem own_fold_yes {acc : Int64} {b : Int32} {bs : List Int32} (h : ¬ own_dgt b = 0) : own_fold acc (b :: bs) = own_fold (acc * 10 + (b - 48).toInt64) bs := by simp [own_fold, h]
theorem own_fold_bad : ∀ (bs : List Int32) (acc : Int64) (b : Int32), b ∈ bs → own_dgt b = 0 → own_fold acc bs = -1
  | c :: bs, acc, b, hm, h => by
    by_cases q : own_dgt c = 0
    · exact own_fold_no q
    · rw [own_fold_yes q]
      rcases List.mem_cons.mp hm with rfl | hm
      · exact absurd h q
      · exact own_fold_bad bs _ b hm h
theorem own_set (l vs : List Value) (i : Nat) (hl : l.length = i) (hi : i < vs.length) (v : Value) : (l ++ vs.drop i).set i v = (l ++ [v]) ++ vs.drop (i + 1) := by
  subst hl
  rw [List.set_append_right _ _ (Nat.le_refl _), Nat.sub_self, List.drop_eq_getElem_cons hi]
  simp only [List.set_cons_zero, List.append_assoc, List.cons_append, List.nil_append]
/-- Horner's sum -/
def own_hor : Int → List Int → Int
  | a, [] => a
  | a, d :: ds => own_hor (a * 10 + d) ds
theorem own_hor_lin : ∀ (ds : List Int) (a e : Int), own_hor (a + e) ds = own_hor a ds + e * 10 ^ ds.length
  | [], a, e => by simp [own_hor]
  | d :: ds, a, e => by
    show own_hor ((a + e) * 10 + d) ds = own_hor (a * 10 + d) ds + e * 10 ^ (ds.length + 1)
    rw [show (a + e) * 10 + d = (a * 10 + d) + e * 10 by omega, own_hor_lin ds, Int.pow_succ, Int.mul_assoc, Int.mul_comm 10]
theorem own_hor_set : ∀ (ds : List Int) (k : Nat) (a d : Int) (hk : k < ds.length), own_hor a (ds.set k d) = own_hor a ds + (d - ds[k]) * 10 ^ (ds.length - 1 - k)
  | c :: ds, 0, a, d, hk => by
    show own_hor (a * 10 + d) ds = own_hor (a * 10 + c) ds + (d - c) * 10 ^ (ds.length + 1 - 1 - 0)
    rw [show a * 10 + d = (a * 10 + c) + (d - c) by omega, own_hor_lin ds]
    simp
  | c :: ds, k + 1, a, d, hk => by
    have hk' : k < ds.length := by simpa using hk
    show own_hor (a * 10 + c) (ds.set k d) = own_hor (a * 10 + c) ds + (d - ds[k]) * 10 ^ (ds.length + 1 - 1 - (k + 1))
    rw [own_hor_set ds k _ d hk', show ds.length - 1 - k = ds.length + 1 - 1 - (k + 1) by omega]
theorem own_fold_hor : ∀ (bs : List Int32) (ds : List Int) (a : Int), bs.map (fun b => (b - 48).toInt64) = ds.map Int64.ofInt → (∀ b ∈ bs, ¬ own_dgt b = 0) → own_fold (Int64.ofInt a) bs = Int64.ofInt (own_hor a ds)
  | [], [], a, _, _ => rfl
  | b :: bs, d :: ds, a, e, h => by
    have e1 : (b - 48).toInt64 = Int64.ofInt d := (List.cons.inj e).1
    have e2 := (List.cons.inj e).2
    rw [own_fold_yes (h b List.mem_cons_self), e1, show Int64.ofInt a * 10 + Int64.ofInt d = Int64.ofInt (a * 10 + d) by rw [Int64.ofInt_add, Int64.ofInt_mul]; rfl]
    exact own_fold_hor bs ds _ e2 (fun c hc => h c (List.mem_cons_of_mem _ hc))
theorem own_mod (x : Int32) {m : Nat} (h0 : 0 < m) (h1 : m < 2 ^ 31) : ∃ k : Nat, k < m ∧ (x &&& 2147483647) % Int32.ofNat m = Int32.ofNat k := by
  have h2 : (x &&& 2147483647).toBitVec.toNat < 2 ^ 31 := by
    rw [Int32.toBitVec_and, BitVec.toNat_and]
    exact Nat.lt_of_le_of_lt Nat.and_le_right (by decide)
  have e3 : (x &&& 2147483647).toInt = ((x &&& 2147483647).toBitVec.toNat : Int) := BitVec.toInt_eq_toNat_of_lt (by omega)
  generalize (x &&& 2147483647) = y at *
  refine ⟨y.toBitVec.toNat % m, Nat.mod_lt _ h0, ?_⟩
  have l := Nat.mod_lt y.toBitVec.toNat h0
  apply Int32.toInt_inj.mp
  rw [Int32.toInt_mod, e3, Int32.toInt_ofNat_of_lt h1, Int32.toInt_ofNat_of_lt (by omega), Int.tmod_eq_emod_of_nonneg (by omega)]
  omega
theorem own_dig_toInt {big place : Int64} (hb : 0 ≤ big.toInt) (hp : 0 < place.toInt) : (own_dig big place).toInt = 48 + big.toInt / place.toInt % 10 := by
  have l1 := Int.emod_nonneg (big.toInt / place.toInt) (show (10 : Int) ≠ 0 by decide)
  have l2 := Int.emod_lt_of_pos (big.toInt / place.toInt) (show (0 : Int) < 10 by decide)
  have q0 : 0 ≤ big.toInt / place.toInt := Int.ediv_nonneg hb (by omega)
  have q1 : big.toInt / place.toInt ≤ big.toInt := Int.ediv_le_self _ hb
  have hb2 := Int64.toInt_lt big
  have e1 : (big / place).toInt = big.toInt / place.toInt := by
    rw [Int64.toInt_div, Int.tdiv_eq_ediv_of_nonneg hb]
    exact Int.bmod_eq_of_le (by omega) (by omega)
  have e2 : ((big / place) % (10 : Int64)).toInt = big.toInt / place.toInt % 10 := by
    rw [Int64.toInt_mod, e1, show (10 : Int64).toInt = 10 by decide, Int.tmod_eq_emod_of_nonneg q0]
  have e3 : ((48 : Int32) + ((big / place) % (10 : Int64)).toInt32).toInt = 48 + big.toInt / place.toInt % 10 := by
    rw [Int32.toInt_add, Int64.toInt_toInt32, e2, show (48 : Int32).toInt = 48 by decide, Int.bmod_eq_of_le (n := big.toInt / place.toInt % 10) (by omega) (by omega)]
    exact Int.bmod_eq_of_le (by omega) (by omega)
  rw [own_dig, own_byte2, Int8.toInt_toInt32, Int32.toInt_toInt8, e3]
  exact Int.bmod_eq_of_le (by omega) (by omega)
theorem own_dig_digit {big place : Int64} (hb : 0 ≤ big.toInt) (hp : 0 < place.toInt) : ¬ own_dgt (own_dig big place) = 0 := by
  have e := own_dig_toInt hb hp
  have l1 := Int.emod_nonneg (big.toInt / place.toInt) (show (10 : Int) ≠ 0 by decide)
  have l2 := Int.emod_lt_of_pos (big.toInt / place.toInt) (show (0 : Int) < 10 by decide)
  apply own_dgt_in
  · rw [Int32.lt_iff_toInt_lt, e, show (48 : Int32).toInt = 48 by decide]; omega
  · rw [Int32.lt_iff_toInt_lt, e, show (57 : Int32).toInt = 57 by decide]; omega
theorem own_dig_sub {big place : Int64} (hb : 0 ≤ big.toInt) (hp : 0 < place.toInt) : (own_dig big place - 48).toInt64 = Int64.ofInt (big.toInt / place.toInt % 10) := by
  have e := own_dig_toInt hb hp
  have l1 := Int.emod_nonneg (big.toInt / place.toInt) (show (10 : Int) ≠ 0 by decide)
  have l2 := Int.emod_lt_of_pos (big.toInt / place.toInt) (show (0 : Int) < 10 by decide)
  apply Int64.toInt_inj.mp
  rw [Int32.toInt_toInt64, Int32.toInt_sub, e, show (48 : Int32).toInt = 48 by decide, Int64.toInt_ofInt_of_le (by omega) (by omega), Int.bmod_eq_of_le (by omega) (by omega)]
  omega
def own_ps : List Int64 := [1, 10, 100, 1000, 10000, 100000, 1000000, 10000000, 100000000, 1000000000, 10000000000, 100000000000, 1000000000000, 10000000000000, 100000000000000, 1000000000000000, 10000000000000000, 100000000000000000]
def own_digs (big : Int64) : List Int32 := own_ps.reverse.map (own_dig big)
def own_ds (B : Int) : List Int := own_ps.reverse.map (fun p => B / p.toInt % 10)
theorem own_ps_pos : ∀ p ∈ own_ps.reverse, 0 < p.toInt := by decide
theorem own_digs_ok {big : Int64} (hb : 0 ≤ big.toInt) : ∀ b ∈ own_digs big, ¬ own_dgt b = 0 := by
  intro b hm
  obtain ⟨p, hp, rfl⟩ := List.mem_map.mp hm
  exact own_dig_digit hb (own_ps_pos p hp)
theorem own_digs_sub {big : Int64} (hb : 0 ≤ big.toInt) : (own_digs big).map (fun b => (b - 48).toInt64) = (own_ds big.toInt).map Int64.ofInt := by
  rw [own_digs, own_ds, List.map_map, List.map_map]
  apply List.map_congr_left
  intro p hp
  exact own_dig_sub hb (own_ps_pos p hp)
theorem own_ps_int : own_ps.reverse.map Int64.toInt = [100000000000000000, 10000000000000000, 1000000000000000, 100000000000000, 10000000000000, 1000000000000, 100000000000, 10000000000, 1000000000, 100000000, 10000000, 1000000, 100000, 10000, 1000, 100, 10, 1] := by decide
theorem own_ds_eq (B : Int) : own_ds B = [B / 100000000000000000 % 10, B / 10000000000000000 % 10, B / 1000000000000000 % 10, B / 100000000000000 % 10, B / 10000000000000 % 10, B / 1000000000000 % 10, B / 100000000000 % 10, B / 10000000000 % 10, B / 1000000000 % 10, B / 100000000 % 10, B / 10000000 % 10, B / 1000000 % 10, B / 100000 % 10, B / 10000 % 10, B / 1000 % 10, B / 100 % 10, B / 10 % 10, B / 1 % 10] := by
  have e : own_ds B = (own_ps.reverse.map Int64.toInt).map (fun p => B / p % 10) := by rw [List.map_map]; rfl
  rw [e, own_ps_int]; rfl
theorem own_hor_step {B P P' : Int} (hP : P' = P * 10) (h0 : 0 < P) (ds : List Int) : own_hor (B / P') (B / P % 10 :: ds) = own_hor (B / P) ds := by
  show own_hor (B / P' * 10 + B / P % 10) ds = _
  rw [hP, ← Int.ediv_ediv_of_nonneg (Int.le_of_lt h0)]
  congr 1
  omega
theorem own_hor_ds {B : Int} (h0 : 0 ≤ B) (h1 : B < 1000000000000000000) : own_hor 0 (own_ds B) = B := by
  have z : (0 : Int) = B / 1000000000000000000 := (Int.ediv_eq_zero_of_lt h0 h1).symm
  rw [own_ds_eq, z]
  rw [own_hor_step (P' := 1000000000000000000) (P := 100000000000000000) (by decide) (by decide)]
  rw [own_hor_step (P' := 100000000000000000) (P := 10000000000000000) (by decide) (by decide)]
  rw [own_hor_step (P' := 10000000000000000) (P := 1000000000000000) (by decide) (by decide)]
  rw [own_hor_step (P' := 1000000000000000) (P := 100000000000000) (by decide) (by decide)]
  rw [own_hor_step (P' := 100000000000000) (P := 10000000000000) (by decide) (by decide)]
  rw [own_hor_step (P' := 10000000000000) (P := 1000000000000) (by decide) (by decide)]
  rw [own_hor_step (P' := 1000000000000) (P := 100000000000) (by decide) (by decide)]
  rw [own_hor_step (P' := 100000000000) (P := 10000000000) (by decide) (by decide)]
  rw [own_hor_step (P' := 10000000000) (P := 1000000000) (by decide) (by decide)]
  rw [own_hor_step (P' := 1000000000) (P := 100000000) (by decide) (by decide)]
  rw [own_hor_step (P' := 100000000) (P := 10000000) (by decide) (by decide)]
  rw [own_hor_step (P' := 10000000) (P := 1000000) (by decide) (by decide)]
  rw [own_hor_step (P' := 1000000) (P := 100000) (by decide) (by decide)]
  rw [own_hor_step (P' := 100000) (P := 10000) (by decide) (by decide)]
  rw [own_hor_step (P' := 10000) (P := 1000) (by decide) (by decide)]
  rw [own_hor_step (P' := 1000) (P := 100) (by decide) (by decide)]
  rw [own_hor_step (P' := 100) (P := 10) (by decide) (by decide)]
  rw [own_hor_step (P' := 10) (P := 1) (by decide) (by decide)]
  show B / 1 = B
  exact Int.ediv_one B
theorem own_place : ∀ k : Fin 18, (own_ps.getD (17 - k.val) 0).toInt = 10 ^ (17 - k.val) := by decide
theorem own_ds_at (B : Int) (k : Nat) (hk : k < 18) (hl : k < (own_ds B).length) : (own_ds B)[k] = B / 10 ^ (17 - k) % 10 := by
  have hl' : k < own_ps.reverse.length := hk
  have h : ∀ k : Fin 18, (own_ps.reverse.getD k.val 0).toInt = 10 ^ (17 - k.val) := by decide
  have h2 := h ⟨k, hk⟩
  simp only at h2
  have e : own_ps.reverse.getD k 0 = own_ps.reverse[k] := by rw [List.getD_eq_getElem?_getD, List.getElem?_eq_getElem hl']; rfl
  rw [e] at h2
  simp only [own_ds, List.getElem_map]
  rw [h2]
/-- the law's fifth case -/
theorem own_five {big : Int64} (hb : 0 ≤ big.toInt) (hb2 : big.toInt < 1000000000000000000) {k : Nat} (hk : k < 18) {c : Int32} (hc : ¬ own_dgt c = 0) :
    own_num ((own_digs big).set k c) = big - ((big / own_ps.getD (17 - k) 0) % 10) * own_ps.getD (17 - k) 0 + (c - 48).toInt64 * own_ps.getD (17 - k) 0 := by
  have hp := own_place ⟨k, hk⟩
  simp only at hp
  have hlen : (own_digs big).length = 18 := rfl
  have hlen2 : (own_ds big.toInt).length = 18 := rfl
  have hd := own_ds_at big.toInt k hk (by omega)
  rw [own_num, if_neg (by simp [hlen]), if_neg (by simp [hlen])]
  have e0 : (0 : Int64) = Int64.ofInt 0 := rfl
  have key : own_fold (0 : Int64) ((own_digs big).set k c) = Int64.ofInt (own_hor 0 ((own_ds big.toInt).set k (c - 48).toInt64.toInt)) := by
    rw [e0]
    refine own_fold_hor _ _ 0 ?_ ?_
    · rw [List.map_set, List.map_set, own_digs_sub hb, Int64.ofInt_toInt]
    · intro b hm
      rcases List.mem_or_eq_of_mem_set hm with h | rfl
      · exact own_digs_ok hb b h
      · exact hc
  rw [key, own_hor_set _ _ _ _ (by omega), own_hor_ds hb hb2, hd, hlen2]
  generalize own_ps.getD (17 - k) 0 = P at *
  have P0 : 0 < P.toInt := by rw [hp]; exact Int.pow_pos (by decide)
  rw [show 18 - 1 - k = 17 - k by omega, ← hp]
  have ep : P = Int64.ofInt P.toInt := by simp
  have eb : big = Int64.ofInt big.toInt := by simp
  have ec : (c - 48).toInt64 = Int64.ofInt (c - 48).toInt64.toInt := (Int64.ofInt_toInt _).symm
  have eo : (big / P) % 10 = Int64.ofInt (big.toInt / P.toInt % 10) := by
    have q0 : 0 ≤ big.toInt / P.toInt := Int.ediv_nonneg hb (by omega)
    have q1 : big.toInt / P.toInt ≤ big.toInt := Int.ediv_le_self _ hb
    have l1 := Int.emod_nonneg (big.toInt / P.toInt) (show (10 : Int) ≠ 0 by decide)
    have l2 := Int.emod_lt_of_pos (big.toInt / P.toInt) (show (0 : Int) < 10 by decide)
    have e1 : (big / P).toInt = big.toInt / P.toInt := by
      rw [Int64.toInt_div, Int.tdiv_eq_ediv_of_nonneg hb]
      exact Int.bmod_eq_of_le (by omega) (by omega)
    apply Int64.toInt_inj.mp
    rw [Int64.toInt_mod, e1, show (10 : Int64).toInt = 10 by decide, Int.tmod_eq_emod_of_nonneg q0, Int64.toInt_ofInt_of_le (by omega) (by omega)]
  rw [eo]
  generalize big.toInt / P.toInt % 10 = o
  generalize (c - 48).toInt64 = z at *
  rw [Int64.ofInt_add, Int64.ofInt_mul, Int64.ofInt_sub, ← eb, ← ep, ← ec]
  rw [show (z - Int64.ofInt o) * P = z * P - Int64.ofInt o * P by
    rw [Int64.sub_eq_add_neg, Int64.add_mul, Int64.neg_mul, ← Int64.sub_eq_add_neg]]
  generalize z * P = zp
  generalize Int64.ofInt o * P = op
  apply Int64.toBitVec_inj.mp
  simp only [Int64.toBitVec_add, Int64.toBitVec_sub]
  bv_omega
theorem own_five_no {big : Int64} {k : Nat} (hk : k < 18) {c : Int32} (hc : own_dgt c = 0) : own_num ((own_digs big).set k c) = -1 := by
  have hlen : (own_digs big).length = 18 := rfl
  rw [own_num, if_neg (by simp [hlen]), if_neg (by simp [hlen])]
  exact own_fold_bad _ _ c (List.mem_set (by omega) c) hc
theorem own_eq0 {n : Nat} (hn : n < 2 ^ 31) (h : Int32.ofNat n = 0) : n = 0 := by
  have e := congrArg Int32.toInt h
  rw [Int32.toInt_ofNat_of_lt hn, show (0 : Int32).toInt = 0 by decide] at e
  omega
theorem own_18 {n : Nat} (hn : n < 2 ^ 31) : (18 : Int32) < Int32.ofNat n ↔ 18 < n := own_ltN (i := 18) (by decide) hn
theorem own_dig_nar (b p : Int64) : nar .byte (own_dig b p) = own_dig b p := own_byte2 _
theorem own_lens (l vs : List Value) (i : Nat) (hl : l.length = i) (hi : i ≤ vs.length) : (l ++ vs.drop i).length = vs.length := by
  rw [List.length_append, List.length_drop, hl]; omega
theorem own_big (x : Int64) : 0 ≤ ((x &&& 9223372036854775807) % 1000000000000000000).toInt ∧ ((x &&& 9223372036854775807) % 1000000000000000000).toInt < 1000000000000000000 := by
  have h2 : (x &&& 9223372036854775807).toBitVec.toNat < 2 ^ 63 := by
    rw [Int64.toBitVec_and, BitVec.toNat_and]
    exact Nat.lt_of_le_of_lt Nat.and_le_right (by decide)
  have e3 : (x &&& 9223372036854775807).toInt = ((x &&& 9223372036854775807).toBitVec.toNat : Int) := BitVec.toInt_eq_toNat_of_lt (by omega)
  generalize (x &&& 9223372036854775807) = y at *
  rw [Int64.toInt_mod, show (1000000000000000000 : Int64).toInt = 1000000000000000000 by decide, Int.tmod_eq_emod_of_nonneg (by omega)]
  omega
theorem own_sub17 : ∀ k : Fin 18, (17 : Int32) - Int32.ofNat k.val = Int32.ofNat (17 - k.val) := by decide
theorem own_psat {k : Nat} (hk : k < 18) : (own_ps.map Value.long)[17 - k]? = some (.long (own_ps.getD (17 - k) 0)) := by
  have h : 17 - k < own_ps.length := by show _ < 18; omega
  rw [List.getElem?_map, List.getD_eq_getElem?_getD, List.getElem?_eq_getElem h]; rfl
theorem own_pne {k : Nat} (hk : k < 18) : own_ps.getD (17 - k) 0 ≠ 0 := fun e => by
  have h := own_place ⟨k, hk⟩
  simp only at h
  rw [e] at h
  have : (0 : Int) < 10 ^ (17 - k) := Int.pow_pos (by decide)
  rw [← h] at this
  exact absurd this (by decide)
theorem own_three (x y z : Int64) : ((0 * 10 + x) * 10 + y) * 10 + z = x * 100 + y * 10 + z := by
  rw [Int64.zero_mul, Int64.zero_add, Int64.add_mul, Int64.mul_assoc]; rfl
theorem own_nm {bs : List Int32} (h0 : bs.length ≠ 0) (h1 : bs.length ≤ 18) : own_num bs = own_fold 0 bs := by
  rw [own_num, if_neg h0, if_neg (by omega)]
theorem dN_0 : Fet prog_57_method_7_code 0 1 (.aload_n 0) 1 := ⟨by decide +kernel, rfl⟩
theorem dN_1 : Brn prog_57_method_7_code 1 4 16 (.ifnull 15) 15 := ⟨by decide +kernel, rfl, by decide, by decide⟩
theorem dN_16 : Fet prog_57_method_7_code 16 19 (.ldc2_w 41) 3 := ⟨by decide +kernel, rfl⟩
theorem dN_19 : Fet prog_57_method_7_code 19 20 (.lreturn) 1 := ⟨by decide +kernel, rfl⟩
theorem pn_com_example_holdfast_holdfast_Workload : plainName "com/example/holdfast/holdfast/Workload" = true := by first | (simp [plainName, overriddenIn]; done) | decide +kernel
set_option maxRecDepth 65536 in
set_option maxHeartbeats 4000000 in
theorem rmNull (l : Launch) (Z : State) (a0 : Array Value) (hw : ∀ d ∈ tables_1, d.before a0 Z = true) (n0 : Nat) (h : Heap) :
    ConV l Z n0 (⟨"com/example/holdfast/holdfast/Workload", "number", "([B)J"⟩ : MethodName) prog_57_method_7_code 7 (some .long) [] ({ frames := 0, cells := 0, slots := 0, locals := 0 } : Room) #[.null] h (fun w h' => w = .long (-1) ∧ h = h') := by
  refine con_of_wp (Ls := #[.val .null, .unset, .unset, .unset, .unset, .unset, .unset]) (plainFor_of_name pn_com_example_holdfast_holdfast_Workload) (fun m => by first | (simp [entryFrame, mkF, argsToLocals, Value.category]; done) | rfl) ?_
  intro K ok
  replace ok : Ok Z K prog_57_method_7_code "com/example/holdfast/holdfast/Workload" "number" 7 (some .long) := ok
  show Wp l ({ frames := 0, cells := 0, slots := 0, locals := 0 } : Room) n0 K (fun v h' => ∃ w, v = some w ∧ w = .long (-1) ∧ h = h') h 0 0 0 #[.val .null, .unset, .unset, .unset, .unset, .unset, .unset] []
  refine w_aloadN ok dN_0 rfl rfl ?_
  refine w_ifnull_yes ok dN_1 ?_
  refine w_ldc2 ok (hw _ (List.mem_of_getElem? (i := 5) rfl)) dN_16 ?_
  refine w_lreturn ok dN_19 (Nat.le_of_ble_eq_true rfl) (Nat.le_of_ble_eq_true rfl) ?_
  exact ⟨_, rfl, rfl, rfl⟩
theorem dN_4 : Fet prog_57_method_7_code 4 5 (.aload_n 0) 1 := ⟨by decide +kernel, rfl⟩
theorem dN_5 : Fet prog_57_method_7_code 5 6 (.arraylength) 1 := ⟨by decide +kernel, rfl⟩
theorem dN_6 : Brn prog_57_method_7_code 6 9 16 (.ifCond .eq 10) 10 := ⟨by decide +kernel, rfl, by decide, by decide⟩
theorem dN_9 : Fet prog_57_method_7_code 9 10 (.aload_n 0) 1 := ⟨by decide +kernel, rfl⟩
theorem dN_10 : Fet prog_57_method_7_code 10 11 (.arraylength) 1 := ⟨by decide +kernel, rfl⟩
theorem dN_11 : Fet prog_57_method_7_code 11 13 (.bipush 18) 2 := ⟨by decide +kernel, rfl⟩
theorem dN_13 : Brn prog_57_method_7_code 13 16 20 (.if_icmp .le 7) 7 := ⟨by decide +kernel, rfl, by decide, by decide⟩
theorem dN_20 : Fet prog_57_method_7_code 20 21 (.lconst 0) 1 := ⟨by decide +kernel, rfl⟩
theorem dN_21 : Fet prog_57_method_7_code 21 22 (.lstore_n 1) 1 := ⟨by decide +kernel, rfl⟩
theorem dN_22 : Fet prog_57_method_7_code 22 23 (.aload_n 0) 1 := ⟨by decide +kernel, rfl⟩
theorem dN_23 : Fet prog_57_method_7_code 23 24 (.astore_n 3) 1 := ⟨by decide +kernel, rfl⟩
theorem dN_24 : Fet prog_57_method_7_code 24 25 (.aload_n 3) 1 := ⟨by decide +kernel, rfl⟩
theorem dN_25 : Fet prog_57_method_7_code 25 26 (.arraylength) 1 := ⟨by decide +kernel, rfl⟩
theorem dN_26 : Fet prog_57_method_7_code 26 28 (.istore 4) 2 := ⟨by decide +kernel, rfl⟩
theorem dN_28 : Fet prog_57_method_7_code 28 29 (.iconst 0) 1 := ⟨by decide +kernel, rfl⟩
theorem dN_29 : Fet prog_57_method_7_code 29 31 (.istore 5) 2 := ⟨by decide +kernel, rfl⟩
theorem dN_31 : Fet prog_57_method_7_code 31 33 (.iload 5) 2 := ⟨by decide +kernel, rfl⟩
theorem dN_33 : Fet prog_57_method_7_code 33 35 (.iload 4) 2 := ⟨by decide +kernel, rfl⟩
theorem dN_35 : Brn prog_57_method_7_code 35 38 81 (.if_icmp .ge 46) 46 := ⟨by decide +kernel, rfl, by decide, by decide⟩
theorem dN_81 : Fet prog_57_method_7_code 81 82 (.lload_n 1) 1 := ⟨by decide +kernel, rfl⟩
theorem dN_82 : Fet prog_57_method_7_code 82 83 (.lreturn) 1 := ⟨by decide +kernel, rfl⟩
theorem dN_44 : Fet prog_57_method_7_code 44 46 (.iload 6) 2 := ⟨by decide +kernel, rfl⟩
theorem dN_46 : Fet prog_57_method_7_code 46 48 (.bipush 48) 2 := ⟨by decide +kernel, rfl⟩
theorem dN_48 : Brn prog_57_method_7_code 48 51 58 (.if_icmp .lt 10) 10 := ⟨by decide +kernel, rfl, by decide, by decide⟩
theorem dN_58 : Fet prog_57_method_7_code 58 61 (.ldc2_w 41) 3 := ⟨by decide +kernel, rfl⟩
theorem dN_61 : Fet prog_57_method_7_code 61 62 (.lreturn) 1 := ⟨by decide +kernel, rfl⟩
theorem dN_51 : Fet prog_57_method_7_code 51 53 (.iload 6) 2 := ⟨by decide +kernel, rfl⟩
theorem dN_53 : Fet prog_57_method_7_code 53 55 (.bipush 57) 2 := ⟨by decide +kernel, rfl⟩
theorem dN_55 : Brn prog_57_method_7_code 55 58 62 (.if_icmp .le 7) 7 := ⟨by decide +kernel, rfl, by decide, by decide⟩
theorem dN_62 : Fet prog_57_method_7_code 62 63 (.lload_n 1) 1 := ⟨by decide +kernel, rfl⟩
theorem dN_63 : Fet prog_57_method_7_code 63 66 (.ldc2_w 43) 3 := ⟨by decide +kernel, rfl⟩
theorem dN_66 : Fet prog_57_method_7_code 66 67 (.lmul) 1 := ⟨by decide +kernel, rfl⟩
theorem dN_67 : Fet prog_57_method_7_code 67 69 (.iload 6) 2 := ⟨by decide +kernel, rfl⟩
theorem dN_69 : Fet prog_57_method_7_code 69 71 (.bipush 48) 2 := ⟨by decide +kernel, rfl⟩
theorem dN_71 : Fet prog_57_method_7_code 71 72 (.isub) 1 := ⟨by decide +kernel, rfl⟩
theorem dN_72 : Fet prog_57_method_7_code 72 73 (.i2l) 1 := ⟨by decide +kernel, rfl⟩
theorem dN_73 : Fet prog_57_method_7_code 73 74 (.ladd) 1 := ⟨by decide +kernel, rfl⟩
theorem dN_74 : Fet prog_57_method_7_code 74 75 (.lstore_n 1) 1 := ⟨by decide +kernel, rfl⟩
theorem dN_75 : Fet prog_57_method_7_code 75 78 (.iinc 5 1) 3 := ⟨by decide +kernel, rfl⟩
theorem dN_78 : Brn prog_57_method_7_code 78 81 31 (.goto (-47)) (-47) := ⟨by decide +kernel, rfl, by decide, by decide⟩
theorem dN_38 : Fet prog_57_method_7_code 38 39 (.aload_n 3) 1 := ⟨by decide +kernel, rfl⟩
theorem dN_39 : Fet prog_57_method_7_code 39 41 (.iload 5) 2 := ⟨by decide +kernel, rfl⟩
theorem dN_41 : Fet prog_57_method_7_code 41 42 (.baload) 1 := ⟨by decide +kernel, rfl⟩
theorem dN_42 : Fet prog_57_method_7_code 42 44 (.istore 6) 2 := ⟨by decide +kernel, rfl⟩
set_option maxRecDepth 65536 in
set_option maxHeartbeats 4000000 in
theorem rmNum (l : Launch) (Z : State) (a0 : Array Value) (hw : ∀ d ∈ tables_1, d.before a0 Z = true) (n0 : Nat) (a : Addr) (bs : List Int32) (h : Heap) (A : Ary Z h a .byte (own_by bs)) (hbs : bs.length < 2 ^ 30) :
    ConV l Z n0 (⟨"com/example/holdfast/holdfast/Workload", "number", "([B)J"⟩ : MethodName) prog_57_method_7_code 7 (some .long) [] ({ frames := 0, cells := 0, slots := 0, locals := 0 } : Room) #[(.ref a)] h (fun w h' => w = .long (own_num bs) ∧ h = h') := by
  refine con_of_wp (Ls := #[.val (.ref a), .unset, .unset, .unset, .unset, .unset, .unset]) (plainFor_of_name pn_com_example_holdfast_holdfast_Workload) (fun m => by first | (simp [entryFrame, mkF, argsToLocals, Value.category]; done) | rfl) ?_
  intro K ok
  replace ok : Ok Z K prog_57_method_7_code "com/example/holdfast/holdfast/Workload" "number" 7 (some .long) := ok
  show Wp l ({ frames := 0, cells := 0, slots := 0, locals := 0 } : Room) n0 K (fun v h' => ∃ w, v = some w ∧ w = .long (own_num bs) ∧ h = h') h 0 0 0 #[.val (.ref a), .unset, .unset, .unset, .unset, .unset, .unset] []
  have J16 : ∀ (e : own_num bs = -1), Wp l ({ frames := 0, cells := 0, slots := 0, locals := 0 } : Room) n0 K (fun v h' => ∃ w, v = some w ∧ w = .long (own_num bs) ∧ h = h') h 0 0 16 #[.val (.ref a), .unset, .unset, .unset, .unset, .unset, .unset] [] := by
    intro e
    refine w_ldc2 ok (hw _ (List.mem_of_getElem? (i := 5) rfl)) dN_16 ?_
    refine w_lreturn ok dN_19 (Nat.le_of_ble_eq_true rfl) (Nat.le_of_ble_eq_true rfl) ?_
    exact ⟨_, rfl, congrArg Value.long e.symm, rfl⟩
  refine w_aloadN ok dN_0 rfl rfl ?_
  refine w_ifnull_no ok dN_1 ?_
  refine w_aloadN ok dN_4 rfl rfl ?_
  refine w_arraylength ok A dN_5 ?_
  refine w_int (b := Int32.ofNat bs.length) (congrArg Int32.ofNat (List.length_map _)) ?_
  refine w_if_eq ok dN_6 (fun q1 => ?_) (fun q1 => ?_)
  · exact J16 (by rw [own_num, if_pos (own_eq0 (by omega) q1)])
  · refine w_aloadN ok dN_9 rfl rfl ?_
    refine w_arraylength ok A dN_10 ?_
    refine w_int (b := Int32.ofNat bs.length) (congrArg Int32.ofNat (List.length_map _)) ?_
    refine w_bipush ok (z := 18) dN_11 rfl ?_
    refine w_ic_le ok dN_13 (fun q2 => ?_) (fun q2 => ?_)
    · have hl0 : bs.length ≠ 0 := fun e => q1 (by rw [e]; rfl)
      have hl1 : bs.length ≤ 18 := Nat.le_of_not_lt fun e => q2 ((own_18 (by omega)).mpr e)
      refine w_lconst ok (z := 0) dN_20 rfl ?_
      refine w_lstoreN ok (Ls' := #[.val (.ref a), .val (.long (0 : Int64)), .second, .unset, .unset, .unset, .unset]) dN_21 rfl ?_
      refine w_aloadN ok dN_22 rfl rfl ?_
      refine w_astoreN ok (Ls' := #[.val (.ref a), .val (.long (0 : Int64)), .second, .val (.ref a), .unset, .unset, .unset]) dN_23 rfl rfl ?_
      refine w_aloadN ok dN_24 rfl rfl ?_
      refine w_arraylength ok A dN_25 ?_
      refine w_int (b := Int32.ofNat bs.length) (congrArg Int32.ofNat (List.length_map _)) ?_
      refine w_istore ok (Ls' := #[.val (.ref a), .val (.long (0 : Int64)), .second, .val (.ref a), .val (.int (Int32.ofNat bs.length)), .unset, .unset]) dN_26 rfl ?_
      refine w_iconst ok (z := 0) dN_28 rfl ?_
      refine w_istore ok (Ls' := #[.val (.ref a), .val (.long (0 : Int64)), .second, .val (.ref a), .val (.int (Int32.ofNat bs.length)), .val (.int (0 : Int32)), .unset]) dN_29 rfl ?_
      have loop : ∀ (n i : Nat) (acc : Int64) (s6 : Slot) (hs : s6 = .unset ∨ ∃ z : Int32, s6 = .val (.int z)) (hn : n + i = bs.length) (hacc : own_fold acc (bs.drop i) = own_num bs), Wp l ({ frames := 0, cells := 0, slots := 0, locals := 0 } : Room) n0 K (fun v h' => ∃ w, v = some w ∧ w = .long (own_num bs) ∧ h = h') h 0 0 31 #[.val (.ref a), .val (.long acc), .second, .val (.ref a), .val (.int (Int32.ofNat bs.length)), .val (.int (Int32.ofNat i)), s6] [] := by
        intro n
        induction n with
        | zero =>
          intro i acc s6 hs hn hacc
          refine w_iload ok dN_31 rfl ?_
          refine w_iload ok dN_33 rfl ?_
          refine w_ic_ge ok dN_35 (fun q3 => ?_) (fun q3 => ?_)
          · refine w_lloadN ok dN_81 rfl ?_
            refine w_lreturn ok dN_82 (Nat.le_of_ble_eq_true rfl) (Nat.le_of_ble_eq_true rfl) ?_
            rw [List.drop_of_length_le (by omega)] at hacc
            exact ⟨_, rfl, congrArg Value.long hacc, rfl⟩
          · exact absurd ((own_ltN (by omega) (by omega)).mp q3) (by omega)
        | succ n ih =>
          intro i acc s6 hs hn hacc
          refine w_iload ok dN_31 rfl ?_
          refine w_iload ok dN_33 rfl ?_
          refine w_ic_ge ok dN_35 (fun q3 => ?_) (fun q3 => ?_)
          · exact absurd ((own_ltN (by omega) (by omega)).mpr (by omega)) q3
          · obtain ⟨b, hb⟩ : ∃ b, bs[i]? = some b := ⟨_, List.getElem?_eq_getElem (by omega)⟩
            have hdr : bs.drop i = b :: bs.drop (i + 1) := by
              obtain ⟨hlt, rfl⟩ := List.getElem?_eq_some_iff.mp hb
              exact List.drop_eq_getElem_cons hlt
            rw [hdr] at hacc
            have J44 : Wp l ({ frames := 0, cells := 0, slots := 0, locals := 0 } : Room) n0 K (fun v h' => ∃ w, v = some w ∧ w = .long (own_num bs) ∧ h = h') h 0 0 44 #[.val (.ref a), .val (.long acc), .second, .val (.ref a), .val (.int (Int32.ofNat bs.length)), .val (.int (Int32.ofNat i)), .val (.int b)] [] := by
              refine w_iload ok dN_44 rfl ?_
              refine w_bipush ok (z := 48) dN_46 rfl ?_
              refine w_ic_lt ok dN_48 (fun q4 => ?_) (fun q4 => ?_)
              · refine w_ldc2 ok (hw _ (List.mem_of_getElem? (i := 5) rfl)) dN_58 ?_
                refine w_lreturn ok dN_61 (Nat.le_of_ble_eq_true rfl) (Nat.le_of_ble_eq_true rfl) ?_
                exact ⟨_, rfl, congrArg Value.long ((own_fold_no (own_dgt_lo q4)).symm.trans hacc), rfl⟩
              · refine w_iload ok dN_51 rfl ?_
                refine w_bipush ok (z := 57) dN_53 rfl ?_
                refine w_ic_le ok dN_55 (fun q5 => ?_) (fun q5 => ?_)
                · refine w_lloadN ok dN_62 rfl ?_
                  refine w_ldc2 ok (hw _ (List.mem_of_getElem? (i := 38) rfl)) dN_63 ?_
                  refine w_lmul ok dN_66 ?_
                  refine w_iload ok dN_67 rfl ?_
                  refine w_bipush ok (z := 48) dN_69 rfl ?_
                  refine w_isub ok dN_71 ?_
                  refine w_i2l ok dN_72 ?_
                  refine w_ladd ok dN_73 ?_
                  refine w_lstoreN ok (Ls' := #[.val (.ref a), .val (.long ((acc * (10 : Int64)) + ((b - (48 : Int32)).toInt64))), .second, .val (.ref a), .val (.int (Int32.ofNat bs.length)), .val (.int (Int32.ofNat i)), .val (.int b)]) dN_74 rfl ?_
                  refine w_iinc ok (Ls' := #[.val (.ref a), .val (.long ((acc * (10 : Int64)) + ((b - (48 : Int32)).toInt64))), .second, .val (.ref a), .val (.int (Int32.ofNat bs.length)), .val (.int ((Int32.ofNat i) + (1 : Int32))), .val (.int b)]) dN_75 rfl rfl ?_
                  refine w_goto ok dN_78 ?_
                  rw [own_inc]
                  exact ih (i + 1) _ _ (Or.inr ⟨_, rfl⟩) (by omega) ((own_fold_yes (own_dgt_in q4 q5)).symm.trans hacc)
                · refine w_ldc2 ok (hw _ (List.mem_of_getElem? (i := 5) rfl)) dN_58 ?_
                  refine w_lreturn ok dN_61 (Nat.le_of_ble_eq_true rfl) (Nat.le_of_ble_eq_true rfl) ?_
                  exact ⟨_, rfl, congrArg Value.long ((own_fold_no (own_dgt_hi q4 q5)).symm.trans hacc), rfl⟩
            refine w_aloadN ok dN_38 rfl rfl ?_
            refine w_iload ok dN_39 rfl ?_
            refine w_baloadB ok (i := i) A (by rw [List.length_map]; omega) (v := .int b) (by rw [List.getElem?_map, hb]; rfl) dN_41 ?_
            rcases hs with rfl | ⟨z, rfl⟩ <;> exact w_istore ok (Ls' := #[.val (.ref a), .val (.long acc), .second, .val (.ref a), .val (.int (Int32.ofNat bs.length)), .val (.int (Int32.ofNat i)), .val (.int b)]) dN_42 rfl J44
      exact loop bs.length 0 0 .unset (Or.inl rfl) rfl (by rw [List.drop_zero]; exact (own_nm hl0 hl1).symm)
    · have h18 := (own_18 (by omega)).mp q2
      exact J16 (by rw [own_num, if_neg (by omega), if_pos h18])
theorem dD_0 : Fet method_3_code 0 1 (.iload_n 0) 1 := ⟨by decide +kernel, rfl⟩
theorem dD_1 : Fet method_3_code 1 3 (.bipush 48) 2 := ⟨by decide +kernel, rfl⟩
theorem dD_3 : Brn method_3_code 3 6 16 (.if_icmp .lt 13) 13 := ⟨by decide +kernel, rfl, by decide, by decide⟩
theorem dD_16 : Fet method_3_code 16 17 (.iconst 0) 1 := ⟨by decide +kernel, rfl⟩
theorem dD_17 : Fet method_3_code 17 18 (.ireturn) 1 := ⟨by decide +kernel, rfl⟩
theorem dD_6 : Fet method_3_code 6 7 (.iload_n 0) 1 := ⟨by decide +kernel, rfl⟩
theorem dD_7 : Fet method_3_code 7 9 (.bipush 57) 2 := ⟨by decide +kernel, rfl⟩
theorem dD_9 : Brn method_3_code 9 12 16 (.if_icmp .gt 7) 7 := ⟨by decide +kernel, rfl, by decide, by decide⟩
theorem dD_12 : Fet method_3_code 12 13 (.iconst 1) 1 := ⟨by decide +kernel, rfl⟩
theorem dD_13 : Brn method_3_code 13 16 17 (.goto 4) 4 := ⟨by decide +kernel, rfl, by decide, by decide⟩
theorem pn_com_example_holdfast_holdfast_WorkloadNumberPinLaw : plainName "com/example/holdfast/holdfast/WorkloadNumberPinLaw" = true := by first | (simp [plainName, overriddenIn]; done) | decide +kernel
set_option maxRecDepth 65536 in
set_option maxHeartbeats 4000000 in
theorem rmD (l : Launch) (Z : State) (a0 : Array Value) (hw : ∀ d ∈ tables_1, d.before a0 Z = true) (n0 : Nat) (b : Int32) (h : Heap) :
    ConV l Z n0 (⟨"com/example/holdfast/holdfast/WorkloadNumberPinLaw", "isDigit", "(B)Z"⟩ : MethodName) method_3_code 1 (some .boolean) [] ({ frames := 0, cells := 0, slots := 0, locals := 0 } : Room) #[(.int b)] h (fun w h' => w = .int (own_dgt b) ∧ h = h') := by
  refine con_of_wp (Ls := #[.val (.int b)]) (plainFor_of_name pn_com_example_holdfast_holdfast_WorkloadNumberPinLaw) (fun m => by first | (simp [entryFrame, mkF, argsToLocals, Value.category]; done) | rfl) ?_
  intro K ok
  replace ok : Ok Z K method_3_code "com/example/holdfast/holdfast/WorkloadNumberPinLaw" "isDigit" 1 (some .boolean) := ok
  show Wp l ({ frames := 0, cells := 0, slots := 0, locals := 0 } : Room) n0 K (fun v h' => ∃ w, v = some w ∧ w = .int (own_dgt b) ∧ h = h') h 0 0 0 #[.val (.int b)] []
  refine w_iloadN ok dD_0 rfl ?_
  refine w_bipush ok (z := 48) dD_1 rfl ?_
  refine w_ic_lt ok dD_3 (fun q1 => ?_) (fun q1 => ?_)
  · refine w_iconst ok (z := 0) dD_16 rfl ?_
    refine w_ireturnN ok (by simp) dD_17 (Nat.le_of_ble_eq_true rfl) (Nat.le_of_ble_eq_true rfl) ?_
    exact ⟨_, rfl, by rw [own_dgt_lo q1]; rfl, rfl⟩
  · refine w_iloadN ok dD_6 rfl ?_
    refine w_bipush ok (z := 57) dD_7 rfl ?_
    refine w_ic_gt ok dD_9 (fun q2 => ?_) (fun q2 => ?_)
    · refine w_iconst ok (z := 0) dD_16 rfl ?_
      refine w_ireturnN ok (by simp) dD_17 (Nat.le_of_ble_eq_true rfl) (Nat.le_of_ble_eq_true rfl) ?_
      exact ⟨_, rfl, by rw [own_dgt_hi q1 q2]; rfl, rfl⟩
    · refine w_iconst ok (z := 1) dD_12 rfl ?_
      refine w_goto ok dD_13 ?_
      refine w_ireturnN ok (by simp) dD_17 (Nat.le_of_ble_eq_true rfl) (Nat.le_of_ble_eq_true rfl) ?_
      exact ⟨_, rfl, by rw [show own_dgt b = 1 by simp [own_dgt, q1, q2]]; rfl, rfl⟩
theorem dG_0 : Fet method_4_code 0 2 (.bipush 48) 2 := ⟨by decide +kernel, rfl⟩
theorem dG_2 : Fet method_4_code 2 3 (.lload_n 0) 1 := ⟨by decide +kernel, rfl⟩
theorem dG_3 : Fet method_4_code 3 4 (.lload_n 2) 1 := ⟨by decide +kernel, rfl⟩
theorem dG_4 : Fet method_4_code 4 5 (.ldiv) 1 := ⟨by decide +kernel, rfl⟩
theorem dG_5 : Fet method_4_code 5 8 (.ldc2_w 22) 3 := ⟨by decide +kernel, rfl⟩
theorem dG_8 : Fet method_4_code 8 9 (.lrem) 1 := ⟨by decide +kernel, rfl⟩
theorem dG_9 : Fet method_4_code 9 10 (.l2i) 1 := ⟨by decide +kernel, rfl⟩
theorem dG_10 : Fet method_4_code 10 11 (.iadd) 1 := ⟨by decide +kernel, rfl⟩
theorem dG_11 : Fet method_4_code 11 12 (.i2b) 1 := ⟨by decide +kernel, rfl⟩
theorem dG_12 : Fet method_4_code 12 13 (.ireturn) 1 := ⟨by decide +kernel, rfl⟩
set_option maxRecDepth 65536 in
set_option maxHeartbeats 4000000 in
theorem rmG (l : Launch) (Z : State) (a0 : Array Value) (hw : ∀ d ∈ tables_1, d.before a0 Z = true) (n0 : Nat) (big p : Int64) (h : Heap) (hp : p ≠ 0) :
    ConV l Z n0 (⟨"com/example/holdfast/holdfast/WorkloadNumberPinLaw", "dig", "(JJ)B"⟩ : MethodName) method_4_code 4 (some .byte) [] ({ frames := 0, cells := 0, slots := 0, locals := 0 } : Room) #[(.long big), (.long p)] h (fun w h' => w = .int (own_dig big p) ∧ h = h') := by
  refine con_of_wp (Ls := #[.val (.long big), .second, .val (.long p), .second]) (plainFor_of_name pn_com_example_holdfast_holdfast_WorkloadNumberPinLaw) (fun m => by first | (simp [entryFrame, mkF, argsToLocals, Value.category]; done) | rfl) ?_
  intro K ok
  replace ok : Ok Z K method_4_code "com/example/holdfast/holdfast/WorkloadNumberPinLaw" "dig" 4 (some .byte) := ok
  show Wp l ({ frames := 0, cells := 0, slots := 0, locals := 0 } : Room) n0 K (fun v h' => ∃ w, v = some w ∧ w = .int (own_dig big p) ∧ h = h') h 0 0 0 #[.val (.long big), .second, .val (.long p), .second] []
  refine w_bipush ok (z := 48) dG_0 rfl ?_
  refine w_lloadN ok dG_2 rfl ?_
  refine w_lloadN ok dG_3 rfl ?_
  refine w_ldiv ok dG_4 hp ?_
  refine w_ldc2 ok (hw _ (List.mem_of_getElem? (i := 13) rfl)) dG_5 ?_
  refine w_lrem ok dG_8 (by decide) ?_
  refine w_l2i ok dG_9 ?_
  refine w_iadd ok dG_10 ?_
  refine w_i2b ok dG_11 ?_
  refine w_ireturnN ok (by simp) dG_12 (Nat.le_of_ble_eq_true rfl) (Nat.le_of_ble_eq_true rfl) ?_
  exact ⟨_, rfl, rfl, rfl⟩
theorem dF_0 : Fet method_5_code 0 1 (.aload_n 0) 1 := ⟨by decide +kernel, rfl⟩
theorem dF_1 : Fet method_5_code 1 2 (.iconst 0) 1 := ⟨by decide +kernel, rfl⟩
theorem dF_2 : Fet method_5_code 2 3 (.lload_n 1) 1 := ⟨by decide +kernel, rfl⟩
theorem dF_3 : Fet method_5_code 3 4 (.aload_n 3) 1 := ⟨by decide +kernel, rfl⟩
theorem dF_4 : Fet method_5_code 4 6 (.bipush 17) 2 := ⟨by decide +kernel, rfl⟩
theorem dF_6 : Fet method_5_code 6 7 (.laload) 1 := ⟨by decide +kernel, rfl⟩
theorem dF_7 : Fet method_5_code 7 10 (.invokestatic 66) 3 := ⟨by decide +kernel, rfl⟩
theorem pd__JJ_B : parseMethodDescriptor "(JJ)B" = some ⟨[.long, .long], some .byte⟩ := by decide +kernel
theorem dF_10 : Fet method_5_code 10 11 (.bastore) 1 := ⟨by decide +kernel, rfl⟩
theorem dF_11 : Fet method_5_code 11 12 (.aload_n 0) 1 := ⟨by decide +kernel, rfl⟩
theorem dF_12 : Fet method_5_code 12 13 (.iconst 1) 1 := ⟨by decide +kernel, rfl⟩
theorem dF_13 : Fet method_5_code 13 14 (.lload_n 1) 1 := ⟨by decide +kernel, rfl⟩
theorem dF_14 : Fet method_5_code 14 15 (.aload_n 3) 1 := ⟨by decide +kernel, rfl⟩
theorem dF_15 : Fet method_5_code 15 17 (.bipush 16) 2 := ⟨by decide +kernel, rfl⟩
theorem dF_17 : Fet method_5_code 17 18 (.laload) 1 := ⟨by decide +kernel, rfl⟩
theorem dF_18 : Fet method_5_code 18 21 (.invokestatic 66) 3 := ⟨by decide +kernel, rfl⟩
theorem dF_21 : Fet method_5_code 21 22 (.bastore) 1 := ⟨by decide +kernel, rfl⟩
theorem dF_22 : Fet method_5_code 22 23 (.aload_n 0) 1 := ⟨by decide +kernel, rfl⟩
theorem dF_23 : Fet method_5_code 23 24 (.iconst 2) 1 := ⟨by decide +kernel, rfl⟩
theorem dF_24 : Fet method_5_code 24 25 (.lload_n 1) 1 := ⟨by decide +kernel, rfl⟩
theorem dF_25 : Fet method_5_code 25 26 (.aload_n 3) 1 := ⟨by decide +kernel, rfl⟩
theorem dF_26 : Fet method_5_code 26 28 (.bipush 15) 2 := ⟨by decide +kernel, rfl⟩
theorem dF_28 : Fet method_5_code 28 29 (.laload) 1 := ⟨by decide +kernel, rfl⟩
theorem dF_29 : Fet method_5_code 29 32 (.invokestatic 66) 3 := ⟨by decide +kernel, rfl⟩
theorem dF_32 : Fet method_5_code 32 33 (.bastore) 1 := ⟨by decide +kernel, rfl⟩
theorem dF_33 : Fet method_5_code 33 34 (.aload_n 0) 1 := ⟨by decide +kernel, rfl⟩
theorem dF_34 : Fet method_5_code 34 35 (.iconst 3) 1 := ⟨by decide +kernel, rfl⟩
theorem dF_35 : Fet method_5_code 35 36 (.lload_n 1) 1 := ⟨by decide +kernel, rfl⟩
theorem dF_36 : Fet method_5_code 36 37 (.aload_n 3) 1 := ⟨by decide +kernel, rfl⟩
theorem dF_37 : Fet method_5_code 37 39 (.bipush 14) 2 := ⟨by decide +kernel, rfl⟩
theorem dF_39 : Fet method_5_code 39 40 (.laload) 1 := ⟨by decide +kernel, rfl⟩
theorem dF_40 : Fet method_5_code 40 43 (.invokestatic 66) 3 := ⟨by decide +kernel, rfl⟩
theorem dF_43 : Fet method_5_code 43 44 (.bastore) 1 := ⟨by decide +kernel, rfl⟩
theorem dF_44 : Fet method_5_code 44 45 (.aload_n 0) 1 := ⟨by decide +kernel, rfl⟩
theorem dF_45 : Fet method_5_code 45 46 (.iconst 4) 1 := ⟨by decide +kernel, rfl⟩
theorem dF_46 : Fet method_5_code 46 47 (.lload_n 1) 1 := ⟨by decide +kernel, rfl⟩
theorem dF_47 : Fet method_5_code 47 48 (.aload_n 3) 1 := ⟨by decide +kernel, rfl⟩
theorem dF_48 : Fet method_5_code 48 50 (.bipush 13) 2 := ⟨by decide +kernel, rfl⟩
theorem dF_50 : Fet method_5_code 50 51 (.laload) 1 := ⟨by decide +kernel, rfl⟩
theorem dF_51 : Fet method_5_code 51 54 (.invokestatic 66) 3 := ⟨by decide +kernel, rfl⟩
theorem dF_54 : Fet method_5_code 54 55 (.bastore) 1 := ⟨by decide +kernel, rfl⟩
theorem dF_55 : Fet method_5_code 55 56 (.aload_n 0) 1 := ⟨by decide +kernel, rfl⟩
theorem dF_56 : Fet method_5_code 56 57 (.iconst 5) 1 := ⟨by decide +kernel, rfl⟩
theorem dF_57 : Fet method_5_code 57 58 (.lload_n 1) 1 := ⟨by decide +kernel, rfl⟩
theorem dF_58 : Fet method_5_code 58 59 (.aload_n 3) 1 := ⟨by decide +kernel, rfl⟩
theorem dF_59 : Fet method_5_code 59 61 (.bipush 12) 2 := ⟨by decide +kernel, rfl⟩
theorem dF_61 : Fet method_5_code 61 62 (.laload) 1 := ⟨by decide +kernel, rfl⟩
theorem dF_62 : Fet method_5_code 62 65 (.invokestatic 66) 3 := ⟨by decide +kernel, rfl⟩
theorem dF_65 : Fet method_5_code 65 66 (.bastore) 1 := ⟨by decide +kernel, rfl⟩
theorem dF_66 : Fet method_5_code 66 67 (.aload_n 0) 1 := ⟨by decide +kernel, rfl⟩
theorem dF_67 : Fet method_5_code 67 69 (.bipush 6) 2 := ⟨by decide +kernel, rfl⟩
theorem dF_69 : Fet method_5_code 69 70 (.lload_n 1) 1 := ⟨by decide +kernel, rfl⟩
theorem dF_70 : Fet method_5_code 70 71 (.aload_n 3) 1 := ⟨by decide +kernel, rfl⟩
theorem dF_71 : Fet method_5_code 71 73 (.bipush 11) 2 := ⟨by decide +kernel, rfl⟩
theorem dF_73 : Fet method_5_code 73 74 (.laload) 1 := ⟨by decide +kernel, rfl⟩
theorem dF_74 : Fet method_5_code 74 77 (.invokestatic 66) 3 := ⟨by decide +kernel, rfl⟩
theorem dF_77 : Fet method_5_code 77 78 (.bastore) 1 := ⟨by decide +kernel, rfl⟩
theorem dF_78 : Fet method_5_code 78 79 (.aload_n 0) 1 := ⟨by decide +kernel, rfl⟩
theorem dF_79 : Fet method_5_code 79 81 (.bipush 7) 2 := ⟨by decide +kernel, rfl⟩
theorem dF_81 : Fet method_5_code 81 82 (.lload_n 1) 1 := ⟨by decide +kernel, rfl⟩
theorem dF_82 : Fet method_5_code 82 83 (.aload_n 3) 1 := ⟨by decide +kernel, rfl⟩
theorem dF_83 : Fet method_5_code 83 85 (.bipush 10) 2 := ⟨by decide +kernel, rfl⟩
theorem dF_85 : Fet method_5_code 85 86 (.laload) 1 := ⟨by decide +kernel, rfl⟩
theorem dF_86 : Fet method_5_code 86 89 (.invokestatic 66) 3 := ⟨by decide +kernel, rfl⟩
theorem dF_89 : Fet method_5_code 89 90 (.bastore) 1 := ⟨by decide +kernel, rfl⟩
theorem dF_90 : Fet method_5_code 90 91 (.aload_n 0) 1 := ⟨by decide +kernel, rfl⟩
theorem dF_91 : Fet method_5_code 91 93 (.bipush 8) 2 := ⟨by decide +kernel, rfl⟩
theorem dF_93 : Fet method_5_code 93 94 (.lload_n 1) 1 := ⟨by decide +kernel, rfl⟩
theorem dF_94 : Fet method_5_code 94 95 (.aload_n 3) 1 := ⟨by decide +kernel, rfl⟩
theorem dF_95 : Fet method_5_code 95 97 (.bipush 9) 2 := ⟨by decide +kernel, rfl⟩
theorem dF_97 : Fet method_5_code 97 98 (.laload) 1 := ⟨by decide +kernel, rfl⟩
theorem dF_98 : Fet method_5_code 98 101 (.invokestatic 66) 3 := ⟨by decide +kernel, rfl⟩
theorem dF_101 : Fet method_5_code 101 102 (.bastore) 1 := ⟨by decide +kernel, rfl⟩
theorem dF_102 : Fet method_5_code 102 103 (.aload_n 0) 1 := ⟨by decide +kernel, rfl⟩
theorem dF_103 : Fet method_5_code 103 105 (.bipush 9) 2 := ⟨by decide +kernel, rfl⟩
theorem dF_105 : Fet method_5_code 105 106 (.lload_n 1) 1 := ⟨by decide +kernel, rfl⟩
theorem dF_106 : Fet method_5_code 106 107 (.aload_n 3) 1 := ⟨by decide +kernel, rfl⟩
theorem dF_107 : Fet method_5_code 107 109 (.bipush 8) 2 := ⟨by decide +kernel, rfl⟩
theorem dF_109 : Fet method_5_code 109 110 (.laload) 1 := ⟨by decide +kernel, rfl⟩
theorem dF_110 : Fet method_5_code 110 113 (.invokestatic 66) 3 := ⟨by decide +kernel, rfl⟩
theorem dF_113 : Fet method_5_code 113 114 (.bastore) 1 := ⟨by decide +kernel, rfl⟩
theorem dF_114 : Fet method_5_code 114 115 (.aload_n 0) 1 := ⟨by decide +kernel, rfl⟩
theorem dF_115 : Fet method_5_code 115 117 (.bipush 10) 2 := ⟨by decide +kernel, rfl⟩
theorem dF_117 : Fet method_5_code 117 118 (.lload_n 1) 1 := ⟨by decide +kernel, rfl⟩
theorem dF_118 : Fet method_5_code 118 119 (.aload_n 3) 1 := ⟨by decide +kernel, rfl⟩
theorem dF_119 : Fet method_5_code 119 121 (.bipush 7) 2 := ⟨by decide +kernel, rfl⟩
theorem dF_121 : Fet method_5_code 121 122 (.laload) 1 := ⟨by decide +kernel, rfl⟩
theorem dF_122 : Fet method_5_code 122 125 (.invokestatic 66) 3 := ⟨by decide +kernel, rfl⟩
theorem dF_125 : Fet method_5_code 125 126 (.bastore) 1 := ⟨by decide +kernel, rfl⟩
theorem dF_126 : Fet method_5_code 126 127 (.aload_n 0) 1 := ⟨by decide +kernel, rfl⟩
theorem dF_127 : Fet method_5_code 127 129 (.bipush 11) 2 := ⟨by decide +kernel, rfl⟩
theorem dF_129 : Fet method_5_code 129 130 (.lload_n 1) 1 := ⟨by decide +kernel, rfl⟩
theorem dF_130 : Fet method_5_code 130 131 (.aload_n 3) 1 := ⟨by decide +kernel, rfl⟩
theorem dF_131 : Fet method_5_code 131 133 (.bipush 6) 2 := ⟨by decide +kernel, rfl⟩
theorem dF_133 : Fet method_5_code 133 134 (.laload) 1 := ⟨by decide +kernel, rfl⟩
theorem dF_134 : Fet method_5_code 134 137 (.invokestatic 66) 3 := ⟨by decide +kernel, rfl⟩
theorem dF_137 : Fet method_5_code 137 138 (.bastore) 1 := ⟨by decide +kernel, rfl⟩
theorem dF_138 : Fet method_5_code 138 139 (.aload_n 0) 1 := ⟨by decide +kernel, rfl⟩
theorem dF_139 : Fet method_5_code 139 141 (.bipush 12) 2 := ⟨by decide +kernel, rfl⟩
theorem dF_141 : Fet method_5_code 141 142 (.lload_n 1) 1 := ⟨by decide +kernel, rfl⟩
theorem dF_142 : Fet method_5_code 142 143 (.aload_n 3) 1 := ⟨by decide +kernel, rfl⟩
theorem dF_143 : Fet method_5_code 143 144 (.iconst 5) 1 := ⟨by decide +kernel, rfl⟩
theorem dF_144 : Fet method_5_code 144 145 (.laload) 1 := ⟨by decide +kernel, rfl⟩
theorem dF_145 : Fet method_5_code 145 148 (.invokestatic 66) 3 := ⟨by decide +kernel, rfl⟩
theorem dF_148 : Fet method_5_code 148 149 (.bastore) 1 := ⟨by decide +kernel, rfl⟩
theorem dF_149 : Fet method_5_code 149 150 (.aload_n 0) 1 := ⟨by decide +kernel, rfl⟩
theorem dF_150 : Fet method_5_code 150 152 (.bipush 13) 2 := ⟨by decide +kernel, rfl⟩
theorem dF_152 : Fet method_5_code 152 153 (.lload_n 1) 1 := ⟨by decide +kernel, rfl⟩
theorem dF_153 : Fet method_5_code 153 154 (.aload_n 3) 1 := ⟨by decide +kernel, rfl⟩
theorem dF_154 : Fet method_5_code 154 155 (.iconst 4) 1 := ⟨by decide +kernel, rfl⟩
theorem dF_155 : Fet method_5_code 155 156 (.laload) 1 := ⟨by decide +kernel, rfl⟩
theorem dF_156 : Fet method_5_code 156 159 (.invokestatic 66) 3 := ⟨by decide +kernel, rfl⟩
theorem dF_159 : Fet method_5_code 159 160 (.bastore) 1 := ⟨by decide +kernel, rfl⟩
theorem dF_160 : Fet method_5_code 160 161 (.aload_n 0) 1 := ⟨by decide +kernel, rfl⟩
theorem dF_161 : Fet method_5_code 161 163 (.bipush 14) 2 := ⟨by decide +kernel, rfl⟩
theorem dF_163 : Fet method_5_code 163 164 (.lload_n 1) 1 := ⟨by decide +kernel, rfl⟩
theorem dF_164 : Fet method_5_code 164 165 (.aload_n 3) 1 := ⟨by decide +kernel, rfl⟩
theorem dF_165 : Fet method_5_code 165 166 (.iconst 3) 1 := ⟨by decide +kernel, rfl⟩
theorem dF_166 : Fet method_5_code 166 167 (.laload) 1 := ⟨by decide +kernel, rfl⟩
theorem dF_167 : Fet method_5_code 167 170 (.invokestatic 66) 3 := ⟨by decide +kernel, rfl⟩
theorem dF_170 : Fet method_5_code 170 171 (.bastore) 1 := ⟨by decide +kernel, rfl⟩
theorem dF_171 : Fet method_5_code 171 172 (.aload_n 0) 1 := ⟨by decide +kernel, rfl⟩
theorem dF_172 : Fet method_5_code 172 174 (.bipush 15) 2 := ⟨by decide +kernel, rfl⟩
theorem dF_174 : Fet method_5_code 174 175 (.lload_n 1) 1 := ⟨by decide +kernel, rfl⟩
theorem dF_175 : Fet method_5_code 175 176 (.aload_n 3) 1 := ⟨by decide +kernel, rfl⟩
theorem dF_176 : Fet method_5_code 176 177 (.iconst 2) 1 := ⟨by decide +kernel, rfl⟩
theorem dF_177 : Fet method_5_code 177 178 (.laload) 1 := ⟨by decide +kernel, rfl⟩
theorem dF_178 : Fet method_5_code 178 181 (.invokestatic 66) 3 := ⟨by decide +kernel, rfl⟩
theorem dF_181 : Fet method_5_code 181 182 (.bastore) 1 := ⟨by decide +kernel, rfl⟩
theorem dF_182 : Fet method_5_code 182 183 (.aload_n 0) 1 := ⟨by decide +kernel, rfl⟩
theorem dF_183 : Fet method_5_code 183 185 (.bipush 16) 2 := ⟨by decide +kernel, rfl⟩
theorem dF_185 : Fet method_5_code 185 186 (.lload_n 1) 1 := ⟨by decide +kernel, rfl⟩
theorem dF_186 : Fet method_5_code 186 187 (.aload_n 3) 1 := ⟨by decide +kernel, rfl⟩
theorem dF_187 : Fet method_5_code 187 188 (.iconst 1) 1 := ⟨by decide +kernel, rfl⟩
theorem dF_188 : Fet method_5_code 188 189 (.laload) 1 := ⟨by decide +kernel, rfl⟩
theorem dF_189 : Fet method_5_code 189 192 (.invokestatic 66) 3 := ⟨by decide +kernel, rfl⟩
theorem dF_192 : Fet method_5_code 192 193 (.bastore) 1 := ⟨by decide +kernel, rfl⟩
theorem dF_193 : Fet method_5_code 193 194 (.aload_n 0) 1 := ⟨by decide +kernel, rfl⟩
theorem dF_194 : Fet method_5_code 194 196 (.bipush 17) 2 := ⟨by decide +kernel, rfl⟩
theorem dF_196 : Fet method_5_code 196 197 (.lload_n 1) 1 := ⟨by decide +kernel, rfl⟩
theorem dF_197 : Fet method_5_code 197 198 (.aload_n 3) 1 := ⟨by decide +kernel, rfl⟩
theorem dF_198 : Fet method_5_code 198 199 (.iconst 0) 1 := ⟨by decide +kernel, rfl⟩
theorem dF_199 : Fet method_5_code 199 200 (.laload) 1 := ⟨by decide +kernel, rfl⟩
theorem dF_200 : Fet method_5_code 200 203 (.invokestatic 66) 3 := ⟨by decide +kernel, rfl⟩
theorem dF_203 : Fet method_5_code 203 204 (.bastore) 1 := ⟨by decide +kernel, rfl⟩
theorem dF_204 : Fet method_5_code 204 205 (.return_) 1 := ⟨by decide +kernel, rfl⟩
set_option maxRecDepth 65536 in
set_option maxHeartbeats 4000000 in
theorem rmF (l : Launch) (Z : State) (a0 : Array Value) (hw : ∀ d ∈ tables_1, d.before a0 Z = true) (n0 : Nat) (av ap : Addr) (big : Int64) (vs : List Value) (h : Heap) (Z0 : n0 ≤ h.size) (gn_av : n0 ≤ av) (Av : Ary Z h av .byte vs) (Ap : Ary Z h ap .long [(.long (1 : Int64)), (.long (10 : Int64)), (.long (100 : Int64)), (.long (1000 : Int64)), (.long (10000 : Int64)), (.long (100000 : Int64)), (.long (1000000 : Int64)), (.long (10000000 : Int64)), (.long (100000000 : Int64)), (.long (1000000000 : Int64)), (.long (10000000000 : Int64)), (.long (100000000000 : Int64)), (.long (1000000000000 : Int64)), (.long (10000000000000 : Int64)), (.long (100000000000000 : Int64)), (.long (1000000000000000 : Int64)), (.long (10000000000000000 : Int64)), (.long (100000000000000000 : Int64))]) (ne : ap ≠ av) (hv : 18 ≤ vs.length) (hv2 : vs.length < 2 ^ 31) :
    ConN l Z n0 (⟨"com/example/holdfast/holdfast/WorkloadNumberPinLaw", "fill", "([BJ[J)V"⟩ : MethodName) method_5_code 4 none [] ({ frames := 1, cells := 0, slots := 0, locals := 17 } : Room) #[(.ref av), (.long big), (.ref ap)] h (fun h' => Keep h h' [av] ∧ Ary Z h' av .byte (own_by (own_digs big) ++ vs.drop 18) ∧ Ary Z h' ap .long [(.long (1 : Int64)), (.long (10 : Int64)), (.long (100 : Int64)), (.long (1000 : Int64)), (.long (10000 : Int64)), (.long (100000 : Int64)), (.long (1000000 : Int64)), (.long (10000000 : Int64)), (.long (100000000 : Int64)), (.long (1000000000 : Int64)), (.long (10000000000 : Int64)), (.long (100000000000 : Int64)), (.long (1000000000000 : Int64)), (.long (10000000000000 : Int64)), (.long (100000000000000 : Int64)), (.long (1000000000000000 : Int64)), (.long (10000000000000000 : Int64)), (.long (100000000000000000 : Int64))]) := by
  refine con_of_wp (Ls := #[.val (.ref av), .val (.long big), .second, .val (.ref ap)]) (plainFor_of_name pn_com_example_holdfast_holdfast_WorkloadNumberPinLaw) (fun m => by first | (simp [entryFrame, mkF, argsToLocals, Value.category]; done) | rfl) ?_
  intro K ok
  replace ok : Ok Z K method_5_code "com/example/holdfast/holdfast/WorkloadNumberPinLaw" "fill" 4 none := ok
  show Wp l ({ frames := 1, cells := 0, slots := 0, locals := 17 } : Room) n0 K (fun v h' => v = none ∧ Keep h h' [av] ∧ Ary Z h' av .byte (own_by (own_digs big) ++ vs.drop 18) ∧ Ary Z h' ap .long [(.long (1 : Int64)), (.long (10 : Int64)), (.long (100 : Int64)), (.long (1000 : Int64)), (.long (10000 : Int64)), (.long (100000 : Int64)), (.long (1000000 : Int64)), (.long (10000000 : Int64)), (.long (100000000 : Int64)), (.long (1000000000 : Int64)), (.long (10000000000 : Int64)), (.long (100000000000 : Int64)), (.long (1000000000000 : Int64)), (.long (10000000000000 : Int64)), (.long (100000000000000 : Int64)), (.long (1000000000000000 : Int64)), (.long (10000000000000000 : Int64)), (.long (100000000000000000 : Int64))]) h 0 0 0 #[.val (.ref av), .val (.long big), .second, .val (.ref ap)] []
  have Kp : Keep h h [av] := Keep.refl _ _
  replace Av : Ary Z h av .byte ([] ++ vs.drop 0) := Av.cast (by simp)
  refine w_aloadN ok dF_0 rfl rfl ?_
  refine w_iconst ok (z := 0) dF_1 rfl ?_
  refine w_lloadN ok dF_2 rfl ?_
  refine w_aloadN ok dF_3 rfl rfl ?_
  refine w_bipush ok (z := 17) dF_4 rfl ?_
  refine w_laload ok (i := 17) Ap (Nat.le_of_ble_eq_true rfl) rfl dF_6 ?_
  refine w_callSV ok (argsL := [(.long big), (.long (100000000000000000 : Int64))]) (rest := [(.int (0 : Int32)), (.ref av)]) (hw _ (List.mem_of_getElem? (i := 35) rfl)) (hw _ (List.mem_of_getElem? (i := 36) rfl)) (hw _ (List.mem_of_getElem? (i := 10) rfl)) (hw _ (List.mem_of_getElem? (i := 37) rfl)) (by decide) (rmG l Z a0 hw n0 big (100000000000000000 : Int64) h (by decide)) dF_7 (lenOf pd__JJ_B rfl) rfl rfl (Nat.le_of_ble_eq_true rfl) (Nat.le_of_ble_eq_true rfl) (k' := 0) (n' := 0) rfl rfl (Nat.le_of_ble_eq_true rfl) (Nat.le_of_ble_eq_true rfl) ?_
  rintro _ _ ⟨rfl, rfl⟩
  refine w_bastoreB' ok (i := 0) Av (by rw [own_lens _ vs 0 rfl (by omega)]; omega) (by rw [own_lens _ vs 0 rfl (by omega)]; omega) gn_av dF_10 (fun h1 W1 Av => ?_)
  have Ap := Ap.other W1 ne
  have Z0 := Nat.le_trans Z0 (Keep.of_wr W1).1
  have Kp := Kp.wr W1 (Or.inl (List.mem_of_getElem? (i := 0) rfl))
  replace Av : Ary Z h1 av .byte ([(.int (own_dig big (100000000000000000 : Int64)))] ++ vs.drop 1) := by
    have q := Av.cast (own_set _ vs 0 rfl (by omega) _)
    rw [own_dig_nar] at q
    exact q
  refine w_aloadN ok dF_11 rfl rfl ?_
  refine w_iconst ok (z := 1) dF_12 rfl ?_
  refine w_lloadN ok dF_13 rfl ?_
  refine w_aloadN ok dF_14 rfl rfl ?_
  refine w_bipush ok (z := 16) dF_15 rfl ?_
  refine w_laload ok (i := 16) Ap (Nat.le_of_ble_eq_true rfl) rfl dF_17 ?_
  refine w_callSV ok (argsL := [(.long big), (.long (10000000000000000 : Int64))]) (rest := [(.int (1 : Int32)), (.ref av)]) (hw _ (List.mem_of_getElem? (i := 35) rfl)) (hw _ (List.mem_of_getElem? (i := 36) rfl)) (hw _ (List.mem_of_getElem? (i := 10) rfl)) (hw _ (List.mem_of_getElem? (i := 37) rfl)) (by decide) (rmG l Z a0 hw n0 big (10000000000000000 : Int64) h1 (by decide)) dF_18 (lenOf pd__JJ_B rfl) rfl rfl (Nat.le_of_ble_eq_true rfl) (Nat.le_of_ble_eq_true rfl) (k' := 0) (n' := 0) rfl rfl (Nat.le_of_ble_eq_true rfl) (Nat.le_of_ble_eq_true rfl) ?_
  rintro _ _ ⟨rfl, rfl⟩
  refine w_bastoreB' ok (i := 1) Av (by rw [own_lens _ vs 1 rfl (by omega)]; omega) (by rw [own_lens _ vs 1 rfl (by omega)]; omega) gn_av dF_21 (fun h2 W2 Av => ?_)
  have Ap := Ap.other W2 ne
  have Z0 := Nat.le_trans Z0 (Keep.of_wr W2).1
  have Kp := Kp.wr W2 (Or.inl (List.mem_of_getElem? (i := 0) rfl))
  replace Av : Ary Z h2 av .byte ([(.int (own_dig big (100000000000000000 : Int64))), (.int (own_dig big (10000000000000000 : Int64)))] ++ vs.drop 2) := by
    have q := Av.cast (own_set _ vs 1 rfl (by omega) _)
    rw [own_dig_nar] at q
    exact q
  refine w_aloadN ok dF_22 rfl rfl ?_
  refine w_iconst ok (z := 2) dF_23 rfl ?_
  refine w_lloadN ok dF_24 rfl ?_
  refine w_aloadN ok dF_25 rfl rfl ?_
  refine w_bipush ok (z := 15) dF_26 rfl ?_
  refine w_laload ok (i := 15) Ap (Nat.le_of_ble_eq_true rfl) rfl dF_28 ?_
  refine w_callSV ok (argsL := [(.long big), (.long (1000000000000000 : Int64))]) (rest := [(.int (2 : Int32)), (.ref av)]) (hw _ (List.mem_of_getElem? (i := 35) rfl)) (hw _ (List.mem_of_getElem? (i := 36) rfl)) (hw _ (List.mem_of_getElem? (i := 10) rfl)) (hw _ (List.mem_of_getElem? (i := 37) rfl)) (by decide) (rmG l Z a0 hw n0 big (1000000000000000 : Int64) h2 (by decide)) dF_29 (lenOf pd__JJ_B rfl) rfl rfl (Nat.le_of_ble_eq_true rfl) (Nat.le_of_ble_eq_true rfl) (k' := 0) (n' := 0) rfl rfl (Nat.le_of_ble_eq_true rfl) (Nat.le_of_ble_eq_true rfl) ?_
  rintro _ _ ⟨rfl, rfl⟩
  refine w_bastoreB' ok (i := 2) Av (by rw [own_lens _ vs 2 rfl (by omega)]; omega) (by rw [own_lens _ vs 2 rfl (by omega)]; omega) gn_av dF_32 (fun h3 W3 Av => ?_)
  have Ap := Ap.other W3 ne
  have Z0 := Nat.le_trans Z0 (Keep.of_wr W3).1
  have Kp := Kp.wr W3 (Or.inl (List.mem_of_getElem? (i := 0) rfl))
  replace Av : Ary Z h3 av .byte ([(.int (own_dig big (100000000000000000 : Int64))), (.int (own_dig big (10000000000000000 : Int64))), (.int (own_dig big (1000000000000000 : Int64)))] ++ vs.drop 3) := by
    have q := Av.cast (own_set _ vs 2 rfl (by omega) _)
    rw [own_dig_nar] at q
    exact q
  refine w_aloadN ok dF_33 rfl rfl ?_
  refine w_iconst ok (z := 3) dF_34 rfl ?_
  refine w_lloadN ok dF_35 rfl ?_
  refine w_aloadN ok dF_36 rfl rfl ?_
  refine w_bipush ok (z := 14) dF_37 rfl ?_
  refine w_laload ok (i := 14) Ap (Nat.le_of_ble_eq_true rfl) rfl dF_39 ?_
  refine w_callSV ok (argsL := [(.long big), (.long (100000000000000 : Int64))]) (rest := [(.int (3 : Int32)), (.ref av)]) (hw _ (List.mem_of_getElem? (i := 35) rfl)) (hw _ (List.mem_of_getElem? (i := 36) rfl)) (hw _ (List.mem_of_getElem? (i := 10) rfl)) (hw _ (List.mem_of_getElem? (i := 37) rfl)) (by decide) (rmG l Z a0 hw n0 big (100000000000000 : Int64) h3 (by decide)) dF_40 (lenOf pd__JJ_B rfl) rfl rfl (Nat.le_of_ble_eq_true rfl) (Nat.le_of_ble_eq_true rfl) (k' := 0) (n' := 0) rfl rfl (Nat.le_of_ble_eq_true rfl) (Nat.le_of_ble_eq_true rfl) ?_
  rintro _ _ ⟨rfl, rfl⟩
  refine w_bastoreB' ok (i := 3) Av (by rw [own_lens _ vs 3 rfl (by omega)]; omega) (by rw [own_lens _ vs 3 rfl (by omega)]; omega) gn_av dF_43 (fun h4 W4 Av => ?_)
  have Ap := Ap.other W4 ne
  have Z0 := Nat.le_trans Z0 (Keep.of_wr W4).1
  have Kp := Kp.wr W4 (Or.inl (List.mem_of_getElem? (i := 0) rfl))
  replace Av : Ary Z h4 av .byte ([(.int (own_dig big (100000000000000000 : Int64))), (.int (own_dig big (10000000000000000 : Int64))), (.int (own_dig big (1000000000000000 : Int64))), (.int (own_dig big (100000000000000 : Int64)))] ++ vs.drop 4) := by
    have q := Av.cast (own_set _ vs 3 rfl (by omega) _)
    rw [own_dig_nar] at q
    exact q
  refine w_aloadN ok dF_44 rfl rfl ?_
  refine w_iconst ok (z := 4) dF_45 rfl ?_
  refine w_lloadN ok dF_46 rfl ?_
  refine w_aloadN ok dF_47 rfl rfl ?_
  refine w_bipush ok (z := 13) dF_48 rfl ?_
  refine w_laload ok (i := 13) Ap (Nat.le_of_ble_eq_true rfl) rfl dF_50 ?_
  refine w_callSV ok (argsL := [(.long big), (.long (10000000000000 : Int64))]) (rest := [(.int (4 : Int32)), (.ref av)]) (hw _ (List.mem_of_getElem? (i := 35) rfl)) (hw _ (List.mem_of_getElem? (i := 36) rfl)) (hw _ (List.mem_of_getElem? (i := 10) rfl)) (hw _ (List.mem_of_getElem? (i := 37) rfl)) (by decide) (rmG l Z a0 hw n0 big (10000000000000 : Int64) h4 (by decide)) dF_51 (lenOf pd__JJ_B rfl) rfl rfl (Nat.le_of_ble_eq_true rfl) (Nat.le_of_ble_eq_true rfl) (k' := 0) (n' := 0) rfl rfl (Nat.le_of_ble_eq_true rfl) (Nat.le_of_ble_eq_true rfl) ?_
  rintro _ _ ⟨rfl, rfl⟩
  refine w_bastoreB' ok (i := 4) Av (by rw [own_lens _ vs 4 rfl (by omega)]; omega) (by rw [own_lens _ vs 4 rfl (by omega)]; omega) gn_av dF_54 (fun h5 W5 Av => ?_)
  have Ap := Ap.other W5 ne
  have Z0 := Nat.le_trans Z0 (Keep.of_wr W5).1
  have Kp := Kp.wr W5 (Or.inl (List.mem_of_getElem? (i := 0) rfl))
  replace Av : Ary Z h5 av .byte ([(.int (own_dig big (100000000000000000 : Int64))), (.int (own_dig big (10000000000000000 : Int64))), (.int (own_dig big (1000000000000000 : Int64))), (.int (own_dig big (100000000000000 : Int64))), (.int (own_dig big (10000000000000 : Int64)))] ++ vs.drop 5) := by
    have q := Av.cast (own_set _ vs 4 rfl (by omega) _)
    rw [own_dig_nar] at q
    exact q
  refine w_aloadN ok dF_55 rfl rfl ?_
  refine w_iconst ok (z := 5) dF_56 rfl ?_
  refine w_lloadN ok dF_57 rfl ?_
  refine w_aloadN ok dF_58 rfl rfl ?_
  refine w_bipush ok (z := 12) dF_59 rfl ?_
  refine w_laload ok (i := 12) Ap (Nat.le_of_ble_eq_true rfl) rfl dF_61 ?_
  refine w_callSV ok (argsL := [(.long big), (.long (1000000000000 : Int64))]) (rest := [(.int (5 : Int32)), (.ref av)]) (hw _ (List.mem_of_getElem? (i := 35) rfl)) (hw _ (List.mem_of_getElem? (i := 36) rfl)) (hw _ (List.mem_of_getElem? (i := 10) rfl)) (hw _ (List.mem_of_getElem? (i := 37) rfl)) (by decide) (rmG l Z a0 hw n0 big (1000000000000 : Int64) h5 (by decide)) dF_62 (lenOf pd__JJ_B rfl) rfl rfl (Nat.le_of_ble_eq_true rfl) (Nat.le_of_ble_eq_true rfl) (k' := 0) (n' := 0) rfl rfl (Nat.le_of_ble_eq_true rfl) (Nat.le_of_ble_eq_true rfl) ?_
  rintro _ _ ⟨rfl, rfl⟩
  refine w_bastoreB' ok (i := 5) Av (by rw [own_lens _ vs 5 rfl (by omega)]; omega) (by rw [own_lens _ vs 5 rfl (by omega)]; omega) gn_av dF_65 (fun h6 W6 Av => ?_)
  have Ap := Ap.other W6 ne
  have Z0 := Nat.le_trans Z0 (Keep.of_wr W6).1
  have Kp := Kp.wr W6 (Or.inl (List.mem_of_getElem? (i := 0) rfl))
  replace Av : Ary Z h6 av .byte ([(.int (own_dig big (100000000000000000 : Int64))), (.int (own_dig big (10000000000000000 : Int64))), (.int (own_dig big (1000000000000000 : Int64))), (.int (own_dig big (100000000000000 : Int64))), (.int (own_dig big (10000000000000 : Int64))), (.int (own_dig big (1000000000000 : Int64)))] ++ vs.drop 6) := by
    have q := Av.cast (own_set _ vs 5 rfl (by omega) _)
    rw [own_dig_nar] at q
    exact q
  refine w_aloadN ok dF_66 rfl rfl ?_
  refine w_bipush ok (z := 6) dF_67 rfl ?_
  refine w_lloadN ok dF_69 rfl ?_
  refine w_aloadN ok dF_70 rfl rfl ?_
  refine w_bipush ok (z := 11) dF_71 rfl ?_
  refine w_laload ok (i := 11) Ap (Nat.le_of_ble_eq_true rfl) rfl dF_73 ?_
  refine w_callSV ok (argsL := [(.long big), (.long (100000000000 : Int64))]) (rest := [(.int (6 : Int32)), (.ref av)]) (hw _ (List.mem_of_getElem? (i := 35) rfl)) (hw _ (List.mem_of_getElem? (i := 36) rfl)) (hw _ (List.mem_of_getElem? (i := 10) rfl)) (hw _ (List.mem_of_getElem? (i := 37) rfl)) (by decide) (rmG l Z a0 hw n0 big (100000000000 : Int64) h6 (by decide)) dF_74 (lenOf pd__JJ_B rfl) rfl rfl (Nat.le_of_ble_eq_true rfl) (Nat.le_of_ble_eq_true rfl) (k' := 0) (n' := 0) rfl rfl (Nat.le_of_ble_eq_true rfl) (Nat.le_of_ble_eq_true rfl) ?_
  rintro _ _ ⟨rfl, rfl⟩
  refine w_bastoreB' ok (i := 6) Av (by rw [own_lens _ vs 6 rfl (by omega)]; omega) (by rw [own_lens _ vs 6 rfl (by omega)]; omega) gn_av dF_77 (fun h7 W7 Av => ?_)
  have Ap := Ap.other W7 ne
  have Z0 := Nat.le_trans Z0 (Keep.of_wr W7).1
  have Kp := Kp.wr W7 (Or.inl (List.mem_of_getElem? (i := 0) rfl))
  replace Av : Ary Z h7 av .byte ([(.int (own_dig big (100000000000000000 : Int64))), (.int (own_dig big (10000000000000000 : Int64))), (.int (own_dig big (1000000000000000 : Int64))), (.int (own_dig big (100000000000000 : Int64))), (.int (own_dig big (10000000000000 : Int64))), (.int (own_dig big (1000000000000 : Int64))), (.int (own_dig big (100000000000 : Int64)))] ++ vs.drop 7) := by
    have q := Av.cast (own_set _ vs 6 rfl (by omega) _)
    rw [own_dig_nar] at q
    exact q
  refine w_aloadN ok dF_78 rfl rfl ?_
  refine w_bipush ok (z := 7) dF_79 rfl ?_
  refine w_lloadN ok dF_81 rfl ?_
  refine w_aloadN ok dF_82 rfl rfl ?_
  refine w_bipush ok (z := 10) dF_83 rfl ?_
  refine w_laload ok (i := 10) Ap (Nat.le_of_ble_eq_true rfl) rfl dF_85 ?_
  refine w_callSV ok (argsL := [(.long big), (.long (10000000000 : Int64))]) (rest := [(.int (7 : Int32)), (.ref av)]) (hw _ (List.mem_of_getElem? (i := 35) rfl)) (hw _ (List.mem_of_getElem? (i := 36) rfl)) (hw _ (List.mem_of_getElem? (i := 10) rfl)) (hw _ (List.mem_of_getElem? (i := 37) rfl)) (by decide) (rmG l Z a0 hw n0 big (10000000000 : Int64) h7 (by decide)) dF_86 (lenOf pd__JJ_B rfl) rfl rfl (Nat.le_of_ble_eq_true rfl) (Nat.le_of_ble_eq_true rfl) (k' := 0) (n' := 0) rfl rfl (Nat.le_of_ble_eq_true rfl) (Nat.le_of_ble_eq_true rfl) ?_
  rintro _ _ ⟨rfl, rfl⟩
  refine w_bastoreB' ok (i := 7) Av (by rw [own_lens _ vs 7 rfl (by omega)]; omega) (by rw [own_lens _ vs 7 rfl (by omega)]; omega) gn_av dF_89 (fun h8 W8 Av => ?_)
  have Ap := Ap.other W8 ne
  have Z0 := Nat.le_trans Z0 (Keep.of_wr W8).1
  have Kp := Kp.wr W8 (Or.inl (List.mem_of_getElem? (i := 0) rfl))
  replace Av : Ary Z h8 av .byte ([(.int (own_dig big (100000000000000000 : Int64))), (.int (own_dig big (10000000000000000 : Int64))), (.int (own_dig big (1000000000000000 : Int64))), (.int (own_dig big (100000000000000 : Int64))), (.int (own_dig big (10000000000000 : Int64))), (.int (own_dig big (1000000000000 : Int64))), (.int (own_dig big (100000000000 : Int64))), (.int (own_dig big (10000000000 : Int64)))] ++ vs.drop 8) := by
    have q := Av.cast (own_set _ vs 7 rfl (by omega) _)
    rw [own_dig_nar] at q
    exact q
  refine w_aloadN ok dF_90 rfl rfl ?_
  refine w_bipush ok (z := 8) dF_91 rfl ?_
  refine w_lloadN ok dF_93 rfl ?_
  refine w_aloadN ok dF_94 rfl rfl ?_
  refine w_bipush ok (z := 9) dF_95 rfl ?_
  refine w_laload ok (i := 9) Ap (Nat.le_of_ble_eq_true rfl) rfl dF_97 ?_
  refine w_callSV ok (argsL := [(.long big), (.long (1000000000 : Int64))]) (rest := [(.int (8 : Int32)), (.ref av)]) (hw _ (List.mem_of_getElem? (i := 35) rfl)) (hw _ (List.mem_of_getElem? (i := 36) rfl)) (hw _ (List.mem_of_getElem? (i := 10) rfl)) (hw _ (List.mem_of_getElem? (i := 37) rfl)) (by decide) (rmG l Z a0 hw n0 big (1000000000 : Int64) h8 (by decide)) dF_98 (lenOf pd__JJ_B rfl) rfl rfl (Nat.le_of_ble_eq_true rfl) (Nat.le_of_ble_eq_true rfl) (k' := 0) (n' := 0) rfl rfl (Nat.le_of_ble_eq_true rfl) (Nat.le_of_ble_eq_true rfl) ?_
  rintro _ _ ⟨rfl, rfl⟩
  refine w_bastoreB' ok (i := 8) Av (by rw [own_lens _ vs 8 rfl (by omega)]; omega) (by rw [own_lens _ vs 8 rfl (by omega)]; omega) gn_av dF_101 (fun h9 W9 Av => ?_)
  have Ap := Ap.other W9 ne
  have Z0 := Nat.le_trans Z0 (Keep.of_wr W9).1
  have Kp := Kp.wr W9 (Or.inl (List.mem_of_getElem? (i := 0) rfl))
  replace Av : Ary Z h9 av .byte ([(.int (own_dig big (100000000000000000 : Int64))), (.int (own_dig big (10000000000000000 : Int64))), (.int (own_dig big (1000000000000000 : Int64))), (.int (own_dig big (100000000000000 : Int64))), (.int (own_dig big (10000000000000 : Int64))), (.int (own_dig big (1000000000000 : Int64))), (.int (own_dig big (100000000000 : Int64))), (.int (own_dig big (10000000000 : Int64))), (.int (own_dig big (1000000000 : Int64)))] ++ vs.drop 9) := by
    have q := Av.cast (own_set _ vs 8 rfl (by omega) _)
    rw [own_dig_nar] at q
    exact q
  refine w_aloadN ok dF_102 rfl rfl ?_
  refine w_bipush ok (z := 9) dF_103 rfl ?_
  refine w_lloadN ok dF_105 rfl ?_
  refine w_aloadN ok dF_106 rfl rfl ?_
  refine w_bipush ok (z := 8) dF_107 rfl ?_
  refine w_laload ok (i := 8) Ap (Nat.le_of_ble_eq_true rfl) rfl dF_109 ?_
  refine w_callSV ok (argsL := [(.long big), (.long (100000000 : Int64))]) (rest := [(.int (9 : Int32)), (.ref av)]) (hw _ (List.mem_of_getElem? (i := 35) rfl)) (hw _ (List.mem_of_getElem? (i := 36) rfl)) (hw _ (List.mem_of_getElem? (i := 10) rfl)) (hw _ (List.mem_of_getElem? (i := 37) rfl)) (by decide) (rmG l Z a0 hw n0 big (100000000 : Int64) h9 (by decide)) dF_110 (lenOf pd__JJ_B rfl) rfl rfl (Nat.le_of_ble_eq_true rfl) (Nat.le_of_ble_eq_true rfl) (k' := 0) (n' := 0) rfl rfl (Nat.le_of_ble_eq_true rfl) (Nat.le_of_ble_eq_true rfl) ?_
  rintro _ _ ⟨rfl, rfl⟩
  refine w_bastoreB' ok (i := 9) Av (by rw [own_lens _ vs 9 rfl (by omega)]; omega) (by rw [own_lens _ vs 9 rfl (by omega)]; omega) gn_av dF_113 (fun h10 W10 Av => ?_)
  have Ap := Ap.other W10 ne
  have Z0 := Nat.le_trans Z0 (Keep.of_wr W10).1
  have Kp := Kp.wr W10 (Or.inl (List.mem_of_getElem? (i := 0) rfl))
  replace Av : Ary Z h10 av .byte ([(.int (own_dig big (100000000000000000 : Int64))), (.int (own_dig big (10000000000000000 : Int64))), (.int (own_dig big (1000000000000000 : Int64))), (.int (own_dig big (100000000000000 : Int64))), (.int (own_dig big (10000000000000 : Int64))), (.int (own_dig big (1000000000000 : Int64))), (.int (own_dig big (100000000000 : Int64))), (.int (own_dig big (10000000000 : Int64))), (.int (own_dig big (1000000000 : Int64))), (.int (own_dig big (100000000 : Int64)))] ++ vs.drop 10) := by
    have q := Av.cast (own_set _ vs 9 rfl (by omega) _)
    rw [own_dig_nar] at q
    exact q
  refine w_aloadN ok dF_114 rfl rfl ?_
  refine w_bipush ok (z := 10) dF_115 rfl ?_
  refine w_lloadN ok dF_117 rfl ?_
  refine w_aloadN ok dF_118 rfl rfl ?_
  refine w_bipush ok (z := 7) dF_119 rfl ?_
  refine w_laload ok (i := 7) Ap (Nat.le_of_ble_eq_true rfl) rfl dF_121 ?_
  refine w_callSV ok (argsL := [(.long big), (.long (10000000 : Int64))]) (rest := [(.int (10 : Int32)), (.ref av)]) (hw _ (List.mem_of_getElem? (i := 35) rfl)) (hw _ (List.mem_of_getElem? (i := 36) rfl)) (hw _ (List.mem_of_getElem? (i := 10) rfl)) (hw _ (List.mem_of_getElem? (i := 37) rfl)) (by decide) (rmG l Z a0 hw n0 big (10000000 : Int64) h10 (by decide)) dF_122 (lenOf pd__JJ_B rfl) rfl rfl (Nat.le_of_ble_eq_true rfl) (Nat.le_of_ble_eq_true rfl) (k' := 0) (n' := 0) rfl rfl (Nat.le_of_ble_eq_true rfl) (Nat.le_of_ble_eq_true rfl) ?_
  rintro _ _ ⟨rfl, rfl⟩
  refine w_bastoreB' ok (i := 10) Av (by rw [own_lens _ vs 10 rfl (by omega)]; omega) (by rw [own_lens _ vs 10 rfl (by omega)]; omega) gn_av dF_125 (fun h11 W11 Av => ?_)
  have Ap := Ap.other W11 ne
  have Z0 := Nat.le_trans Z0 (Keep.of_wr W11).1
  have Kp := Kp.wr W11 (Or.inl (List.mem_of_getElem? (i := 0) rfl))
  replace Av : Ary Z h11 av .byte ([(.int (own_dig big (100000000000000000 : Int64))), (.int (own_dig big (10000000000000000 : Int64))), (.int (own_dig big (1000000000000000 : Int64))), (.int (own_dig big (100000000000000 : Int64))), (.int (own_dig big (10000000000000 : Int64))), (.int (own_dig big (1000000000000 : Int64))), (.int (own_dig big (100000000000 : Int64))), (.int (own_dig big (10000000000 : Int64))), (.int (own_dig big (1000000000 : Int64))), (.int (own_dig big (100000000 : Int64))), (.int (own_dig big (10000000 : Int64)))] ++ vs.drop 11) := by
    have q := Av.cast (own_set _ vs 10 rfl (by omega) _)
    rw [own_dig_nar] at q
    exact q
  refine w_aloadN ok dF_126 rfl rfl ?_
  refine w_bipush ok (z := 11) dF_127 rfl ?_
  refine w_lloadN ok dF_129 rfl ?_
  refine w_aloadN ok dF_130 rfl rfl ?_
  refine w_bipush ok (z := 6) dF_131 rfl ?_
  refine w_laload ok (i := 6) Ap (Nat.le_of_ble_eq_true rfl) rfl dF_133 ?_
  refine w_callSV ok (argsL := [(.long big), (.long (1000000 : Int64))]) (rest := [(.int (11 : Int32)), (.ref av)]) (hw _ (List.mem_of_getElem? (i := 35) rfl)) (hw _ (List.mem_of_getElem? (i := 36) rfl)) (hw _ (List.mem_of_getElem? (i := 10) rfl)) (hw _ (List.mem_of_getElem? (i := 37) rfl)) (by decide) (rmG l Z a0 hw n0 big (1000000 : Int64) h11 (by decide)) dF_134 (lenOf pd__JJ_B rfl) rfl rfl (Nat.le_of_ble_eq_true rfl) (Nat.le_of_ble_eq_true rfl) (k' := 0) (n' := 0) rfl rfl (Nat.le_of_ble_eq_true rfl) (Nat.le_of_ble_eq_true rfl) ?_
  rintro _ _ ⟨rfl, rfl⟩
  refine w_bastoreB' ok (i := 11) Av (by rw [own_lens _ vs 11 rfl (by omega)]; omega) (by rw [own_lens _ vs 11 rfl (by omega)]; omega) gn_av dF_137 (fun h12 W12 Av => ?_)
  have Ap := Ap.other W12 ne
  have Z0 := Nat.le_trans Z0 (Keep.of_wr W12).1
  have Kp := Kp.wr W12 (Or.inl (List.mem_of_getElem? (i := 0) rfl))
  replace Av : Ary Z h12 av .byte ([(.int (own_dig big (100000000000000000 : Int64))), (.int (own_dig big (10000000000000000 : Int64))), (.int (own_dig big (1000000000000000 : Int64))), (.int (own_dig big (100000000000000 : Int64))), (.int (own_dig big (10000000000000 : Int64))), (.int (own_dig big (1000000000000 : Int64))), (.int (own_dig big (100000000000 : Int64))), (.int (own_dig big (10000000000 : Int64))), (.int (own_dig big (1000000000 : Int64))), (.int (own_dig big (100000000 : Int64))), (.int (own_dig big (10000000 : Int64))), (.int (own_dig big (1000000 : Int64)))] ++ vs.drop 12) := by
    have q := Av.cast (own_set _ vs 11 rfl (by omega) _)
    rw [own_dig_nar] at q
    exact q
  refine w_aloadN ok dF_138 rfl rfl ?_
  refine w_bipush ok (z := 12) dF_139 rfl ?_
  refine w_lloadN ok dF_141 rfl ?_
  refine w_aloadN ok dF_142 rfl rfl ?_
  refine w_iconst ok (z := 5) dF_143 rfl ?_
  refine w_laload ok (i := 5) Ap (Nat.le_of_ble_eq_true rfl) rfl dF_144 ?_
  refine w_callSV ok (argsL := [(.long big), (.long (100000 : Int64))]) (rest := [(.int (12 : Int32)), (.ref av)]) (hw _ (List.mem_of_getElem? (i := 35) rfl)) (hw _ (List.mem_of_getElem? (i := 36) rfl)) (hw _ (List.mem_of_getElem? (i := 10) rfl)) (hw _ (List.mem_of_getElem? (i := 37) rfl)) (by decide) (rmG l Z a0 hw n0 big (100000 : Int64) h12 (by decide)) dF_145 (lenOf pd__JJ_B rfl) rfl rfl (Nat.le_of_ble_eq_true rfl) (Nat.le_of_ble_eq_true rfl) (k' := 0) (n' := 0) rfl rfl (Nat.le_of_ble_eq_true rfl) (Nat.le_of_ble_eq_true rfl) ?_
  rintro _ _ ⟨rfl, rfl⟩
  refine w_bastoreB' ok (i := 12) Av (by rw [own_lens _ vs 12 rfl (by omega)]; omega) (by rw [own_lens _ vs 12 rfl (by omega)]; omega) gn_av dF_148 (fun h13 W13 Av => ?_)
  have Ap := Ap.other W13 ne
  have Z0 := Nat.le_trans Z0 (Keep.of_wr W13).1
  have Kp := Kp.wr W13 (Or.inl (List.mem_of_getElem? (i := 0) rfl))
  replace Av : Ary Z h13 av .byte ([(.int (own_dig big (100000000000000000 : Int64))), (.int (own_dig big (10000000000000000 : Int64))), (.int (own_dig big (1000000000000000 : Int64))), (.int (own_dig big (100000000000000 : Int64))), (.int (own_dig big (10000000000000 : Int64))), (.int (own_dig big (1000000000000 : Int64))), (.int (own_dig big (100000000000 : Int64))), (.int (own_dig big (10000000000 : Int64))), (.int (own_dig big (1000000000 : Int64))), (.int (own_dig big (100000000 : Int64))), (.int (own_dig big (10000000 : Int64))), (.int (own_dig big (1000000 : Int64))), (.int (own_dig big (100000 : Int64)))] ++ vs.drop 13) := by
    have q := Av.cast (own_set _ vs 12 rfl (by omega) _)
    rw [own_dig_nar] at q
    exact q
  refine w_aloadN ok dF_149 rfl rfl ?_
  refine w_bipush ok (z := 13) dF_150 rfl ?_
  refine w_lloadN ok dF_152 rfl ?_
  refine w_aloadN ok dF_153 rfl rfl ?_
  refine w_iconst ok (z := 4) dF_154 rfl ?_
  refine w_laload ok (i := 4) Ap (Nat.le_of_ble_eq_true rfl) rfl dF_155 ?_
  refine w_callSV ok (argsL := [(.long big), (.long (10000 : Int64))]) (rest := [(.int (13 : Int32)), (.ref av)]) (hw _ (List.mem_of_getElem? (i := 35) rfl)) (hw _ (List.mem_of_getElem? (i := 36) rfl)) (hw _ (List.mem_of_getElem? (i := 10) rfl)) (hw _ (List.mem_of_getElem? (i := 37) rfl)) (by decide) (rmG l Z a0 hw n0 big (10000 : Int64) h13 (by decide)) dF_156 (lenOf pd__JJ_B rfl) rfl rfl (Nat.le_of_ble_eq_true rfl) (Nat.le_of_ble_eq_true rfl) (k' := 0) (n' := 0) rfl rfl (Nat.le_of_ble_eq_true rfl) (Nat.le_of_ble_eq_true rfl) ?_
  rintro _ _ ⟨rfl, rfl⟩
  refine w_bastoreB' ok (i := 13) Av (by rw [own_lens _ vs 13 rfl (by omega)]; omega) (by rw [own_lens _ vs 13 rfl (by omega)]; omega) gn_av dF_159 (fun h14 W14 Av => ?_)
  have Ap := Ap.other W14 ne
  have Z0 := Nat.le_trans Z0 (Keep.of_wr W14).1
  have Kp := Kp.wr W14 (Or.inl (List.mem_of_getElem? (i := 0) rfl))
  replace Av : Ary Z h14 av .byte ([(.int (own_dig big (100000000000000000 : Int64))), (.int (own_dig big (10000000000000000 : Int64))), (.int (own_dig big (1000000000000000 : Int64))), (.int (own_dig big (100000000000000 : Int64))), (.int (own_dig big (10000000000000 : Int64))), (.int (own_dig big (1000000000000 : Int64))), (.int (own_dig big (100000000000 : Int64))), (.int (own_dig big (10000000000 : Int64))), (.int (own_dig big (1000000000 : Int64))), (.int (own_dig big (100000000 : Int64))), (.int (own_dig big (10000000 : Int64))), (.int (own_dig big (1000000 : Int64))), (.int (own_dig big (100000 : Int64))), (.int (own_dig big (10000 : Int64)))] ++ vs.drop 14) := by
    have q := Av.cast (own_set _ vs 13 rfl (by omega) _)
    rw [own_dig_nar] at q
    exact q
  refine w_aloadN ok dF_160 rfl rfl ?_
  refine w_bipush ok (z := 14) dF_161 rfl ?_
  refine w_lloadN ok dF_163 rfl ?_
  refine w_aloadN ok dF_164 rfl rfl ?_
  refine w_iconst ok (z := 3) dF_165 rfl ?_
  refine w_laload ok (i := 3) Ap (Nat.le_of_ble_eq_true rfl) rfl dF_166 ?_
  refine w_callSV ok (argsL := [(.long big), (.long (1000 : Int64))]) (rest := [(.int (14 : Int32)), (.ref av)]) (hw _ (List.mem_of_getElem? (i := 35) rfl)) (hw _ (List.mem_of_getElem? (i := 36) rfl)) (hw _ (List.mem_of_getElem? (i := 10) rfl)) (hw _ (List.mem_of_getElem? (i := 37) rfl)) (by decide) (rmG l Z a0 hw n0 big (1000 : Int64) h14 (by decide)) dF_167 (lenOf pd__JJ_B rfl) rfl rfl (Nat.le_of_ble_eq_true rfl) (Nat.le_of_ble_eq_true rfl) (k' := 0) (n' := 0) rfl rfl (Nat.le_of_ble_eq_true rfl) (Nat.le_of_ble_eq_true rfl) ?_
  rintro _ _ ⟨rfl, rfl⟩
  refine w_bastoreB' ok (i := 14) Av (by rw [own_lens _ vs 14 rfl (by omega)]; omega) (by rw [own_lens _ vs 14 rfl (by omega)]; omega) gn_av dF_170 (fun h15 W15 Av => ?_)
  have Ap := Ap.other W15 ne
  have Z0 := Nat.le_trans Z0 (Keep.of_wr W15).1
  have Kp := Kp.wr W15 (Or.inl (List.mem_of_getElem? (i := 0) rfl))
  replace Av : Ary Z h15 av .byte ([(.int (own_dig big (100000000000000000 : Int64))), (.int (own_dig big (10000000000000000 : Int64))), (.int (own_dig big (1000000000000000 : Int64))), (.int (own_dig big (100000000000000 : Int64))), (.int (own_dig big (10000000000000 : Int64))), (.int (own_dig big (1000000000000 : Int64))), (.int (own_dig big (100000000000 : Int64))), (.int (own_dig big (10000000000 : Int64))), (.int (own_dig big (1000000000 : Int64))), (.int (own_dig big (100000000 : Int64))), (.int (own_dig big (10000000 : Int64))), (.int (own_dig big (1000000 : Int64))), (.int (own_dig big (100000 : Int64))), (.int (own_dig big (10000 : Int64))), (.int (own_dig big (1000 : Int64)))] ++ vs.drop 15) := by
    have q := Av.cast (own_set _ vs 14 rfl (by omega) _)
    rw [own_dig_nar] at q
    exact q
  refine w_aloadN ok dF_171 rfl rfl ?_
  refine w_bipush ok (z := 15) dF_172 rfl ?_
  refine w_lloadN ok dF_174 rfl ?_
  refine w_aloadN ok dF_175 rfl rfl ?_
  refine w_iconst ok (z := 2) dF_176 rfl ?_
  refine w_laload ok (i := 2) Ap (Nat.le_of_ble_eq_true rfl) rfl dF_177 ?_
  refine w_callSV ok (argsL := [(.long big), (.long (100 : Int64))]) (rest := [(.int (15 : Int32)), (.ref av)]) (hw _ (List.mem_of_getElem? (i := 35) rfl)) (hw _ (List.mem_of_getElem? (i := 36) rfl)) (hw _ (List.mem_of_getElem? (i := 10) rfl)) (hw _ (List.mem_of_getElem? (i := 37) rfl)) (by decide) (rmG l Z a0 hw n0 big (100 : Int64) h15 (by decide)) dF_178 (lenOf pd__JJ_B rfl) rfl rfl (Nat.le_of_ble_eq_true rfl) (Nat.le_of_ble_eq_true rfl) (k' := 0) (n' := 0) rfl rfl (Nat.le_of_ble_eq_true rfl) (Nat.le_of_ble_eq_true rfl) ?_
  rintro _ _ ⟨rfl, rfl⟩
  refine w_bastoreB' ok (i := 15) Av (by rw [own_lens _ vs 15 rfl (by omega)]; omega) (by rw [own_lens _ vs 15 rfl (by omega)]; omega) gn_av dF_181 (fun h16 W16 Av => ?_)
  have Ap := Ap.other W16 ne
  have Z0 := Nat.le_trans Z0 (Keep.of_wr W16).1
  have Kp := Kp.wr W16 (Or.inl (List.mem_of_getElem? (i := 0) rfl))
  replace Av : Ary Z h16 av .byte ([(.int (own_dig big (100000000000000000 : Int64))), (.int (own_dig big (10000000000000000 : Int64))), (.int (own_dig big (1000000000000000 : Int64))), (.int (own_dig big (100000000000000 : Int64))), (.int (own_dig big (10000000000000 : Int64))), (.int (own_dig big (1000000000000 : Int64))), (.int (own_dig big (100000000000 : Int64))), (.int (own_dig big (10000000000 : Int64))), (.int (own_dig big (1000000000 : Int64))), (.int (own_dig big (100000000 : Int64))), (.int (own_dig big (10000000 : Int64))), (.int (own_dig big (1000000 : Int64))), (.int (own_dig big (100000 : Int64))), (.int (own_dig big (10000 : Int64))), (.int (own_dig big (1000 : Int64))), (.int (own_dig big (100 : Int64)))] ++ vs.drop 16) := by
    have q := Av.cast (own_set _ vs 15 rfl (by omega) _)
    rw [own_dig_nar] at q
    exact q
  refine w_aloadN ok dF_182 rfl rfl ?_
  refine w_bipush ok (z := 16) dF_183 rfl ?_
  refine w_lloadN ok dF_185 rfl ?_
  refine w_aloadN ok dF_186 rfl rfl ?_
  refine w_iconst ok (z := 1) dF_187 rfl ?_
  refine w_laload ok (i := 1) Ap (Nat.le_of_ble_eq_true rfl) rfl dF_188 ?_
  refine w_callSV ok (argsL := [(.long big), (.long (10 : Int64))]) (rest := [(.int (16 : Int32)), (.ref av)]) (hw _ (List.mem_of_getElem? (i := 35) rfl)) (hw _ (List.mem_of_getElem? (i := 36) rfl)) (hw _ (List.mem_of_getElem? (i := 10) rfl)) (hw _ (List.mem_of_getElem? (i := 37) rfl)) (by decide) (rmG l Z a0 hw n0 big (10 : Int64) h16 (by decide)) dF_189 (lenOf pd__JJ_B rfl) rfl rfl (Nat.le_of_ble_eq_true rfl) (Nat.le_of_ble_eq_true rfl) (k' := 0) (n' := 0) rfl rfl (Nat.le_of_ble_eq_true rfl) (Nat.le_of_ble_eq_true rfl) ?_
  rintro _ _ ⟨rfl, rfl⟩
  refine w_bastoreB' ok (i := 16) Av (by rw [own_lens _ vs 16 rfl (by omega)]; omega) (by rw [own_lens _ vs 16 rfl (by omega)]; omega) gn_av dF_192 (fun h17 W17 Av => ?_)
  have Ap := Ap.other W17 ne
  have Z0 := Nat.le_trans Z0 (Keep.of_wr W17).1
  have Kp := Kp.wr W17 (Or.inl (List.mem_of_getElem? (i := 0) rfl))
  replace Av : Ary Z h17 av .byte ([(.int (own_dig big (100000000000000000 : Int64))), (.int (own_dig big (10000000000000000 : Int64))), (.int (own_dig big (1000000000000000 : Int64))), (.int (own_dig big (100000000000000 : Int64))), (.int (own_dig big (10000000000000 : Int64))), (.int (own_dig big (1000000000000 : Int64))), (.int (own_dig big (100000000000 : Int64))), (.int (own_dig big (10000000000 : Int64))), (.int (own_dig big (1000000000 : Int64))), (.int (own_dig big (100000000 : Int64))), (.int (own_dig big (10000000 : Int64))), (.int (own_dig big (1000000 : Int64))), (.int (own_dig big (100000 : Int64))), (.int (own_dig big (10000 : Int64))), (.int (own_dig big (1000 : Int64))), (.int (own_dig big (100 : Int64))), (.int (own_dig big (10 : Int64)))] ++ vs.drop 17) := by
    have q := Av.cast (own_set _ vs 16 rfl (by omega) _)
    rw [own_dig_nar] at q
    exact q
  refine w_aloadN ok dF_193 rfl rfl ?_
  refine w_bipush ok (z := 17) dF_194 rfl ?_
  refine w_lloadN ok dF_196 rfl ?_
  refine w_aloadN ok dF_197 rfl rfl ?_
  refine w_iconst ok (z := 0) dF_198 rfl ?_
  refine w_laload ok (i := 0) Ap (Nat.le_of_ble_eq_true rfl) rfl dF_199 ?_
  refine w_callSV ok (argsL := [(.long big), (.long (1 : Int64))]) (rest := [(.int (17 : Int32)), (.ref av)]) (hw _ (List.mem_of_getElem? (i := 35) rfl)) (hw _ (List.mem_of_getElem? (i := 36) rfl)) (hw _ (List.mem_of_getElem? (i := 10) rfl)) (hw _ (List.mem_of_getElem? (i := 37) rfl)) (by decide) (rmG l Z a0 hw n0 big (1 : Int64) h17 (by decide)) dF_200 (lenOf pd__JJ_B rfl) rfl rfl (Nat.le_of_ble_eq_true rfl) (Nat.le_of_ble_eq_true rfl) (k' := 0) (n' := 0) rfl rfl (Nat.le_of_ble_eq_true rfl) (Nat.le_of_ble_eq_true rfl) ?_
  rintro _ _ ⟨rfl, rfl⟩
  refine w_bastoreB' ok (i := 17) Av (by rw [own_lens _ vs 17 rfl (by omega)]; omega) (by rw [own_lens _ vs 17 rfl (by omega)]; omega) gn_av dF_203 (fun h18 W18 Av => ?_)
  have Ap := Ap.other W18 ne
  have Z0 := Nat.le_trans Z0 (Keep.of_wr W18).1
  have Kp := Kp.wr W18 (Or.inl (List.mem_of_getElem? (i := 0) rfl))
  replace Av : Ary Z h18 av .byte ([(.int (own_dig big (100000000000000000 : Int64))), (.int (own_dig big (10000000000000000 : Int64))), (.int (own_dig big (1000000000000000 : Int64))), (.int (own_dig big (100000000000000 : Int64))), (.int (own_dig big (10000000000000 : Int64))), (.int (own_dig big (1000000000000 : Int64))), (.int (own_dig big (100000000000 : Int64))), (.int (own_dig big (10000000000 : Int64))), (.int (own_dig big (1000000000 : Int64))), (.int (own_dig big (100000000 : Int64))), (.int (own_dig big (10000000 : Int64))), (.int (own_dig big (1000000 : Int64))), (.int (own_dig big (100000 : Int64))), (.int (own_dig big (10000 : Int64))), (.int (own_dig big (1000 : Int64))), (.int (own_dig big (100 : Int64))), (.int (own_dig big (10 : Int64))), (.int (own_dig big (1 : Int64)))] ++ vs.drop 18) := by
    have q := Av.cast (own_set _ vs 17 rfl (by omega) _)
    rw [own_dig_nar] at q
    exact q
  refine w_return ok dF_204 (Nat.le_of_ble_eq_true rfl) (Nat.le_of_ble_eq_true rfl) ?_
  exact ⟨rfl, Kp, Av, Ap⟩
theorem d0_0 : Fet code 0 1 (.iload_n 0) 1 := ⟨by decide +kernel, rfl⟩
theorem d0_1 : Fet code 1 3 (.ldc 7) 2 := ⟨by decide +kernel, rfl⟩
theorem d0_3 : Fet code 3 4 (.iand) 1 := ⟨by decide +kernel, rfl⟩
theorem d0_4 : Fet code 4 6 (.bipush 7) 2 := ⟨by decide +kernel, rfl⟩
theorem d0_6 : Fet code 6 7 (.irem) 1 := ⟨by decide +kernel, rfl⟩
theorem d0_7 : Fet code 7 9 (.istore 7) 2 := ⟨by decide +kernel, rfl⟩
theorem d0_9 : Fet code 9 11 (.iload 7) 2 := ⟨by decide +kernel, rfl⟩
theorem d0_11 : Brn code 11 14 31 (.ifCond .ne 20) 20 := ⟨by decide +kernel, rfl, by decide, by decide⟩
theorem d0_14 : Fet code 14 15 (.aconst_null) 1 := ⟨by decide +kernel, rfl⟩
theorem d0_15 : Fet code 15 18 (.invokestatic 8) 3 := ⟨by decide +kernel, rfl⟩
theorem pd__ArB_J : parseMethodDescriptor "([B)J" = some ⟨[(.array .byte)], some .long⟩ := by decide +kernel
theorem d0_18 : Fet code 18 21 (.ldc2_w 14) 3 := ⟨by decide +kernel, rfl⟩
theorem d0_21 : Fet code 21 22 (.lcmp) 1 := ⟨by decide +kernel, rfl⟩
theorem d0_22 : Brn code 22 25 29 (.ifCond .ne 7) 7 := ⟨by decide +kernel, rfl, by decide, by decide⟩
theorem d0_25 : Fet code 25 26 (.iconst 1) 1 := ⟨by decide +kernel, rfl⟩
theorem d0_26 : Brn code 26 29 30 (.goto 4) 4 := ⟨by decide +kernel, rfl, by decide, by decide⟩
theorem d0_30 : Fet code 30 31 (.ireturn) 1 := ⟨by decide +kernel, rfl⟩
theorem d0_31 : Fet code 31 33 (.iload 7) 2 := ⟨by decide +kernel, rfl⟩
theorem d0_33 : Fet code 33 34 (.iconst 1) 1 := ⟨by decide +kernel, rfl⟩
theorem d0_34 : Brn code 34 37 56 (.if_icmp .ne 22) 22 := ⟨by decide +kernel, rfl, by decide, by decide⟩
theorem d0_37 : Fet code 37 38 (.iconst 0) 1 := ⟨by decide +kernel, rfl⟩
theorem d0_38 : Fet code 38 40 (.newarray .byte) 2 := ⟨by decide +kernel, rfl⟩
theorem d0_40 : Fet code 40 43 (.invokestatic 8) 3 := ⟨by decide +kernel, rfl⟩
theorem d0_43 : Fet code 43 46 (.ldc2_w 14) 3 := ⟨by decide +kernel, rfl⟩
theorem d0_46 : Fet code 46 47 (.lcmp) 1 := ⟨by decide +kernel, rfl⟩
theorem d0_47 : Brn code 47 50 54 (.ifCond .ne 7) 7 := ⟨by decide +kernel, rfl, by decide, by decide⟩
theorem d0_50 : Fet code 50 51 (.iconst 1) 1 := ⟨by decide +kernel, rfl⟩
theorem d0_51 : Brn code 51 54 55 (.goto 4) 4 := ⟨by decide +kernel, rfl, by decide, by decide⟩
theorem d0_55 : Fet code 55 56 (.ireturn) 1 := ⟨by decide +kernel, rfl⟩
theorem d0_56 : Fet code 56 57 (.iload_n 1) 1 := ⟨by decide +kernel, rfl⟩
theorem d0_57 : Fet code 57 58 (.i2b) 1 := ⟨by decide +kernel, rfl⟩
theorem d0_58 : Fet code 58 60 (.istore 8) 2 := ⟨by decide +kernel, rfl⟩
theorem d0_60 : Fet code 60 61 (.iload_n 2) 1 := ⟨by decide +kernel, rfl⟩
theorem d0_61 : Fet code 61 62 (.i2b) 1 := ⟨by decide +kernel, rfl⟩
theorem d0_62 : Fet code 62 64 (.istore 9) 2 := ⟨by decide +kernel, rfl⟩
theorem d0_64 : Fet code 64 65 (.iload_n 3) 1 := ⟨by decide +kernel, rfl⟩
theorem d0_65 : Fet code 65 66 (.i2b) 1 := ⟨by decide +kernel, rfl⟩
theorem d0_66 : Fet code 66 68 (.istore 10) 2 := ⟨by decide +kernel, rfl⟩
theorem d0_68 : Fet code 68 70 (.iload 7) 2 := ⟨by decide +kernel, rfl⟩
theorem d0_70 : Fet code 70 71 (.iconst 2) 1 := ⟨by decide +kernel, rfl⟩
theorem d0_71 : Brn code 71 74 123 (.if_icmp .ne 52) 52 := ⟨by decide +kernel, rfl, by decide, by decide⟩
theorem d0_74 : Fet code 74 75 (.iconst 1) 1 := ⟨by decide +kernel, rfl⟩
theorem d0_75 : Fet code 75 77 (.newarray .byte) 2 := ⟨by decide +kernel, rfl⟩
theorem d0_77 : Fet code 77 78 (.dup) 1 := ⟨by decide +kernel, rfl⟩
theorem d0_78 : Fet code 78 79 (.iconst 0) 1 := ⟨by decide +kernel, rfl⟩
theorem d0_79 : Fet code 79 81 (.iload 8) 2 := ⟨by decide +kernel, rfl⟩
theorem d0_81 : Fet code 81 82 (.bastore) 1 := ⟨by decide +kernel, rfl⟩
theorem d0_82 : Fet code 82 84 (.astore 11) 2 := ⟨by decide +kernel, rfl⟩
theorem d0_84 : Fet code 84 86 (.iload 8) 2 := ⟨by decide +kernel, rfl⟩
theorem d0_86 : Fet code 86 89 (.invokestatic 16) 3 := ⟨by decide +kernel, rfl⟩
theorem pd__B_Z : parseMethodDescriptor "(B)Z" = some ⟨[.byte], some .boolean⟩ := by decide +kernel
theorem d0_89 : Brn code 89 92 101 (.ifCond .eq 12) 12 := ⟨by decide +kernel, rfl, by decide, by decide⟩
theorem d0_101 : Fet code 101 104 (.ldc2_w 14) 3 := ⟨by decide +kernel, rfl⟩
theorem d0_104 : Fet code 104 106 (.lstore 12) 2 := ⟨by decide +kernel, rfl⟩
theorem d0_106 : Fet code 106 108 (.aload 11) 2 := ⟨by decide +kernel, rfl⟩
theorem d0_108 : Fet code 108 111 (.invokestatic 8) 3 := ⟨by decide +kernel, rfl⟩
theorem d0_111 : Fet code 111 113 (.lload 12) 2 := ⟨by decide +kernel, rfl⟩
theorem d0_113 : Fet code 113 114 (.lcmp) 1 := ⟨by decide +kernel, rfl⟩
theorem d0_114 : Brn code 114 117 121 (.ifCond .ne 7) 7 := ⟨by decide +kernel, rfl, by decide, by decide⟩
theorem d0_117 : Fet code 117 118 (.iconst 1) 1 := ⟨by decide +kernel, rfl⟩
theorem d0_118 : Brn code 118 121 122 (.goto 4) 4 := ⟨by decide +kernel, rfl, by decide, by decide⟩
theorem d0_122 : Fet code 122 123 (.ireturn) 1 := ⟨by decide +kernel, rfl⟩
theorem d0_92 : Fet code 92 94 (.iload 8) 2 := ⟨by decide +kernel, rfl⟩
theorem d0_94 : Fet code 94 96 (.bipush 48) 2 := ⟨by decide +kernel, rfl⟩
theorem d0_96 : Fet code 96 97 (.isub) 1 := ⟨by decide +kernel, rfl⟩
theorem d0_97 : Fet code 97 98 (.i2l) 1 := ⟨by decide +kernel, rfl⟩
theorem d0_98 : Brn code 98 101 104 (.goto 6) 6 := ⟨by decide +kernel, rfl, by decide, by decide⟩
theorem d0_123 : Fet code 123 125 (.iload 7) 2 := ⟨by decide +kernel, rfl⟩
theorem d0_125 : Fet code 125 126 (.iconst 3) 1 := ⟨by decide +kernel, rfl⟩
theorem d0_126 : Brn code 126 129 202 (.if_icmp .ne 76) 76 := ⟨by decide +kernel, rfl, by decide, by decide⟩
theorem d0_129 : Fet code 129 130 (.iconst 2) 1 := ⟨by decide +kernel, rfl⟩
theorem d0_130 : Fet code 130 132 (.newarray .byte) 2 := ⟨by decide +kernel, rfl⟩
theorem d0_132 : Fet code 132 133 (.dup) 1 := ⟨by decide +kernel, rfl⟩
theorem d0_133 : Fet code 133 134 (.iconst 0) 1 := ⟨by decide +kernel, rfl⟩
theorem d0_134 : Fet code 134 136 (.iload 8) 2 := ⟨by decide +kernel, rfl⟩
theorem d0_136 : Fet code 136 137 (.bastore) 1 := ⟨by decide +kernel, rfl⟩
theorem d0_137 : Fet code 137 138 (.dup) 1 := ⟨by decide +kernel, rfl⟩
theorem d0_138 : Fet code 138 139 (.iconst 1) 1 := ⟨by decide +kernel, rfl⟩
theorem d0_139 : Fet code 139 141 (.iload 9) 2 := ⟨by decide +kernel, rfl⟩
theorem d0_141 : Fet code 141 142 (.bastore) 1 := ⟨by decide +kernel, rfl⟩
theorem d0_142 : Fet code 142 144 (.astore 11) 2 := ⟨by decide +kernel, rfl⟩
theorem d0_144 : Fet code 144 146 (.iload 8) 2 := ⟨by decide +kernel, rfl⟩
theorem d0_146 : Fet code 146 149 (.invokestatic 16) 3 := ⟨by decide +kernel, rfl⟩
theorem d0_149 : Brn code 149 152 180 (.ifCond .eq 31) 31 := ⟨by decide +kernel, rfl, by decide, by decide⟩
theorem d0_180 : Fet code 180 183 (.ldc2_w 14) 3 := ⟨by decide +kernel, rfl⟩
theorem d0_183 : Fet code 183 185 (.lstore 12) 2 := ⟨by decide +kernel, rfl⟩
theorem d0_185 : Fet code 185 187 (.aload 11) 2 := ⟨by decide +kernel, rfl⟩
theorem d0_187 : Fet code 187 190 (.invokestatic 8) 3 := ⟨by decide +kernel, rfl⟩
theorem d0_190 : Fet code 190 192 (.lload 12) 2 := ⟨by decide +kernel, rfl⟩
theorem d0_192 : Fet code 192 193 (.lcmp) 1 := ⟨by decide +kernel, rfl⟩
theorem d0_193 : Brn code 193 196 200 (.ifCond .ne 7) 7 := ⟨by decide +kernel, rfl, by decide, by decide⟩
theorem d0_196 : Fet code 196 197 (.iconst 1) 1 := ⟨by decide +kernel, rfl⟩
theorem d0_197 : Brn code 197 200 201 (.goto 4) 4 := ⟨by decide +kernel, rfl, by decide, by decide⟩
theorem d0_201 : Fet code 201 202 (.ireturn) 1 := ⟨by decide +kernel, rfl⟩
theorem d0_152 : Fet code 152 154 (.iload 9) 2 := ⟨by decide +kernel, rfl⟩
theorem d0_154 : Fet code 154 157 (.invokestatic 16) 3 := ⟨by decide +kernel, rfl⟩
theorem d0_157 : Brn code 157 160 180 (.ifCond .eq 23) 23 := ⟨by decide +kernel, rfl, by decide, by decide⟩
theorem d0_160 : Fet code 160 162 (.iload 8) 2 := ⟨by decide +kernel, rfl⟩
theorem d0_162 : Fet code 162 164 (.bipush 48) 2 := ⟨by decide +kernel, rfl⟩
theorem d0_164 : Fet code 164 165 (.isub) 1 := ⟨by decide +kernel, rfl⟩
theorem d0_165 : Fet code 165 166 (.i2l) 1 := ⟨by decide +kernel, rfl⟩
theorem d0_166 : Fet code 166 169 (.ldc2_w 22) 3 := ⟨by decide +kernel, rfl⟩
theorem d0_169 : Fet code 169 170 (.lmul) 1 := ⟨by decide +kernel, rfl⟩
theorem d0_170 : Fet code 170 172 (.iload 9) 2 := ⟨by decide +kernel, rfl⟩
theorem d0_172 : Fet code 172 174 (.bipush 48) 2 := ⟨by decide +kernel, rfl⟩
theorem d0_174 : Fet code 174 175 (.isub) 1 := ⟨by decide +kernel, rfl⟩
theorem d0_175 : Fet code 175 176 (.i2l) 1 := ⟨by decide +kernel, rfl⟩
theorem d0_176 : Fet code 176 177 (.ladd) 1 := ⟨by decide +kernel, rfl⟩
theorem d0_177 : Brn code 177 180 183 (.goto 6) 6 := ⟨by decide +kernel, rfl, by decide, by decide⟩
theorem d0_202 : Fet code 202 204 (.iload 7) 2 := ⟨by decide +kernel, rfl⟩
theorem d0_204 : Fet code 204 205 (.iconst 4) 1 := ⟨by decide +kernel, rfl⟩
theorem d0_205 : Brn code 205 208 305 (.if_icmp .ne 100) 100 := ⟨by decide +kernel, rfl, by decide, by decide⟩
theorem d0_208 : Fet code 208 209 (.iconst 3) 1 := ⟨by decide +kernel, rfl⟩
theorem d0_209 : Fet code 209 211 (.newarray .byte) 2 := ⟨by decide +kernel, rfl⟩
theorem d0_211 : Fet code 211 212 (.dup) 1 := ⟨by decide +kernel, rfl⟩
theorem d0_212 : Fet code 212 213 (.iconst 0) 1 := ⟨by decide +kernel, rfl⟩
theorem d0_213 : Fet code 213 215 (.iload 8) 2 := ⟨by decide +kernel, rfl⟩
theorem d0_215 : Fet code 215 216 (.bastore) 1 := ⟨by decide +kernel, rfl⟩
theorem d0_216 : Fet code 216 217 (.dup) 1 := ⟨by decide +kernel, rfl⟩
theorem d0_217 : Fet code 217 218 (.iconst 1) 1 := ⟨by decide +kernel, rfl⟩
theorem d0_218 : Fet code 218 220 (.iload 9) 2 := ⟨by decide +kernel, rfl⟩
theorem d0_220 : Fet code 220 221 (.bastore) 1 := ⟨by decide +kernel, rfl⟩
theorem d0_221 : Fet code 221 222 (.dup) 1 := ⟨by decide +kernel, rfl⟩
theorem d0_222 : Fet code 222 223 (.iconst 2) 1 := ⟨by decide +kernel, rfl⟩
theorem d0_223 : Fet code 223 225 (.iload 10) 2 := ⟨by decide +kernel, rfl⟩
theorem d0_225 : Fet code 225 226 (.bastore) 1 := ⟨by decide +kernel, rfl⟩
theorem d0_226 : Fet code 226 228 (.astore 11) 2 := ⟨by decide +kernel, rfl⟩
theorem d0_228 : Fet code 228 230 (.iload 8) 2 := ⟨by decide +kernel, rfl⟩
theorem d0_230 : Fet code 230 233 (.invokestatic 16) 3 := ⟨by decide +kernel, rfl⟩
theorem d0_233 : Brn code 233 236 283 (.ifCond .eq 50) 50 := ⟨by decide +kernel, rfl, by decide, by decide⟩
theorem d0_283 : Fet code 283 286 (.ldc2_w 14) 3 := ⟨by decide +kernel, rfl⟩
theorem d0_286 : Fet code 286 288 (.lstore 12) 2 := ⟨by decide +kernel, rfl⟩
theorem d0_288 : Fet code 288 290 (.aload 11) 2 := ⟨by decide +kernel, rfl⟩
theorem d0_290 : Fet code 290 293 (.invokestatic 8) 3 := ⟨by decide +kernel, rfl⟩
theorem d0_293 : Fet code 293 295 (.lload 12) 2 := ⟨by decide +kernel, rfl⟩
theorem d0_295 : Fet code 295 296 (.lcmp) 1 := ⟨by decide +kernel, rfl⟩
theorem d0_296 : Brn code 296 299 303 (.ifCond .ne 7) 7 := ⟨by decide +kernel, rfl, by decide, by decide⟩
theorem d0_299 : Fet code 299 300 (.iconst 1) 1 := ⟨by decide +kernel, rfl⟩
theorem d0_300 : Brn code 300 303 304 (.goto 4) 4 := ⟨by decide +kernel, rfl, by decide, by decide⟩
theorem d0_304 : Fet code 304 305 (.ireturn) 1 := ⟨by decide +kernel, rfl⟩
theorem d0_236 : Fet code 236 238 (.iload 9) 2 := ⟨by decide +kernel, rfl⟩
theorem d0_238 : Fet code 238 241 (.invokestatic 16) 3 := ⟨by decide +kernel, rfl⟩
theorem d0_241 : Brn code 241 244 283 (.ifCond .eq 42) 42 := ⟨by decide +kernel, rfl, by decide, by decide⟩
theorem d0_244 : Fet code 244 246 (.iload 10) 2 := ⟨by decide +kernel, rfl⟩
theorem d0_246 : Fet code 246 249 (.invokestatic 16) 3 := ⟨by decide +kernel, rfl⟩
theorem d0_249 : Brn code 249 252 283 (.ifCond .eq 34) 34 := ⟨by decide +kernel, rfl, by decide, by decide⟩
theorem d0_252 : Fet code 252 254 (.iload 8) 2 := ⟨by decide +kernel, rfl⟩
theorem d0_254 : Fet code 254 256 (.bipush 48) 2 := ⟨by decide +kernel, rfl⟩
theorem d0_256 : Fet code 256 257 (.isub) 1 := ⟨by decide +kernel, rfl⟩
theorem d0_257 : Fet code 257 258 (.i2l) 1 := ⟨by decide +kernel, rfl⟩
theorem d0_258 : Fet code 258 261 (.ldc2_w 24) 3 := ⟨by decide +kernel, rfl⟩
theorem d0_261 : Fet code 261 262 (.lmul) 1 := ⟨by decide +kernel, rfl⟩
theorem d0_262 : Fet code 262 264 (.iload 9) 2 := ⟨by decide +kernel, rfl⟩
theorem d0_264 : Fet code 264 266 (.bipush 48) 2 := ⟨by decide +kernel, rfl⟩
theorem d0_266 : Fet code 266 267 (.isub) 1 := ⟨by decide +kernel, rfl⟩
theorem d0_267 : Fet code 267 268 (.i2l) 1 := ⟨by decide +kernel, rfl⟩
theorem d0_268 : Fet code 268 271 (.ldc2_w 22) 3 := ⟨by decide +kernel, rfl⟩
theorem d0_271 : Fet code 271 272 (.lmul) 1 := ⟨by decide +kernel, rfl⟩
theorem d0_272 : Fet code 272 273 (.ladd) 1 := ⟨by decide +kernel, rfl⟩
theorem d0_273 : Fet code 273 275 (.iload 10) 2 := ⟨by decide +kernel, rfl⟩
theorem d0_275 : Fet code 275 277 (.bipush 48) 2 := ⟨by decide +kernel, rfl⟩
theorem d0_277 : Fet code 277 278 (.isub) 1 := ⟨by decide +kernel, rfl⟩
theorem d0_278 : Fet code 278 279 (.i2l) 1 := ⟨by decide +kernel, rfl⟩
theorem d0_279 : Fet code 279 280 (.ladd) 1 := ⟨by decide +kernel, rfl⟩
theorem d0_280 : Brn code 280 283 286 (.goto 6) 6 := ⟨by decide +kernel, rfl, by decide, by decide⟩
theorem d0_305 : Fet code 305 307 (.bipush 18) 2 := ⟨by decide +kernel, rfl⟩
theorem d0_307 : Fet code 307 309 (.newarray .long) 2 := ⟨by decide +kernel, rfl⟩
theorem d0_309 : Fet code 309 310 (.dup) 1 := ⟨by decide +kernel, rfl⟩
theorem d0_310 : Fet code 310 311 (.iconst 0) 1 := ⟨by decide +kernel, rfl⟩
theorem d0_311 : Fet code 311 312 (.lconst 1) 1 := ⟨by decide +kernel, rfl⟩
theorem d0_312 : Fet code 312 313 (.lastore) 1 := ⟨by decide +kernel, rfl⟩
theorem d0_313 : Fet code 313 314 (.dup) 1 := ⟨by decide +kernel, rfl⟩
theorem d0_314 : Fet code 314 315 (.iconst 1) 1 := ⟨by decide +kernel, rfl⟩
theorem d0_315 : Fet code 315 318 (.ldc2_w 22) 3 := ⟨by decide +kernel, rfl⟩
theorem d0_318 : Fet code 318 319 (.lastore) 1 := ⟨by decide +kernel, rfl⟩
theorem d0_319 : Fet code 319 320 (.dup) 1 := ⟨by decide +kernel, rfl⟩
theorem d0_320 : Fet code 320 321 (.iconst 2) 1 := ⟨by decide +kernel, rfl⟩
theorem d0_321 : Fet code 321 324 (.ldc2_w 24) 3 := ⟨by decide +kernel, rfl⟩
theorem d0_324 : Fet code 324 325 (.lastore) 1 := ⟨by decide +kernel, rfl⟩
theorem d0_325 : Fet code 325 326 (.dup) 1 := ⟨by decide +kernel, rfl⟩
theorem d0_326 : Fet code 326 327 (.iconst 3) 1 := ⟨by decide +kernel, rfl⟩
theorem d0_327 : Fet code 327 330 (.ldc2_w 26) 3 := ⟨by decide +kernel, rfl⟩
theorem d0_330 : Fet code 330 331 (.lastore) 1 := ⟨by decide +kernel, rfl⟩
theorem d0_331 : Fet code 331 332 (.dup) 1 := ⟨by decide +kernel, rfl⟩
theorem d0_332 : Fet code 332 333 (.iconst 4) 1 := ⟨by decide +kernel, rfl⟩
theorem d0_333 : Fet code 333 336 (.ldc2_w 28) 3 := ⟨by decide +kernel, rfl⟩
theorem d0_336 : Fet code 336 337 (.lastore) 1 := ⟨by decide +kernel, rfl⟩
theorem d0_337 : Fet code 337 338 (.dup) 1 := ⟨by decide +kernel, rfl⟩
theorem d0_338 : Fet code 338 339 (.iconst 5) 1 := ⟨by decide +kernel, rfl⟩
theorem d0_339 : Fet code 339 342 (.ldc2_w 30) 3 := ⟨by decide +kernel, rfl⟩
theorem d0_342 : Fet code 342 343 (.lastore) 1 := ⟨by decide +kernel, rfl⟩
theorem d0_343 : Fet code 343 344 (.dup) 1 := ⟨by decide +kernel, rfl⟩
theorem d0_344 : Fet code 344 346 (.bipush 6) 2 := ⟨by decide +kernel, rfl⟩
theorem d0_346 : Fet code 346 349 (.ldc2_w 32) 3 := ⟨by decide +kernel, rfl⟩
theorem d0_349 : Fet code 349 350 (.lastore) 1 := ⟨by decide +kernel, rfl⟩
theorem d0_350 : Fet code 350 351 (.dup) 1 := ⟨by decide +kernel, rfl⟩
theorem d0_351 : Fet code 351 353 (.bipush 7) 2 := ⟨by decide +kernel, rfl⟩
theorem d0_353 : Fet code 353 356 (.ldc2_w 34) 3 := ⟨by decide +kernel, rfl⟩
theorem d0_356 : Fet code 356 357 (.lastore) 1 := ⟨by decide +kernel, rfl⟩
theorem d0_357 : Fet code 357 358 (.dup) 1 := ⟨by decide +kernel, rfl⟩
theorem d0_358 : Fet code 358 360 (.bipush 8) 2 := ⟨by decide +kernel, rfl⟩
theorem d0_360 : Fet code 360 363 (.ldc2_w 36) 3 := ⟨by decide +kernel, rfl⟩
theorem d0_363 : Fet code 363 364 (.lastore) 1 := ⟨by decide +kernel, rfl⟩
theorem d0_364 : Fet code 364 365 (.dup) 1 := ⟨by decide +kernel, rfl⟩
theorem d0_365 : Fet code 365 367 (.bipush 9) 2 := ⟨by decide +kernel, rfl⟩
theorem d0_367 : Fet code 367 370 (.ldc2_w 38) 3 := ⟨by decide +kernel, rfl⟩
theorem d0_370 : Fet code 370 371 (.lastore) 1 := ⟨by decide +kernel, rfl⟩
theorem d0_371 : Fet code 371 372 (.dup) 1 := ⟨by decide +kernel, rfl⟩
theorem d0_372 : Fet code 372 374 (.bipush 10) 2 := ⟨by decide +kernel, rfl⟩
theorem d0_374 : Fet code 374 377 (.ldc2_w 40) 3 := ⟨by decide +kernel, rfl⟩
theorem d0_377 : Fet code 377 378 (.lastore) 1 := ⟨by decide +kernel, rfl⟩
theorem d0_378 : Fet code 378 379 (.dup) 1 := ⟨by decide +kernel, rfl⟩
theorem d0_379 : Fet code 379 381 (.bipush 11) 2 := ⟨by decide +kernel, rfl⟩
theorem d0_381 : Fet code 381 384 (.ldc2_w 42) 3 := ⟨by decide +kernel, rfl⟩
theorem d0_384 : Fet code 384 385 (.lastore) 1 := ⟨by decide +kernel, rfl⟩
theorem d0_385 : Fet code 385 386 (.dup) 1 := ⟨by decide +kernel, rfl⟩
theorem d0_386 : Fet code 386 388 (.bipush 12) 2 := ⟨by decide +kernel, rfl⟩
theorem d0_388 : Fet code 388 391 (.ldc2_w 44) 3 := ⟨by decide +kernel, rfl⟩
theorem d0_391 : Fet code 391 392 (.lastore) 1 := ⟨by decide +kernel, rfl⟩
theorem d0_392 : Fet code 392 393 (.dup) 1 := ⟨by decide +kernel, rfl⟩
theorem d0_393 : Fet code 393 395 (.bipush 13) 2 := ⟨by decide +kernel, rfl⟩
theorem d0_395 : Fet code 395 398 (.ldc2_w 46) 3 := ⟨by decide +kernel, rfl⟩
theorem d0_398 : Fet code 398 399 (.lastore) 1 := ⟨by decide +kernel, rfl⟩
theorem d0_399 : Fet code 399 400 (.dup) 1 := ⟨by decide +kernel, rfl⟩
theorem d0_400 : Fet code 400 402 (.bipush 14) 2 := ⟨by decide +kernel, rfl⟩
theorem d0_402 : Fet code 402 405 (.ldc2_w 48) 3 := ⟨by decide +kernel, rfl⟩
theorem d0_405 : Fet code 405 406 (.lastore) 1 := ⟨by decide +kernel, rfl⟩
theorem d0_406 : Fet code 406 407 (.dup) 1 := ⟨by decide +kernel, rfl⟩
theorem d0_407 : Fet code 407 409 (.bipush 15) 2 := ⟨by decide +kernel, rfl⟩
theorem d0_409 : Fet code 409 412 (.ldc2_w 50) 3 := ⟨by decide +kernel, rfl⟩
theorem d0_412 : Fet code 412 413 (.lastore) 1 := ⟨by decide +kernel, rfl⟩
theorem d0_413 : Fet code 413 414 (.dup) 1 := ⟨by decide +kernel, rfl⟩
theorem d0_414 : Fet code 414 416 (.bipush 16) 2 := ⟨by decide +kernel, rfl⟩
theorem d0_416 : Fet code 416 419 (.ldc2_w 52) 3 := ⟨by decide +kernel, rfl⟩
theorem d0_419 : Fet code 419 420 (.lastore) 1 := ⟨by decide +kernel, rfl⟩
theorem d0_420 : Fet code 420 421 (.dup) 1 := ⟨by decide +kernel, rfl⟩
theorem d0_421 : Fet code 421 423 (.bipush 17) 2 := ⟨by decide +kernel, rfl⟩
theorem d0_423 : Fet code 423 426 (.ldc2_w 54) 3 := ⟨by decide +kernel, rfl⟩
theorem d0_426 : Fet code 426 427 (.lastore) 1 := ⟨by decide +kernel, rfl⟩
theorem d0_427 : Fet code 427 429 (.astore 11) 2 := ⟨by decide +kernel, rfl⟩
theorem d0_429 : Fet code 429 431 (.lload 4) 2 := ⟨by decide +kernel, rfl⟩
theorem d0_431 : Fet code 431 434 (.ldc2_w 58) 3 := ⟨by decide +kernel, rfl⟩
theorem d0_434 : Fet code 434 435 (.land) 1 := ⟨by decide +kernel, rfl⟩
theorem d0_435 : Fet code 435 438 (.ldc2_w 60) 3 := ⟨by decide +kernel, rfl⟩
theorem d0_438 : Fet code 438 439 (.lrem) 1 := ⟨by decide +kernel, rfl⟩
theorem d0_439 : Fet code 439 441 (.lstore 12) 2 := ⟨by decide +kernel, rfl⟩
theorem d0_441 : Fet code 441 443 (.iload 7) 2 := ⟨by decide +kernel, rfl⟩
theorem d0_443 : Fet code 443 444 (.iconst 5) 1 := ⟨by decide +kernel, rfl⟩
theorem d0_444 : Brn code 444 447 551 (.if_icmp .ne 107) 107 := ⟨by decide +kernel, rfl, by decide, by decide⟩
theorem d0_447 : Fet code 447 449 (.bipush 18) 2 := ⟨by decide +kernel, rfl⟩
theorem d0_449 : Fet code 449 451 (.newarray .byte) 2 := ⟨by decide +kernel, rfl⟩
theorem d0_451 : Fet code 451 453 (.astore 14) 2 := ⟨by decide +kernel, rfl⟩
theorem d0_453 : Fet code 453 455 (.aload 14) 2 := ⟨by decide +kernel, rfl⟩
theorem d0_455 : Fet code 455 457 (.lload 12) 2 := ⟨by decide +kernel, rfl⟩
theorem d0_457 : Fet code 457 459 (.aload 11) 2 := ⟨by decide +kernel, rfl⟩
theorem d0_459 : Fet code 459 462 (.invokestatic 62) 3 := ⟨by decide +kernel, rfl⟩
theorem pd__ArBJArJ_V : parseMethodDescriptor "([BJ[J)V" = some ⟨[(.array .byte), .long, (.array .long)], none⟩ := by decide +kernel
theorem d0_462 : Fet code 462 464 (.iload 6) 2 := ⟨by decide +kernel, rfl⟩
theorem d0_464 : Fet code 464 466 (.ldc 7) 2 := ⟨by decide +kernel, rfl⟩
theorem d0_466 : Fet code 466 467 (.iand) 1 := ⟨by decide +kernel, rfl⟩
theorem d0_467 : Fet code 467 469 (.bipush 18) 2 := ⟨by decide +kernel, rfl⟩
theorem d0_469 : Fet code 469 470 (.irem) 1 := ⟨by decide +kernel, rfl⟩
theorem d0_470 : Fet code 470 472 (.istore 15) 2 := ⟨by decide +kernel, rfl⟩
theorem d0_472 : Fet code 472 474 (.aload 14) 2 := ⟨by decide +kernel, rfl⟩
theorem d0_474 : Fet code 474 476 (.iload 15) 2 := ⟨by decide +kernel, rfl⟩
theorem d0_476 : Fet code 476 478 (.iload 8) 2 := ⟨by decide +kernel, rfl⟩
theorem d0_478 : Fet code 478 479 (.bastore) 1 := ⟨by decide +kernel, rfl⟩
theorem d0_479 : Fet code 479 481 (.aload 11) 2 := ⟨by decide +kernel, rfl⟩
theorem d0_481 : Fet code 481 483 (.bipush 17) 2 := ⟨by decide +kernel, rfl⟩
theorem d0_483 : Fet code 483 485 (.iload 15) 2 := ⟨by decide +kernel, rfl⟩
theorem d0_485 : Fet code 485 486 (.isub) 1 := ⟨by decide +kernel, rfl⟩
theorem d0_486 : Fet code 486 487 (.laload) 1 := ⟨by decide +kernel, rfl⟩
theorem d0_487 : Fet code 487 489 (.lstore 16) 2 := ⟨by decide +kernel, rfl⟩
theorem d0_489 : Fet code 489 491 (.lload 12) 2 := ⟨by decide +kernel, rfl⟩
theorem d0_491 : Fet code 491 493 (.lload 16) 2 := ⟨by decide +kernel, rfl⟩
theorem d0_493 : Fet code 493 494 (.ldiv) 1 := ⟨by decide +kernel, rfl⟩
theorem d0_494 : Fet code 494 497 (.ldc2_w 22) 3 := ⟨by decide +kernel, rfl⟩
theorem d0_497 : Fet code 497 498 (.lrem) 1 := ⟨by decide +kernel, rfl⟩
theorem d0_498 : Fet code 498 500 (.lstore 18) 2 := ⟨by decide +kernel, rfl⟩
theorem d0_500 : Fet code 500 502 (.iload 8) 2 := ⟨by decide +kernel, rfl⟩
theorem d0_502 : Fet code 502 505 (.invokestatic 16) 3 := ⟨by decide +kernel, rfl⟩
theorem d0_505 : Brn code 505 508 529 (.ifCond .eq 24) 24 := ⟨by decide +kernel, rfl, by decide, by decide⟩
theorem d0_529 : Fet code 529 532 (.ldc2_w 14) 3 := ⟨by decide +kernel, rfl⟩
theorem d0_532 : Fet code 532 534 (.lstore 20) 2 := ⟨by decide +kernel, rfl⟩
theorem d0_534 : Fet code 534 536 (.aload 14) 2 := ⟨by decide +kernel, rfl⟩
theorem d0_536 : Fet code 536 539 (.invokestatic 8) 3 := ⟨by decide +kernel, rfl⟩
theorem d0_539 : Fet code 539 541 (.lload 20) 2 := ⟨by decide +kernel, rfl⟩
theorem d0_541 : Fet code 541 542 (.lcmp) 1 := ⟨by decide +kernel, rfl⟩
theorem d0_542 : Brn code 542 545 549 (.ifCond .ne 7) 7 := ⟨by decide +kernel, rfl, by decide, by decide⟩
theorem d0_545 : Fet code 545 546 (.iconst 1) 1 := ⟨by decide +kernel, rfl⟩
theorem d0_546 : Brn code 546 549 550 (.goto 4) 4 := ⟨by decide +kernel, rfl, by decide, by decide⟩
theorem d0_550 : Fet code 550 551 (.ireturn) 1 := ⟨by decide +kernel, rfl⟩
theorem d0_508 : Fet code 508 510 (.lload 12) 2 := ⟨by decide +kernel, rfl⟩
theorem d0_510 : Fet code 510 512 (.lload 18) 2 := ⟨by decide +kernel, rfl⟩
theorem d0_512 : Fet code 512 514 (.lload 16) 2 := ⟨by decide +kernel, rfl⟩
theorem d0_514 : Fet code 514 515 (.lmul) 1 := ⟨by decide +kernel, rfl⟩
theorem d0_515 : Fet code 515 516 (.lsub) 1 := ⟨by decide +kernel, rfl⟩
theorem d0_516 : Fet code 516 518 (.iload 8) 2 := ⟨by decide +kernel, rfl⟩
theorem d0_518 : Fet code 518 520 (.bipush 48) 2 := ⟨by decide +kernel, rfl⟩
theorem d0_520 : Fet code 520 521 (.isub) 1 := ⟨by decide +kernel, rfl⟩
theorem d0_521 : Fet code 521 522 (.i2l) 1 := ⟨by decide +kernel, rfl⟩
theorem d0_522 : Fet code 522 524 (.lload 16) 2 := ⟨by decide +kernel, rfl⟩
theorem d0_524 : Fet code 524 525 (.lmul) 1 := ⟨by decide +kernel, rfl⟩
theorem d0_525 : Fet code 525 526 (.ladd) 1 := ⟨by decide +kernel, rfl⟩
theorem d0_526 : Brn code 526 529 532 (.goto 6) 6 := ⟨by decide +kernel, rfl, by decide, by decide⟩
theorem d0_551 : Fet code 551 553 (.bipush 19) 2 := ⟨by decide +kernel, rfl⟩
theorem d0_553 : Fet code 553 555 (.newarray .byte) 2 := ⟨by decide +kernel, rfl⟩
theorem d0_555 : Fet code 555 557 (.astore 14) 2 := ⟨by decide +kernel, rfl⟩
theorem d0_557 : Fet code 557 559 (.aload 14) 2 := ⟨by decide +kernel, rfl⟩
theorem d0_559 : Fet code 559 561 (.lload 12) 2 := ⟨by decide +kernel, rfl⟩
theorem d0_561 : Fet code 561 563 (.aload 11) 2 := ⟨by decide +kernel, rfl⟩
theorem d0_563 : Fet code 563 566 (.invokestatic 62) 3 := ⟨by decide +kernel, rfl⟩
theorem d0_566 : Fet code 566 568 (.aload 14) 2 := ⟨by decide +kernel, rfl⟩
theorem d0_568 : Fet code 568 570 (.bipush 18) 2 := ⟨by decide +kernel, rfl⟩
theorem d0_570 : Fet code 570 572 (.bipush 48) 2 := ⟨by decide +kernel, rfl⟩
theorem d0_572 : Fet code 572 573 (.iload_n 1) 1 := ⟨by decide +kernel, rfl⟩
theorem d0_573 : Fet code 573 575 (.ldc 7) 2 := ⟨by decide +kernel, rfl⟩
theorem d0_575 : Fet code 575 576 (.iand) 1 := ⟨by decide +kernel, rfl⟩
theorem d0_576 : Fet code 576 578 (.bipush 10) 2 := ⟨by decide +kernel, rfl⟩
theorem d0_578 : Fet code 578 579 (.irem) 1 := ⟨by decide +kernel, rfl⟩
theorem d0_579 : Fet code 579 580 (.iadd) 1 := ⟨by decide +kernel, rfl⟩
theorem d0_580 : Fet code 580 581 (.i2b) 1 := ⟨by decide +kernel, rfl⟩
theorem d0_581 : Fet code 581 582 (.bastore) 1 := ⟨by decide +kernel, rfl⟩
theorem d0_582 : Fet code 582 584 (.aload 14) 2 := ⟨by decide +kernel, rfl⟩
theorem d0_584 : Fet code 584 587 (.invokestatic 8) 3 := ⟨by decide +kernel, rfl⟩
theorem d0_587 : Fet code 587 590 (.ldc2_w 14) 3 := ⟨by decide +kernel, rfl⟩
theorem d0_590 : Fet code 590 591 (.lcmp) 1 := ⟨by decide +kernel, rfl⟩
theorem d0_591 : Brn code 591 594 598 (.ifCond .ne 7) 7 := ⟨by decide +kernel, rfl, by decide, by decide⟩
theorem d0_594 : Fet code 594 595 (.iconst 1) 1 := ⟨by decide +kernel, rfl⟩
theorem d0_595 : Brn code 595 598 599 (.goto 4) 4 := ⟨by decide +kernel, rfl, by decide, by decide⟩
theorem d0_599 : Fet code 599 600 (.ireturn) 1 := ⟨by decide +kernel, rfl⟩
set_option maxRecDepth 65536 in
set_option maxHeartbeats 4000000 in
theorem rm0 (l : Launch) (Z : State) (a0 : Array Value) (hw : ∀ d ∈ tables_1, d.before a0 Z = true) (n0 : Nat) (mode a b c : Int32) (xx : Int64) (pos : Int32) (h : Heap) (Z0 : n0 ≤ h.size) :
    ConV l Z n0 x code maxLocals ret tables_1 room_1 #[(.int mode), (.int a), (.int b), (.int c), (.long xx), (.int pos)] h (fun w h' => w = .int 1) := by
  refine con_of_wp (Ls := #[.val (.int mode), .val (.int a), .val (.int b), .val (.int c), .val (.long xx), .second, .val (.int pos), .unset, .unset, .unset, .unset, .unset, .unset, .unset, .unset, .unset, .unset, .unset, .unset, .unset, .unset, .unset]) (plainFor_of_name pn_com_example_holdfast_holdfast_WorkloadNumberPinLaw) (fun m => by first | (simp [entryFrame, mkF, argsToLocals, Value.category, maxLocals]; done) | rfl) ?_
  intro K ok
  replace ok : Ok Z K code "com/example/holdfast/holdfast/WorkloadNumberPinLaw" "law" 22 (some .boolean) := ok
  show Wp l room_1 n0 K (fun v h' => ∃ w, v = some w ∧ w = .int 1) h 0 0 0 #[.val (.int mode), .val (.int a), .val (.int b), .val (.int c), .val (.long xx), .second, .val (.int pos), .unset, .unset, .unset, .unset, .unset, .unset, .unset, .unset, .unset, .unset, .unset, .unset, .unset, .unset, .unset] []
  refine w_iloadN ok d0_0 rfl ?_
  refine w_ldc ok (hw _ (List.mem_of_getElem? (i := 0) rfl)) d0_1 ?_
  refine w_iand ok d0_3 ?_
  refine w_bipush ok (z := 7) d0_4 rfl ?_
  refine w_irem ok d0_6 (by decide) ?_
  refine w_istore ok (Ls' := #[.val (.int mode), .val (.int a), .val (.int b), .val (.int c), .val (.long xx), .second, .val (.int pos), .val (.int ((mode &&& (2147483647 : Int32)) % (7 : Int32))), .unset, .unset, .unset, .unset, .unset, .unset, .unset, .unset, .unset, .unset, .unset, .unset, .unset, .unset]) d0_7 rfl ?_
  obtain ⟨m, hm, em⟩ := own_mod mode (m := 7) (by decide) (by decide)
  replace em : (mode &&& (2147483647 : Int32)) % (7 : Int32) = Int32.ofNat m := em
  rw [em]
  have hm' : m = 0 ∨ m = 1 ∨ m = 2 ∨ m = 3 ∨ m = 4 ∨ m = 5 ∨ m = 6 := by omega
  rcases hm' with rfl | rfl | rfl | rfl | rfl | rfl | rfl
  · show Wp l room_1 n0 K (fun v h' => ∃ w, v = some w ∧ w = .int 1) h 0 0 9 #[.val (.int mode), .val (.int a), .val (.int b), .val (.int c), .val (.long xx), .second, .val (.int pos), .val (.int (0 : Int32)), .unset, .unset, .unset, .unset, .unset, .unset, .unset, .unset, .unset, .unset, .unset, .unset, .unset, .unset] []
    refine w_iload ok d0_9 rfl ?_
    refine w_if_ne ok d0_11 (fun q => absurd (by decide) q) (fun _ => ?_)
    refine w_aconstNull ok d0_14 ?_
    refine w_callSV ok (argsL := [.null]) (rest := []) (hw _ (List.mem_of_getElem? (i := 1) rfl)) (hw _ (List.mem_of_getElem? (i := 2) rfl)) (hw _ (List.mem_of_getElem? (i := 3) rfl)) (hw _ (List.mem_of_getElem? (i := 4) rfl)) (by decide) (rmNull l Z a0 hw n0 h) d0_15 (lenOf pd__ArB_J rfl) rfl rfl (Nat.le_of_ble_eq_true rfl) (Nat.le_of_ble_eq_true rfl) (k' := 0) (n' := 0) rfl rfl (Nat.le_of_ble_eq_true rfl) (Nat.le_of_ble_eq_true rfl) ?_
    rintro _ _ ⟨rfl, rfl⟩
    refine w_ldc2 ok (hw _ (List.mem_of_getElem? (i := 6) rfl)) d0_18 ?_
    refine w_lc_ne ok d0_21 d0_22 (fun q9 => ?_) (fun q9 => ?_)
    · exact absurd (rfl) q9
    · refine w_iconst ok (z := 1) d0_25 rfl ?_
      refine w_goto ok d0_26 ?_
      refine w_ireturnN ok (by simp) d0_30 (Nat.le_of_ble_eq_true rfl) (Nat.le_of_ble_eq_true rfl) ?_
      exact ⟨_, rfl, rfl⟩
  · show Wp l room_1 n0 K (fun v h' => ∃ w, v = some w ∧ w = .int 1) h 0 0 9 #[.val (.int mode), .val (.int a), .val (.int b), .val (.int c), .val (.long xx), .second, .val (.int pos), .val (.int (1 : Int32)), .unset, .unset, .unset, .unset, .unset, .unset, .unset, .unset, .unset, .unset, .unset, .unset, .unset, .unset] []
    refine w_iload ok d0_9 rfl ?_
    refine w_if_ne ok d0_11 (fun _ => ?_) (fun q => absurd q (by decide))
    refine w_iload ok d0_31 rfl ?_
    refine w_iconst ok (z := 1) d0_33 rfl ?_
    refine w_ic_ne ok d0_34 (fun q => absurd (by decide) q) (fun _ => ?_)
    refine w_iconst ok (z := 0) d0_37 rfl ?_
    refine w_newarray ok (cap := 0) (hw _ (List.mem_of_getElem? (i := 7) rfl)) d0_38 (by decide) (by decide) (by decide) (k' := 1) (n' := 0) rfl rfl (Nat.le_of_ble_eq_true rfl) (Nat.le_of_ble_eq_true rfl) (fun h1 b1 cA1 g1 E1 A1 => ?_)
    have gn_b1 : n0 ≤ b1 := Nat.le_trans Z0 (Nat.le_of_eq g1.symm)
    have Z0 := Nat.le_trans Z0 E1.1
    have V_b1 : Ary Z h1 b1 .byte [] := ary_new A1
    refine w_callSV ok (argsL := [(.ref b1)]) (rest := []) (hw _ (List.mem_of_getElem? (i := 1) rfl)) (hw _ (List.mem_of_getElem? (i := 2) rfl)) (hw _ (List.mem_of_getElem? (i := 3) rfl)) (hw _ (List.mem_of_getElem? (i := 4) rfl)) (by decide) (rmNum l Z a0 hw n0 b1 [] h1 V_b1 (by decide)) d0_40 (lenOf pd__ArB_J rfl) rfl rfl (Nat.le_of_ble_eq_true rfl) (Nat.le_of_ble_eq_true rfl) (k' := 1) (n' := 0) rfl rfl (Nat.le_of_ble_eq_true rfl) (Nat.le_of_ble_eq_true rfl) ?_
    rintro _ _ ⟨rfl, rfl⟩
    refine w_ldc2 ok (hw _ (List.mem_of_getElem? (i := 6) rfl)) d0_43 ?_
    refine w_lc_ne ok d0_46 d0_47 (fun q9 => ?_) (fun q9 => ?_)
    · exact absurd (by decide) q9
    · refine w_iconst ok (z := 1) d0_50 rfl ?_
      refine w_goto ok d0_51 ?_
      refine w_ireturnN ok (by simp) d0_55 (Nat.le_of_ble_eq_true rfl) (Nat.le_of_ble_eq_true rfl) ?_
      exact ⟨_, rfl, rfl⟩
  · show Wp l room_1 n0 K (fun v h' => ∃ w, v = some w ∧ w = .int 1) h 0 0 9 #[.val (.int mode), .val (.int a), .val (.int b), .val (.int c), .val (.long xx), .second, .val (.int pos), .val (.int (2 : Int32)), .unset, .unset, .unset, .unset, .unset, .unset, .unset, .unset, .unset, .unset, .unset, .unset, .unset, .unset] []
    refine w_iload ok d0_9 rfl ?_
    refine w_if_ne ok d0_11 (fun _ => ?_) (fun q => absurd q (by decide))
    refine w_iload ok d0_31 rfl ?_
    refine w_iconst ok (z := 1) d0_33 rfl ?_
    refine w_ic_ne ok d0_34 (fun _ => ?_) (fun q => absurd q (by decide))
    refine w_iloadN ok d0_56 rfl ?_
    refine w_i2b ok d0_57 ?_
    refine w_istore ok (Ls' := #[.val (.int mode), .val (.int a), .val (.int b), .val (.int c), .val (.long xx), .second, .val (.int pos), .val (.int (2 : Int32)), .val (.int (a.toInt8.toInt32)), .unset, .unset, .unset, .unset, .unset, .unset, .unset, .unset, .unset, .unset, .unset, .unset, .unset]) d0_58 rfl ?_
    refine w_iloadN ok d0_60 rfl ?_
    refine w_i2b ok d0_61 ?_
    refine w_istore ok (Ls' := #[.val (.int mode), .val (.int a), .val (.int b), .val (.int c), .val (.long xx), .second, .val (.int pos), .val (.int (2 : Int32)), .val (.int (a.toInt8.toInt32)), .val (.int (b.toInt8.toInt32)), .unset, .unset, .unset, .unset, .unset, .unset, .unset, .unset, .unset, .unset, .unset, .unset]) d0_62 rfl ?_
    refine w_iloadN ok d0_64 rfl ?_
    refine w_i2b ok d0_65 ?_
    refine w_istore ok (Ls' := #[.val (.int mode), .val (.int a), .val (.int b), .val (.int c), .val (.long xx), .second, .val (.int pos), .val (.int (2 : Int32)), .val (.int (a.toInt8.toInt32)), .val (.int (b.toInt8.toInt32)), .val (.int (c.toInt8.toInt32)), .unset, .unset, .unset, .unset, .unset, .unset, .unset, .unset, .unset, .unset, .unset]) d0_66 rfl ?_
    obtain ⟨ba, hba, na⟩ : ∃ b, b = a.toInt8.toInt32 ∧ nar .byte b = b := ⟨_, rfl, own_byte2 a⟩
    obtain ⟨bb, hbb, nb⟩ : ∃ z, z = b.toInt8.toInt32 ∧ nar .byte z = z := ⟨_, rfl, own_byte2 b⟩
    obtain ⟨bc, hbc, nc⟩ : ∃ z, z = c.toInt8.toInt32 ∧ nar .byte z = z := ⟨_, rfl, own_byte2 c⟩
    rw [← hba, ← hbb, ← hbc]
    show Wp l room_1 n0 K (fun v h' => ∃ w, v = some w ∧ w = .int 1) h 0 0 68 #[.val (.int mode), .val (.int a), .val (.int b), .val (.int c), .val (.long xx), .second, .val (.int pos), .val (.int (2 : Int32)), .val (.int ba), .val (.int bb), .val (.int bc), .unset, .unset, .unset, .unset, .unset, .unset, .unset, .unset, .unset, .unset, .unset] []
    refine w_iload ok d0_68 rfl ?_
    refine w_iconst ok (z := 2) d0_70 rfl ?_
    refine w_ic_ne ok d0_71 (fun q => absurd (by decide) q) (fun _ => ?_)
    refine w_iconst ok (z := 1) d0_74 rfl ?_
    refine w_newarray ok (cap := 1) (hw _ (List.mem_of_getElem? (i := 7) rfl)) d0_75 (by decide) (by decide) (by decide) (k' := 1) (n' := 1) rfl rfl (Nat.le_of_ble_eq_true rfl) (Nat.le_of_ble_eq_true rfl) (fun h2 b2 cA2 g2 E2 A2 => ?_)
    have gn_b2 : n0 ≤ b2 := Nat.le_trans Z0 (Nat.le_of_eq g2.symm)
    have Z0 := Nat.le_trans Z0 E2.1
    have V_b2 : Ary Z h2 b2 .byte [(.int (0 : Int32))] := ary_new A2
    refine w_dup ok d0_77 rfl ?_
    refine w_iconst ok (z := 0) d0_78 rfl ?_
    refine w_iload ok d0_79 rfl ?_
    refine w_bastoreB' ok (i := 0) V_b2 (Nat.le_of_ble_eq_true rfl) (Nat.le_of_ble_eq_true rfl) gn_b2 d0_81 (fun h3 W3 V_b2 => ?_)
    have Z0 := Nat.le_trans Z0 (Keep.of_wr W3).1
    replace V_b2 : Ary Z h3 b2 .byte [(.int (nar .byte ba))] := V_b2
    refine w_astore ok (Ls' := #[.val (.int mode), .val (.int a), .val (.int b), .val (.int c), .val (.long xx), .second, .val (.int pos), .val (.int (2 : Int32)), .val (.int ba), .val (.int bb), .val (.int bc), .val (.ref b2), .unset, .unset, .unset, .unset, .unset, .unset, .unset, .unset, .unset, .unset]) d0_82 rfl rfl ?_
    refine w_iload ok d0_84 rfl ?_
    rw [na] at V_b2
    refine w_callSV ok (argsL := [(.int ba)]) (rest := []) (hw _ (List.mem_of_getElem? (i := 8) rfl)) (hw _ (List.mem_of_getElem? (i := 9) rfl)) (hw _ (List.mem_of_getElem? (i := 10) rfl)) (hw _ (List.mem_of_getElem? (i := 11) rfl)) (by decide) (rmD l Z a0 hw n0 ba h3) d0_86 (lenOf pd__B_Z rfl) rfl rfl (Nat.le_of_ble_eq_true rfl) (Nat.le_of_ble_eq_true rfl) (k' := 1) (n' := 1) rfl rfl (Nat.le_of_ble_eq_true rfl) (Nat.le_of_ble_eq_true rfl) ?_
    rintro _ _ ⟨rfl, rfl⟩
    refine w_if_eq ok d0_89 (fun r0 => ?_) (fun r0 => ?_)
    · refine w_ldc2 ok (hw _ (List.mem_of_getElem? (i := 6) rfl)) d0_101 ?_
      refine w_lstore ok (Ls' := #[.val (.int mode), .val (.int a), .val (.int b), .val (.int c), .val (.long xx), .second, .val (.int pos), .val (.int (2 : Int32)), .val (.int ba), .val (.int bb), .val (.int bc), .val (.ref b2), .val (.long (-1 : Int64)), .second, .unset, .unset, .unset, .unset, .unset, .unset, .unset, .unset]) d0_104 rfl ?_
      refine w_aload ok d0_106 rfl rfl ?_
      refine w_callSV ok (argsL := [(.ref b2)]) (rest := []) (hw _ (List.mem_of_getElem? (i := 1) rfl)) (hw _ (List.mem_of_getElem? (i := 2) rfl)) (hw _ (List.mem_of_getElem? (i := 3) rfl)) (hw _ (List.mem_of_getElem? (i := 4) rfl)) (by decide) (rmNum l Z a0 hw n0 b2 [ba] h3 V_b2 (Nat.le_of_ble_eq_true rfl)) d0_108 (lenOf pd__ArB_J rfl) rfl rfl (Nat.le_of_ble_eq_true rfl) (Nat.le_of_ble_eq_true rfl) (k' := 1) (n' := 1) rfl rfl (Nat.le_of_ble_eq_true rfl) (Nat.le_of_ble_eq_true rfl) ?_
      rintro _ _ ⟨rfl, rfl⟩
      refine w_lload ok d0_111 rfl ?_
      refine w_lc_ne ok d0_113 d0_114 (fun q9 => ?_) (fun q9 => ?_)
      · exact absurd (by simp [own_num, own_fold, r0]) q9
      · refine w_iconst ok (z := 1) d0_117 rfl ?_
        refine w_goto ok d0_118 ?_
        refine w_ireturnN ok (by simp) d0_122 (Nat.le_of_ble_eq_true rfl) (Nat.le_of_ble_eq_true rfl) ?_
        exact ⟨_, rfl, rfl⟩
    · refine w_iload ok d0_92 rfl ?_
      refine w_bipush ok (z := 48) d0_94 rfl ?_
      refine w_isub ok d0_96 ?_
      refine w_i2l ok d0_97 ?_
      refine w_goto ok d0_98 ?_
      refine w_lstore ok (Ls' := #[.val (.int mode), .val (.int a), .val (.int b), .val (.int c), .val (.long xx), .second, .val (.int pos), .val (.int (2 : Int32)), .val (.int ba), .val (.int bb), .val (.int bc), .val (.ref b2), .val (.long ((ba - (48 : Int32)).toInt64)), .second, .unset, .unset, .unset, .unset, .unset, .unset, .unset, .unset]) d0_104 rfl ?_
      refine w_aload ok d0_106 rfl rfl ?_
      refine w_callSV ok (argsL := [(.ref b2)]) (rest := []) (hw _ (List.mem_of_getElem? (i := 1) rfl)) (hw _ (List.mem_of_getElem? (i := 2) rfl)) (hw _ (List.mem_of_getElem? (i := 3) rfl)) (hw _ (List.mem_of_getElem? (i := 4) rfl)) (by decide) (rmNum l Z a0 hw n0 b2 [ba] h3 V_b2 (Nat.le_of_ble_eq_true rfl)) d0_108 (lenOf pd__ArB_J rfl) rfl rfl (Nat.le_of_ble_eq_true rfl) (Nat.le_of_ble_eq_true rfl) (k' := 1) (n' := 1) rfl rfl (Nat.le_of_ble_eq_true rfl) (Nat.le_of_ble_eq_true rfl) ?_
      rintro _ _ ⟨rfl, rfl⟩
      refine w_lload ok d0_111 rfl ?_
      refine w_lc_ne ok d0_113 d0_114 (fun q9 => ?_) (fun q9 => ?_)
      · exact absurd (by simp [own_num, own_fold, r0]) q9
      · refine w_iconst ok (z := 1) d0_117 rfl ?_
        refine w_goto ok d0_118 ?_
        refine w_ireturnN ok (by simp) d0_122 (Nat.le_of_ble_eq_true rfl) (Nat.le_of_ble_eq_true rfl) ?_
        exact ⟨_, rfl, rfl⟩
  · show Wp l room_1 n0 K (fun v h' => ∃ w, v = some w ∧ w = .int 1) h 0 0 9 #[.val (.int mode), .val (.int a), .val (.int b), .val (.int c), .val (.long xx), .second, .val (.int pos), .val (.int (3 : Int32)), .unset, .unset, .unset, .unset, .unset, .unset, .unset, .unset, .unset, .unset, .unset, .unset, .unset, .unset] []
    refine w_iload ok d0_9 rfl ?_
    refine w_if_ne ok d0_11 (fun _ => ?_) (fun q => absurd q (by decide))
    refine w_iload ok d0_31 rfl ?_
    refine w_iconst ok (z := 1) d0_33 rfl ?_
    refine w_ic_ne ok d0_34 (fun _ => ?_) (fun q => absurd q (by decide))
    refine w_iloadN ok d0_56 rfl ?_
    refine w_i2b ok d0_57 ?_
    refine w_istore ok (Ls' := #[.val (.int mode), .val (.int a), .val (.int b), .val (.int c), .val (.long xx), .second, .val (.int pos), .val (.int (3 : Int32)), .val (.int (a.toInt8.toInt32)), .unset, .unset, .unset, .unset, .unset, .unset, .unset, .unset, .unset, .unset, .unset, .unset, .unset]) d0_58 rfl ?_
    refine w_iloadN ok d0_60 rfl ?_
    refine w_i2b ok d0_61 ?_
    refine w_istore ok (Ls' := #[.val (.int mode), .val (.int a), .val (.int b), .val (.int c), .val (.long xx), .second, .val (.int pos), .val (.int (3 : Int32)), .val (.int (a.toInt8.toInt32)), .val (.int (b.toInt8.toInt32)), .unset, .unset, .unset, .unset, .unset, .unset, .unset, .unset, .unset, .unset, .unset, .unset]) d0_62 rfl ?_
    refine w_iloadN ok d0_64 rfl ?_
    refine w_i2b ok d0_65 ?_
    refine w_istore ok (Ls' := #[.val (.int mode), .val (.int a), .val (.int b), .val (.int c), .val (.long xx), .second, .val (.int pos), .val (.int (3 : Int32)), .val (.int (a.toInt8.toInt32)), .val (.int (b.toInt8.toInt32)), .val (.int (c.toInt8.toInt32)), .unset, .unset, .unset, .unset, .unset, .unset, .unset, .unset, .unset, .unset, .unset]) d0_66 rfl ?_
    obtain ⟨ba, hba, na⟩ : ∃ b, b = a.toInt8.toInt32 ∧ nar .byte b = b := ⟨_, rfl, own_byte2 a⟩
    obtain ⟨bb, hbb, nb⟩ : ∃ z, z = b.toInt8.toInt32 ∧ nar .byte z = z := ⟨_, rfl, own_byte2 b⟩
    obtain ⟨bc, hbc, nc⟩ : ∃ z, z = c.toInt8.toInt32 ∧ nar .byte z = z := ⟨_, rfl, own_byte2 c⟩
    rw [← hba, ← hbb, ← hbc]
    show Wp l room_1 n0 K (fun v h' => ∃ w, v = some w ∧ w = .int 1) h 0 0 68 #[.val (.int mode), .val (.int a), .val (.int b), .val (.int c), .val (.long xx), .second, .val (.int pos), .val (.int (3 : Int32)), .val (.int ba), .val (.int bb), .val (.int bc), .unset, .unset, .unset, .unset, .unset, .unset, .unset, .unset, .unset, .unset, .unset] []
    refine w_iload ok d0_68 rfl ?_
    refine w_iconst ok (z := 2) d0_70 rfl ?_
    refine w_ic_ne ok d0_71 (fun _ => ?_) (fun q => absurd q (by decide))
    refine w_iload ok d0_123 rfl ?_
    refine w_iconst ok (z := 3) d0_125 rfl ?_
    refine w_ic_ne ok d0_126 (fun q => absurd (by decide) q) (fun _ => ?_)
    refine w_iconst ok (z := 2) d0_129 rfl ?_
    refine w_newarray ok (cap := 2) (hw _ (List.mem_of_getElem? (i := 7) rfl)) d0_130 (by decide) (by decide) (by decide) (k' := 1) (n' := 2) rfl rfl (Nat.le_of_ble_eq_true rfl) (Nat.le_of_ble_eq_true rfl) (fun h4 b4 cA4 g4 E4 A4 => ?_)
    have gn_b4 : n0 ≤ b4 := Nat.le_trans Z0 (Nat.le_of_eq g4.symm)
    have Z0 := Nat.le_trans Z0 E4.1
    have V_b4 : Ary Z h4 b4 .byte [(.int (0 : Int32)), (.int (0 : Int32))] := ary_new A4
    refine w_dup ok d0_132 rfl ?_
    refine w_iconst ok (z := 0) d0_133 rfl ?_
    refine w_iload ok d0_134 rfl ?_
    refine w_bastoreB' ok (i := 0) V_b4 (Nat.le_of_ble_eq_true rfl) (Nat.le_of_ble_eq_true rfl) gn_b4 d0_136 (fun h5 W5 V_b4 => ?_)
    have Z0 := Nat.le_trans Z0 (Keep.of_wr W5).1
    replace V_b4 : Ary Z h5 b4 .byte [(.int (nar .byte ba)), (.int (0 : Int32))] := V_b4
    refine w_dup ok d0_137 rfl ?_
    refine w_iconst ok (z := 1) d0_138 rfl ?_
    refine w_iload ok d0_139 rfl ?_
    refine w_bastoreB' ok (i := 1) V_b4 (Nat.le_of_ble_eq_true rfl) (Nat.le_of_ble_eq_true rfl) gn_b4 d0_141 (fun h6 W6 V_b4 => ?_)
    have Z0 := Nat.le_trans Z0 (Keep.of_wr W6).1
    replace V_b4 : Ary Z h6 b4 .byte [(.int (nar .byte ba)), (.int (nar .byte bb))] := V_b4
    refine w_astore ok (Ls' := #[.val (.int mode), .val (.int a), .val (.int b), .val (.int c), .val (.long xx), .second, .val (.int pos), .val (.int (3 : Int32)), .val (.int ba), .val (.int bb), .val (.int bc), .val (.ref b4), .unset, .unset, .unset, .unset, .unset, .unset, .unset, .unset, .unset, .unset]) d0_142 rfl rfl ?_
    refine w_iload ok d0_144 rfl ?_
    rw [na, nb] at V_b4
    refine w_callSV ok (argsL := [(.int ba)]) (rest := []) (hw _ (List.mem_of_getElem? (i := 8) rfl)) (hw _ (List.mem_of_getElem? (i := 9) rfl)) (hw _ (List.mem_of_getElem? (i := 10) rfl)) (hw _ (List.mem_of_getElem? (i := 11) rfl)) (by decide) (rmD l Z a0 hw n0 ba h6) d0_146 (lenOf pd__B_Z rfl) rfl rfl (Nat.le_of_ble_eq_true rfl) (Nat.le_of_ble_eq_true rfl) (k' := 1) (n' := 2) rfl rfl (Nat.le_of_ble_eq_true rfl) (Nat.le_of_ble_eq_true rfl) ?_
    rintro _ _ ⟨rfl, rfl⟩
    refine w_if_eq ok d0_149 (fun r0 => ?_) (fun r0 => ?_)
    · refine w_ldc2 ok (hw _ (List.mem_of_getElem? (i := 6) rfl)) d0_180 ?_
      refine w_lstore ok (Ls' := #[.val (.int mode), .val (.int a), .val (.int b), .val (.int c), .val (.long xx), .second, .val (.int pos), .val (.int (3 : Int32)), .val (.int ba), .val (.int bb), .val (.int bc), .val (.ref b4), .val (.long (-1 : Int64)), .second, .unset, .unset, .unset, .unset, .unset, .unset, .unset, .unset]) d0_183 rfl ?_
      refine w_aload ok d0_185 rfl rfl ?_
      refine w_callSV ok (argsL := [(.ref b4)]) (rest := []) (hw _ (List.mem_of_getElem? (i := 1) rfl)) (hw _ (List.mem_of_getElem? (i := 2) rfl)) (hw _ (List.mem_of_getElem? (i := 3) rfl)) (hw _ (List.mem_of_getElem? (i := 4) rfl)) (by decide) (rmNum l Z a0 hw n0 b4 [ba, bb] h6 V_b4 (Nat.le_of_ble_eq_true rfl)) d0_187 (lenOf pd__ArB_J rfl) rfl rfl (Nat.le_of_ble_eq_true rfl) (Nat.le_of_ble_eq_true rfl) (k' := 1) (n' := 2) rfl rfl (Nat.le_of_ble_eq_true rfl) (Nat.le_of_ble_eq_true rfl) ?_
      rintro _ _ ⟨rfl, rfl⟩
      refine w_lload ok d0_190 rfl ?_
      refine w_lc_ne ok d0_192 d0_193 (fun q9 => ?_) (fun q9 => ?_)
      · exact absurd (by simp [own_num, own_fold, r0]) q9
      · refine w_iconst ok (z := 1) d0_196 rfl ?_
        refine w_goto ok d0_197 ?_
        refine w_ireturnN ok (by simp) d0_201 (Nat.le_of_ble_eq_true rfl) (Nat.le_of_ble_eq_true rfl) ?_
        exact ⟨_, rfl, rfl⟩
    · refine w_iload ok d0_152 rfl ?_
      refine w_callSV ok (argsL := [(.int bb)]) (rest := []) (hw _ (List.mem_of_getElem? (i := 8) rfl)) (hw _ (List.mem_of_getElem? (i := 9) rfl)) (hw _ (List.mem_of_getElem? (i := 10) rfl)) (hw _ (List.mem_of_getElem? (i := 11) rfl)) (by decide) (rmD l Z a0 hw n0 bb h6) d0_154 (lenOf pd__B_Z rfl) rfl rfl (Nat.le_of_ble_eq_true rfl) (Nat.le_of_ble_eq_true rfl) (k' := 1) (n' := 2) rfl rfl (Nat.le_of_ble_eq_true rfl) (Nat.le_of_ble_eq_true rfl) ?_
      rintro _ _ ⟨rfl, rfl⟩
      refine w_if_eq ok d0_157 (fun r1 => ?_) (fun r1 => ?_)
      · refine w_ldc2 ok (hw _ (List.mem_of_getElem? (i := 6) rfl)) d0_180 ?_
        refine w_lstore ok (Ls' := #[.val (.int mode), .val (.int a), .val (.int b), .val (.int c), .val (.long xx), .second, .val (.int pos), .val (.int (3 : Int32)), .val (.int ba), .val (.int bb), .val (.int bc), .val (.ref b4), .val (.long (-1 : Int64)), .second, .unset, .unset, .unset, .unset, .unset, .unset, .unset, .unset]) d0_183 rfl ?_
        refine w_aload ok d0_185 rfl rfl ?_
        refine w_callSV ok (argsL := [(.ref b4)]) (rest := []) (hw _ (List.mem_of_getElem? (i := 1) rfl)) (hw _ (List.mem_of_getElem? (i := 2) rfl)) (hw _ (List.mem_of_getElem? (i := 3) rfl)) (hw _ (List.mem_of_getElem? (i := 4) rfl)) (by decide) (rmNum l Z a0 hw n0 b4 [ba, bb] h6 V_b4 (Nat.le_of_ble_eq_true rfl)) d0_187 (lenOf pd__ArB_J rfl) rfl rfl (Nat.le_of_ble_eq_true rfl) (Nat.le_of_ble_eq_true rfl) (k' := 1) (n' := 2) rfl rfl (Nat.le_of_ble_eq_true rfl) (Nat.le_of_ble_eq_true rfl) ?_
        rintro _ _ ⟨rfl, rfl⟩
        refine w_lload ok d0_190 rfl ?_
        refine w_lc_ne ok d0_192 d0_193 (fun q9 => ?_) (fun q9 => ?_)
        · exact absurd (by simp [own_num, own_fold, r0, r1]) q9
        · refine w_iconst ok (z := 1) d0_196 rfl ?_
          refine w_goto ok d0_197 ?_
          refine w_ireturnN ok (by simp) d0_201 (Nat.le_of_ble_eq_true rfl) (Nat.le_of_ble_eq_true rfl) ?_
          exact ⟨_, rfl, rfl⟩
      · refine w_iload ok d0_160 rfl ?_
        refine w_bipush ok (z := 48) d0_162 rfl ?_
        refine w_isub ok d0_164 ?_
        refine w_i2l ok d0_165 ?_
        refine w_ldc2 ok (hw _ (List.mem_of_getElem? (i := 13) rfl)) d0_166 ?_
        refine w_lmul ok d0_169 ?_
        refine w_iload ok d0_170 rfl ?_
        refine w_bipush ok (z := 48) d0_172 rfl ?_
        refine w_isub ok d0_174 ?_
        refine w_i2l ok d0_175 ?_
        refine w_ladd ok d0_176 ?_
        refine w_goto ok d0_177 ?_
        refine w_lstore ok (Ls' := #[.val (.int mode), .val (.int a), .val (.int b), .val (.int c), .val (.long xx), .second, .val (.int pos), .val (.int (3 : Int32)), .val (.int ba), .val (.int bb), .val (.int bc), .val (.ref b4), .val (.long ((((ba - (48 : Int32)).toInt64) * (10 : Int64)) + ((bb - (48 : Int32)).toInt64))), .second, .unset, .unset, .unset, .unset, .unset, .unset, .unset, .unset]) d0_183 rfl ?_
        refine w_aload ok d0_185 rfl rfl ?_
        refine w_callSV ok (argsL := [(.ref b4)]) (rest := []) (hw _ (List.mem_of_getElem? (i := 1) rfl)) (hw _ (List.mem_of_getElem? (i := 2) rfl)) (hw _ (List.mem_of_getElem? (i := 3) rfl)) (hw _ (List.mem_of_getElem? (i := 4) rfl)) (by decide) (rmNum l Z a0 hw n0 b4 [ba, bb] h6 V_b4 (Nat.le_of_ble_eq_true rfl)) d0_187 (lenOf pd__ArB_J rfl) rfl rfl (Nat.le_of_ble_eq_true rfl) (Nat.le_of_ble_eq_true rfl) (k' := 1) (n' := 2) rfl rfl (Nat.le_of_ble_eq_true rfl) (Nat.le_of_ble_eq_true rfl) ?_
        rintro _ _ ⟨rfl, rfl⟩
        refine w_lload ok d0_190 rfl ?_
        refine w_lc_ne ok d0_192 d0_193 (fun q9 => ?_) (fun q9 => ?_)
        · exact absurd (by simp [own_num, own_fold, r0, r1]) q9
        · refine w_iconst ok (z := 1) d0_196 rfl ?_
          refine w_goto ok d0_197 ?_
          refine w_ireturnN ok (by simp) d0_201 (Nat.le_of_ble_eq_true rfl) (Nat.le_of_ble_eq_true rfl) ?_
          exact ⟨_, rfl, rfl⟩
  · show Wp l room_1 n0 K (fun v h' => ∃ w, v = some w ∧ w = .int 1) h 0 0 9 #[.val (.int mode), .val (.int a), .val (.int b), .val (.int c), .val (.long xx), .second, .val (.int pos), .val (.int (4 : Int32)), .unset, .unset, .unset, .unset, .unset, .unset, .unset, .unset, .unset, .unset, .unset, .unset, .unset, .unset] []
    refine w_iload ok d0_9 rfl ?_
    refine w_if_ne ok d0_11 (fun _ => ?_) (fun q => absurd q (by decide))
    refine w_iload ok d0_31 rfl ?_
    refine w_iconst ok (z := 1) d0_33 rfl ?_
    refine w_ic_ne ok d0_34 (fun _ => ?_) (fun q => absurd q (by decide))
    refine w_iloadN ok d0_56 rfl ?_
    refine w_i2b ok d0_57 ?_
    refine w_istore ok (Ls' := #[.val (.int mode), .val (.int a), .val (.int b), .val (.int c), .val (.long xx), .second, .val (.int pos), .val (.int (4 : Int32)), .val (.int (a.toInt8.toInt32)), .unset, .unset, .unset, .unset, .unset, .unset, .unset, .unset, .unset, .unset, .unset, .unset, .unset]) d0_58 rfl ?_
    refine w_iloadN ok d0_60 rfl ?_
    refine w_i2b ok d0_61 ?_
    refine w_istore ok (Ls' := #[.val (.int mode), .val (.int a), .val (.int b), .val (.int c), .val (.long xx), .second, .val (.int pos), .val (.int (4 : Int32)), .val (.int (a.toInt8.toInt32)), .val (.int (b.toInt8.toInt32)), .unset, .unset, .unset, .unset, .unset, .unset, .unset, .unset, .unset, .unset, .unset, .unset]) d0_62 rfl ?_
    refine w_iloadN ok d0_64 rfl ?_
    refine w_i2b ok d0_65 ?_
    refine w_istore ok (Ls' := #[.val (.int mode), .val (.int a), .val (.int b), .val (.int c), .val (.long xx), .second, .val (.int pos), .val (.int (4 : Int32)), .val (.int (a.toInt8.toInt32)), .val (.int (b.toInt8.toInt32)), .val (.int (c.toInt8.toInt32)), .unset, .unset, .unset, .unset, .unset, .unset, .unset, .unset, .unset, .unset, .unset]) d0_66 rfl ?_
    obtain ⟨ba, hba, na⟩ : ∃ b, b = a.toInt8.toInt32 ∧ nar .byte b = b := ⟨_, rfl, own_byte2 a⟩
    obtain ⟨bb, hbb, nb⟩ : ∃ z, z = b.toInt8.toInt32 ∧ nar .byte z = z := ⟨_, rfl, own_byte2 b⟩
    obtain ⟨bc, hbc, nc⟩ : ∃ z, z = c.toInt8.toInt32 ∧ nar .byte z = z := ⟨_, rfl, own_byte2 c⟩
    rw [← hba, ← hbb, ← hbc]
    show Wp l room_1 n0 K (fun v h' => ∃ w, v = some w ∧ w = .int 1) h 0 0 68 #[.val (.int mode), .val (.int a), .val (.int b), .val (.int c), .val (.long xx), .second, .val (.int pos), .val (.int (4 : Int32)), .val (.int ba), .val (.int bb), .val (.int bc), .unset, .unset, .unset, .unset, .unset, .unset, .unset, .unset, .unset, .unset, .unset] []
    refine w_iload ok d0_68 rfl ?_
    refine w_iconst ok (z := 2) d0_70 rfl ?_
    refine w_ic_ne ok d0_71 (fun _ => ?_) (fun q => absurd q (by decide))
    refine w_iload ok d0_123 rfl ?_
    refine w_iconst ok (z := 3) d0_125 rfl ?_
    refine w_ic_ne ok d0_126 (fun _ => ?_) (fun q => absurd q (by decide))
    refine w_iload ok d0_202 rfl ?_
    refine w_iconst ok (z := 4) d0_204 rfl ?_
    refine w_ic_ne ok d0_205 (fun q => absurd (by decide) q) (fun _ => ?_)
    refine w_iconst ok (z := 3) d0_208 rfl ?_
    refine w_newarray ok (cap := 3) (hw _ (List.mem_of_getElem? (i := 7) rfl)) d0_209 (by decide) (by decide) (by decide) (k' := 1) (n' := 3) rfl rfl (Nat.le_of_ble_eq_true rfl) (Nat.le_of_ble_eq_true rfl) (fun h7 b7 cA7 g7 E7 A7 => ?_)
    have gn_b7 : n0 ≤ b7 := Nat.le_trans Z0 (Nat.le_of_eq g7.symm)
    have Z0 := Nat.le_trans Z0 E7.1
    have V_b7 : Ary Z h7 b7 .byte [(.int (0 : Int32)), (.int (0 : Int32)), (.int (0 : Int32))] := ary_new A7
    refine w_dup ok d0_211 rfl ?_
    refine w_iconst ok (z := 0) d0_212 rfl ?_
    refine w_iload ok d0_213 rfl ?_
    refine w_bastoreB' ok (i := 0) V_b7 (Nat.le_of_ble_eq_true rfl) (Nat.le_of_ble_eq_true rfl) gn_b7 d0_215 (fun h8 W8 V_b7 => ?_)
    have Z0 := Nat.le_trans Z0 (Keep.of_wr W8).1
    replace V_b7 : Ary Z h8 b7 .byte [(.int (nar .byte ba)), (.int (0 : Int32)), (.int (0 : Int32))] := V_b7
    refine w_dup ok d0_216 rfl ?_
    refine w_iconst ok (z := 1) d0_217 rfl ?_
    refine w_iload ok d0_218 rfl ?_
    refine w_bastoreB' ok (i := 1) V_b7 (Nat.le_of_ble_eq_true rfl) (Nat.le_of_ble_eq_true rfl) gn_b7 d0_220 (fun h9 W9 V_b7 => ?_)
    have Z0 := Nat.le_trans Z0 (Keep.of_wr W9).1
    replace V_b7 : Ary Z h9 b7 .byte [(.int (nar .byte ba)), (.int (nar .byte bb)), (.int (0 : Int32))] := V_b7
    refine w_dup ok d0_221 rfl ?_
    refine w_iconst ok (z := 2) d0_222 rfl ?_
    refine w_iload ok d0_223 rfl ?_
    refine w_bastoreB' ok (i := 2) V_b7 (Nat.le_of_ble_eq_true rfl) (Nat.le_of_ble_eq_true rfl) gn_b7 d0_225 (fun h10 W10 V_b7 => ?_)
    have Z0 := Nat.le_trans Z0 (Keep.of_wr W10).1
    replace V_b7 : Ary Z h10 b7 .byte [(.int (nar .byte ba)), (.int (nar .byte bb)), (.int (nar .byte bc))] := V_b7
    refine w_astore ok (Ls' := #[.val (.int mode), .val (.int a), .val (.int b), .val (.int c), .val (.long xx), .second, .val (.int pos), .val (.int (4 : Int32)), .val (.int ba), .val (.int bb), .val (.int bc), .val (.ref b7), .unset, .unset, .unset, .unset, .unset, .unset, .unset, .unset, .unset, .unset]) d0_226 rfl rfl ?_
    refine w_iload ok d0_228 rfl ?_
    rw [na, nb, nc] at V_b7
    refine w_callSV ok (argsL := [(.int ba)]) (rest := []) (hw _ (List.mem_of_getElem? (i := 8) rfl)) (hw _ (List.mem_of_getElem? (i := 9) rfl)) (hw _ (List.mem_of_getElem? (i := 10) rfl)) (hw _ (List.mem_of_getElem? (i := 11) rfl)) (by decide) (rmD l Z a0 hw n0 ba h10) d0_230 (lenOf pd__B_Z rfl) rfl rfl (Nat.le_of_ble_eq_true rfl) (Nat.le_of_ble_eq_true rfl) (k' := 1) (n' := 3) rfl rfl (Nat.le_of_ble_eq_true rfl) (Nat.le_of_ble_eq_true rfl) ?_
    rintro _ _ ⟨rfl, rfl⟩
    refine w_if_eq ok d0_233 (fun r0 => ?_) (fun r0 => ?_)
    · refine w_ldc2 ok (hw _ (List.mem_of_getElem? (i := 6) rfl)) d0_283 ?_
      refine w_lstore ok (Ls' := #[.val (.int mode), .val (.int a), .val (.int b), .val (.int c), .val (.long xx), .second, .val (.int pos), .val (.int (4 : Int32)), .val (.int ba), .val (.int bb), .val (.int bc), .val (.ref b7), .val (.long (-1 : Int64)), .second, .unset, .unset, .unset, .unset, .unset, .unset, .unset, .unset]) d0_286 rfl ?_
      refine w_aload ok d0_288 rfl rfl ?_
      refine w_callSV ok (argsL := [(.ref b7)]) (rest := []) (hw _ (List.mem_of_getElem? (i := 1) rfl)) (hw _ (List.mem_of_getElem? (i := 2) rfl)) (hw _ (List.mem_of_getElem? (i := 3) rfl)) (hw _ (List.mem_of_getElem? (i := 4) rfl)) (by decide) (rmNum l Z a0 hw n0 b7 [ba, bb, bc] h10 V_b7 (Nat.le_of_ble_eq_true rfl)) d0_290 (lenOf pd__ArB_J rfl) rfl rfl (Nat.le_of_ble_eq_true rfl) (Nat.le_of_ble_eq_true rfl) (k' := 1) (n' := 3) rfl rfl (Nat.le_of_ble_eq_true rfl) (Nat.le_of_ble_eq_true rfl) ?_
      rintro _ _ ⟨rfl, rfl⟩
      refine w_lload ok d0_293 rfl ?_
      refine w_lc_ne ok d0_295 d0_296 (fun q9 => ?_) (fun q9 => ?_)
      · exact absurd (by simp [own_num, own_fold, r0]) q9
      · refine w_iconst ok (z := 1) d0_299 rfl ?_
        refine w_goto ok d0_300 ?_
        refine w_ireturnN ok (by simp) d0_304 (Nat.le_of_ble_eq_true rfl) (Nat.le_of_ble_eq_true rfl) ?_
        exact ⟨_, rfl, rfl⟩
    · refine w_iload ok d0_236 rfl ?_
      refine w_callSV ok (argsL := [(.int bb)]) (rest := []) (hw _ (List.mem_of_getElem? (i := 8) rfl)) (hw _ (List.mem_of_getElem? (i := 9) rfl)) (hw _ (List.mem_of_getElem? (i := 10) rfl)) (hw _ (List.mem_of_getElem? (i := 11) rfl)) (by decide) (rmD l Z a0 hw n0 bb h10) d0_238 (lenOf pd__B_Z rfl) rfl rfl (Nat.le_of_ble_eq_true rfl) (Nat.le_of_ble_eq_true rfl) (k' := 1) (n' := 3) rfl rfl (Nat.le_of_ble_eq_true rfl) (Nat.le_of_ble_eq_true rfl) ?_
      rintro _ _ ⟨rfl, rfl⟩
      refine w_if_eq ok d0_241 (fun r1 => ?_) (fun r1 => ?_)
      · refine w_ldc2 ok (hw _ (List.mem_of_getElem? (i := 6) rfl)) d0_283 ?_
        refine w_lstore ok (Ls' := #[.val (.int mode), .val (.int a), .val (.int b), .val (.int c), .val (.long xx), .second, .val (.int pos), .val (.int (4 : Int32)), .val (.int ba), .val (.int bb), .val (.int bc), .val (.ref b7), .val (.long (-1 : Int64)), .second, .unset, .unset, .unset, .unset, .unset, .unset, .unset, .unset]) d0_286 rfl ?_
        refine w_aload ok d0_288 rfl rfl ?_
        refine w_callSV ok (argsL := [(.ref b7)]) (rest := []) (hw _ (List.mem_of_getElem? (i := 1) rfl)) (hw _ (List.mem_of_getElem? (i := 2) rfl)) (hw _ (List.mem_of_getElem? (i := 3) rfl)) (hw _ (List.mem_of_getElem? (i := 4) rfl)) (by decide) (rmNum l Z a0 hw n0 b7 [ba, bb, bc] h10 V_b7 (Nat.le_of_ble_eq_true rfl)) d0_290 (lenOf pd__ArB_J rfl) rfl rfl (Nat.le_of_ble_eq_true rfl) (Nat.le_of_ble_eq_true rfl) (k' := 1) (n' := 3) rfl rfl (Nat.le_of_ble_eq_true rfl) (Nat.le_of_ble_eq_true rfl) ?_
        rintro _ _ ⟨rfl, rfl⟩
        refine w_lload ok d0_293 rfl ?_
        refine w_lc_ne ok d0_295 d0_296 (fun q9 => ?_) (fun q9 => ?_)
        · exact absurd (by simp [own_num, own_fold, r0, r1]) q9
        · refine w_iconst ok (z := 1) d0_299 rfl ?_
          refine w_goto ok d0_300 ?_
          refine w_ireturnN ok (by simp) d0_304 (Nat.le_of_ble_eq_true rfl) (Nat.le_of_ble_eq_true rfl) ?_
          exact ⟨_, rfl, rfl⟩
      · refine w_iload ok d0_244 rfl ?_
        refine w_callSV ok (argsL := [(.int bc)]) (rest := []) (hw _ (List.mem_of_getElem? (i := 8) rfl)) (hw _ (List.mem_of_getElem? (i := 9) rfl)) (hw _ (List.mem_of_getElem? (i := 10) rfl)) (hw _ (List.mem_of_getElem? (i := 11) rfl)) (by decide) (rmD l Z a0 hw n0 bc h10) d0_246 (lenOf pd__B_Z rfl) rfl rfl (Nat.le_of_ble_eq_true rfl) (Nat.le_of_ble_eq_true rfl) (k' := 1) (n' := 3) rfl rfl (Nat.le_of_ble_eq_true rfl) (Nat.le_of_ble_eq_true rfl) ?_
        rintro _ _ ⟨rfl, rfl⟩
        refine w_if_eq ok d0_249 (fun r2 => ?_) (fun r2 => ?_)
        · refine w_ldc2 ok (hw _ (List.mem_of_getElem? (i := 6) rfl)) d0_283 ?_
          refine w_lstore ok (Ls' := #[.val (.int mode), .val (.int a), .val (.int b), .val (.int c), .val (.long xx), .second, .val (.int pos), .val (.int (4 : Int32)), .val (.int ba), .val (.int bb), .val (.int bc), .val (.ref b7), .val (.long (-1 : Int64)), .second, .unset, .unset, .unset, .unset, .unset, .unset, .unset, .unset]) d0_286 rfl ?_
          refine w_aload ok d0_288 rfl rfl ?_
          refine w_callSV ok (argsL := [(.ref b7)]) (rest := []) (hw _ (List.mem_of_getElem? (i := 1) rfl)) (hw _ (List.mem_of_getElem? (i := 2) rfl)) (hw _ (List.mem_of_getElem? (i := 3) rfl)) (hw _ (List.mem_of_getElem? (i := 4) rfl)) (by decide) (rmNum l Z a0 hw n0 b7 [ba, bb, bc] h10 V_b7 (Nat.le_of_ble_eq_true rfl)) d0_290 (lenOf pd__ArB_J rfl) rfl rfl (Nat.le_of_ble_eq_true rfl) (Nat.le_of_ble_eq_true rfl) (k' := 1) (n' := 3) rfl rfl (Nat.le_of_ble_eq_true rfl) (Nat.le_of_ble_eq_true rfl) ?_
          rintro _ _ ⟨rfl, rfl⟩
          refine w_lload ok d0_293 rfl ?_
          refine w_lc_ne ok d0_295 d0_296 (fun q9 => ?_) (fun q9 => ?_)
          · exact absurd (by simp [own_num, own_fold, r0, r1, r2]) q9
          · refine w_iconst ok (z := 1) d0_299 rfl ?_
            refine w_goto ok d0_300 ?_
            refine w_ireturnN ok (by simp) d0_304 (Nat.le_of_ble_eq_true rfl) (Nat.le_of_ble_eq_true rfl) ?_
            exact ⟨_, rfl, rfl⟩
        · refine w_iload ok d0_252 rfl ?_
          refine w_bipush ok (z := 48) d0_254 rfl ?_
          refine w_isub ok d0_256 ?_
          refine w_i2l ok d0_257 ?_
          refine w_ldc2 ok (hw _ (List.mem_of_getElem? (i := 14) rfl)) d0_258 ?_
          refine w_lmul ok d0_261 ?_
          refine w_iload ok d0_262 rfl ?_
          refine w_bipush ok (z := 48) d0_264 rfl ?_
          refine w_isub ok d0_266 ?_
          refine w_i2l ok d0_267 ?_
          refine w_ldc2 ok (hw _ (List.mem_of_getElem? (i := 13) rfl)) d0_268 ?_
          refine w_lmul ok d0_271 ?_
          refine w_ladd ok d0_272 ?_
          refine w_iload ok d0_273 rfl ?_
          refine w_bipush ok (z := 48) d0_275 rfl ?_
          refine w_isub ok d0_277 ?_
          refine w_i2l ok d0_278 ?_
          refine w_ladd ok d0_279 ?_
          refine w_goto ok d0_280 ?_
          refine w_lstore ok (Ls' := #[.val (.int mode), .val (.int a), .val (.int b), .val (.int c), .val (.long xx), .second, .val (.int pos), .val (.int (4 : Int32)), .val (.int ba), .val (.int bb), .val (.int bc), .val (.ref b7), .val (.long (((((ba - (48 : Int32)).toInt64) * (100 : Int64)) + (((bb - (48 : Int32)).toInt64) * (10 : Int64))) + ((bc - (48 : Int32)).toInt64))), .second, .unset, .unset, .unset, .unset, .unset, .unset, .unset, .unset]) d0_286 rfl ?_
          refine w_aload ok d0_288 rfl rfl ?_
          refine w_callSV ok (argsL := [(.ref b7)]) (rest := []) (hw _ (List.mem_of_getElem? (i := 1) rfl)) (hw _ (List.mem_of_getElem? (i := 2) rfl)) (hw _ (List.mem_of_getElem? (i := 3) rfl)) (hw _ (List.mem_of_getElem? (i := 4) rfl)) (by decide) (rmNum l Z a0 hw n0 b7 [ba, bb, bc] h10 V_b7 (Nat.le_of_ble_eq_true rfl)) d0_290 (lenOf pd__ArB_J rfl) rfl rfl (Nat.le_of_ble_eq_true rfl) (Nat.le_of_ble_eq_true rfl) (k' := 1) (n' := 3) rfl rfl (Nat.le_of_ble_eq_true rfl) (Nat.le_of_ble_eq_true rfl) ?_
          rintro _ _ ⟨rfl, rfl⟩
          refine w_lload ok d0_293 rfl ?_
          refine w_lc_ne ok d0_295 d0_296 (fun q9 => ?_) (fun q9 => ?_)
          · exact absurd (by rw [own_nm (by simp) (by simp), own_fold_yes r0, own_fold_yes r1, own_fold_yes r2]; exact own_three _ _ _) q9
          · refine w_iconst ok (z := 1) d0_299 rfl ?_
            refine w_goto ok d0_300 ?_
            refine w_ireturnN ok (by simp) d0_304 (Nat.le_of_ble_eq_true rfl) (Nat.le_of_ble_eq_true rfl) ?_
            exact ⟨_, rfl, rfl⟩
  · show Wp l room_1 n0 K (fun v h' => ∃ w, v = some w ∧ w = .int 1) h 0 0 9 #[.val (.int mode), .val (.int a), .val (.int b), .val (.int c), .val (.long xx), .second, .val (.int pos), .val (.int (5 : Int32)), .unset, .unset, .unset, .unset, .unset, .unset, .unset, .unset, .unset, .unset, .unset, .unset, .unset, .unset] []
    refine w_iload ok d0_9 rfl ?_
    refine w_if_ne ok d0_11 (fun _ => ?_) (fun q => absurd q (by decide))
    refine w_iload ok d0_31 rfl ?_
    refine w_iconst ok (z := 1) d0_33 rfl ?_
    refine w_ic_ne ok d0_34 (fun _ => ?_) (fun q => absurd q (by decide))
    refine w_iloadN ok d0_56 rfl ?_
    refine w_i2b ok d0_57 ?_
    refine w_istore ok (Ls' := #[.val (.int mode), .val (.int a), .val (.int b), .val (.int c), .val (.long xx), .second, .val (.int pos), .val (.int (5 : Int32)), .val (.int (a.toInt8.toInt32)), .unset, .unset, .unset, .unset, .unset, .unset, .unset, .unset, .unset, .unset, .unset, .unset, .unset]) d0_58 rfl ?_
    refine w_iloadN ok d0_60 rfl ?_
    refine w_i2b ok d0_61 ?_
    refine w_istore ok (Ls' := #[.val (.int mode), .val (.int a), .val (.int b), .val (.int c), .val (.long xx), .second, .val (.int pos), .val (.int (5 : Int32)), .val (.int (a.toInt8.toInt32)), .val (.int (b.toInt8.toInt32)), .unset, .unset, .unset, .unset, .unset, .unset, .unset, .unset, .unset, .unset, .unset, .unset]) d0_62 rfl ?_
    refine w_iloadN ok d0_64 rfl ?_
    refine w_i2b ok d0_65 ?_
    refine w_istore ok (Ls' := #[.val (.int mode), .val (.int a), .val (.int b), .val (.int c), .val (.long xx), .second, .val (.int pos), .val (.int (5 : Int32)), .val (.int (a.toInt8.toInt32)), .val (.int (b.toInt8.toInt32)), .val (.int (c.toInt8.toInt32)), .unset, .unset, .unset, .unset, .unset, .unset, .unset, .unset, .unset, .unset, .unset]) d0_66 rfl ?_
    obtain ⟨ba, hba, na⟩ : ∃ b, b = a.toInt8.toInt32 ∧ nar .byte b = b := ⟨_, rfl, own_byte2 a⟩
    obtain ⟨bb, hbb, nb⟩ : ∃ z, z = b.toInt8.toInt32 ∧ nar .byte z = z := ⟨_, rfl, own_byte2 b⟩
    obtain ⟨bc, hbc, nc⟩ : ∃ z, z = c.toInt8.toInt32 ∧ nar .byte z = z := ⟨_, rfl, own_byte2 c⟩
    rw [← hba, ← hbb, ← hbc]
    show Wp l room_1 n0 K (fun v h' => ∃ w, v = some w ∧ w = .int 1) h 0 0 68 #[.val (.int mode), .val (.int a), .val (.int b), .val (.int c), .val (.long xx), .second, .val (.int pos), .val (.int (5 : Int32)), .val (.int ba), .val (.int bb), .val (.int bc), .unset, .unset, .unset, .unset, .unset, .unset, .unset, .unset, .unset, .unset, .unset] []
    refine w_iload ok d0_68 rfl ?_
    refine w_iconst ok (z := 2) d0_70 rfl ?_
    refine w_ic_ne ok d0_71 (fun _ => ?_) (fun q => absurd q (by decide))
    refine w_iload ok d0_123 rfl ?_
    refine w_iconst ok (z := 3) d0_125 rfl ?_
    refine w_ic_ne ok d0_126 (fun _ => ?_) (fun q => absurd q (by decide))
    refine w_iload ok d0_202 rfl ?_
    refine w_iconst ok (z := 4) d0_204 rfl ?_
    refine w_ic_ne ok d0_205 (fun _ => ?_) (fun q => absurd q (by decide))
    refine w_bipush ok (z := 18) d0_305 rfl ?_
    refine w_newarray ok (cap := 18) (hw _ (List.mem_of_getElem? (i := 12) rfl)) d0_307 (by decide) (by decide) (by decide) (k' := 1) (n' := 18) rfl rfl (Nat.le_of_ble_eq_true rfl) (Nat.le_of_ble_eq_true rfl) (fun h11 b11 cA11 g11 E11 A11 => ?_)
    have gn_b11 : n0 ≤ b11 := Nat.le_trans Z0 (Nat.le_of_eq g11.symm)
    have Z0 := Nat.le_trans Z0 E11.1
    have V_b11 : Ary Z h11 b11 .long [(.long (0 : Int64)), (.long (0 : Int64)), (.long (0 : Int64)), (.long (0 : Int64)), (.long (0 : Int64)), (.long (0 : Int64)), (.long (0 : Int64)), (.long (0 : Int64)), (.long (0 : Int64)), (.long (0 : Int64)), (.long (0 : Int64)), (.long (0 : Int64)), (.long (0 : Int64)), (.long (0 : Int64)), (.long (0 : Int64)), (.long (0 : Int64)), (.long (0 : Int64)), (.long (0 : Int64))] := ary_new A11
    refine w_dup ok d0_309 rfl ?_
    refine w_iconst ok (z := 0) d0_310 rfl ?_
    refine w_lconst ok (z := 1) d0_311 rfl ?_
    refine w_lastore' ok (i := 0) V_b11 (Nat.le_of_ble_eq_true rfl) (Nat.le_of_ble_eq_true rfl) gn_b11 d0_312 (fun h12 W12 V_b11 => ?_)
    have Z0 := Nat.le_trans Z0 (Keep.of_wr W12).1
    replace V_b11 : Ary Z h12 b11 .long [(.long (1 : Int64)), (.long (0 : Int64)), (.long (0 : Int64)), (.long (0 : Int64)), (.long (0 : Int64)), (.long (0 : Int64)), (.long (0 : Int64)), (.long (0 : Int64)), (.long (0 : Int64)), (.long (0 : Int64)), (.long (0 : Int64)), (.long (0 : Int64)), (.long (0 : Int64)), (.long (0 : Int64)), (.long (0 : Int64)), (.long (0 : Int64)), (.long (0 : Int64)), (.long (0 : Int64))] := V_b11
    refine w_dup ok d0_313 rfl ?_
    refine w_iconst ok (z := 1) d0_314 rfl ?_
    refine w_ldc2 ok (hw _ (List.mem_of_getElem? (i := 13) rfl)) d0_315 ?_
    refine w_lastore' ok (i := 1) V_b11 (Nat.le_of_ble_eq_true rfl) (Nat.le_of_ble_eq_true rfl) gn_b11 d0_318 (fun h13 W13 V_b11 => ?_)
    have Z0 := Nat.le_trans Z0 (Keep.of_wr W13).1
    replace V_b11 : Ary Z h13 b11 .long [(.long (1 : Int64)), (.long (10 : Int64)), (.long (0 : Int64)), (.long (0 : Int64)), (.long (0 : Int64)), (.long (0 : Int64)), (.long (0 : Int64)), (.long (0 : Int64)), (.long (0 : Int64)), (.long (0 : Int64)), (.long (0 : Int64)), (.long (0 : Int64)), (.long (0 : Int64)), (.long (0 : Int64)), (.long (0 : Int64)), (.long (0 : Int64)), (.long (0 : Int64)), (.long (0 : Int64))] := V_b11
    refine w_dup ok d0_319 rfl ?_
    refine w_iconst ok (z := 2) d0_320 rfl ?_
    refine w_ldc2 ok (hw _ (List.mem_of_getElem? (i := 14) rfl)) d0_321 ?_
    refine w_lastore' ok (i := 2) V_b11 (Nat.le_of_ble_eq_true rfl) (Nat.le_of_ble_eq_true rfl) gn_b11 d0_324 (fun h14 W14 V_b11 => ?_)
    have Z0 := Nat.le_trans Z0 (Keep.of_wr W14).1
    replace V_b11 : Ary Z h14 b11 .long [(.long (1 : Int64)), (.long (10 : Int64)), (.long (100 : Int64)), (.long (0 : Int64)), (.long (0 : Int64)), (.long (0 : Int64)), (.long (0 : Int64)), (.long (0 : Int64)), (.long (0 : Int64)), (.long (0 : Int64)), (.long (0 : Int64)), (.long (0 : Int64)), (.long (0 : Int64)), (.long (0 : Int64)), (.long (0 : Int64)), (.long (0 : Int64)), (.long (0 : Int64)), (.long (0 : Int64))] := V_b11
    refine w_dup ok d0_325 rfl ?_
    refine w_iconst ok (z := 3) d0_326 rfl ?_
    refine w_ldc2 ok (hw _ (List.mem_of_getElem? (i := 15) rfl)) d0_327 ?_
    refine w_lastore' ok (i := 3) V_b11 (Nat.le_of_ble_eq_true rfl) (Nat.le_of_ble_eq_true rfl) gn_b11 d0_330 (fun h15 W15 V_b11 => ?_)
    have Z0 := Nat.le_trans Z0 (Keep.of_wr W15).1
    replace V_b11 : Ary Z h15 b11 .long [(.long (1 : Int64)), (.long (10 : Int64)), (.long (100 : Int64)), (.long (1000 : Int64)), (.long (0 : Int64)), (.long (0 : Int64)), (.long (0 : Int64)), (.long (0 : Int64)), (.long (0 : Int64)), (.long (0 : Int64)), (.long (0 : Int64)), (.long (0 : Int64)), (.long (0 : Int64)), (.long (0 : Int64)), (.long (0 : Int64)), (.long (0 : Int64)), (.long (0 : Int64)), (.long (0 : Int64))] := V_b11
    refine w_dup ok d0_331 rfl ?_
    refine w_iconst ok (z := 4) d0_332 rfl ?_
    refine w_ldc2 ok (hw _ (List.mem_of_getElem? (i := 16) rfl)) d0_333 ?_
    refine w_lastore' ok (i := 4) V_b11 (Nat.le_of_ble_eq_true rfl) (Nat.le_of_ble_eq_true rfl) gn_b11 d0_336 (fun h16 W16 V_b11 => ?_)
    have Z0 := Nat.le_trans Z0 (Keep.of_wr W16).1
    replace V_b11 : Ary Z h16 b11 .long [(.long (1 : Int64)), (.long (10 : Int64)), (.long (100 : Int64)), (.long (1000 : Int64)), (.long (10000 : Int64)), (.long (0 : Int64)), (.long (0 : Int64)), (.long (0 : Int64)), (.long (0 : Int64)), (.long (0 : Int64)), (.long (0 : Int64)), (.long (0 : Int64)), (.long (0 : Int64)), (.long (0 : Int64)), (.long (0 : Int64)), (.long (0 : Int64)), (.long (0 : Int64)), (.long (0 : Int64))] := V_b11
    refine w_dup ok d0_337 rfl ?_
    refine w_iconst ok (z := 5) d0_338 rfl ?_
    refine w_ldc2 ok (hw _ (List.mem_of_getElem? (i := 17) rfl)) d0_339 ?_
    refine w_lastore' ok (i := 5) V_b11 (Nat.le_of_ble_eq_true rfl) (Nat.le_of_ble_eq_true rfl) gn_b11 d0_342 (fun h17 W17 V_b11 => ?_)
    have Z0 := Nat.le_trans Z0 (Keep.of_wr W17).1
    replace V_b11 : Ary Z h17 b11 .long [(.long (1 : Int64)), (.long (10 : Int64)), (.long (100 : Int64)), (.long (1000 : Int64)), (.long (10000 : Int64)), (.long (100000 : Int64)), (.long (0 : Int64)), (.long (0 : Int64)), (.long (0 : Int64)), (.long (0 : Int64)), (.long (0 : Int64)), (.long (0 : Int64)), (.long (0 : Int64)), (.long (0 : Int64)), (.long (0 : Int64)), (.long (0 : Int64)), (.long (0 : Int64)), (.long (0 : Int64))] := V_b11
    refine w_dup ok d0_343 rfl ?_
    refine w_bipush ok (z := 6) d0_344 rfl ?_
    refine w_ldc2 ok (hw _ (List.mem_of_getElem? (i := 18) rfl)) d0_346 ?_
    refine w_lastore' ok (i := 6) V_b11 (Nat.le_of_ble_eq_true rfl) (Nat.le_of_ble_eq_true rfl) gn_b11 d0_349 (fun h18 W18 V_b11 => ?_)
    have Z0 := Nat.le_trans Z0 (Keep.of_wr W18).1
    replace V_b11 : Ary Z h18 b11 .long [(.long (1 : Int64)), (.long (10 : Int64)), (.long (100 : Int64)), (.long (1000 : Int64)), (.long (10000 : Int64)), (.long (100000 : Int64)), (.long (1000000 : Int64)), (.long (0 : Int64)), (.long (0 : Int64)), (.long (0 : Int64)), (.long (0 : Int64)), (.long (0 : Int64)), (.long (0 : Int64)), (.long (0 : Int64)), (.long (0 : Int64)), (.long (0 : Int64)), (.long (0 : Int64)), (.long (0 : Int64))] := V_b11
    refine w_dup ok d0_350 rfl ?_
    refine w_bipush ok (z := 7) d0_351 rfl ?_
    refine w_ldc2 ok (hw _ (List.mem_of_getElem? (i := 19) rfl)) d0_353 ?_
    refine w_lastore' ok (i := 7) V_b11 (Nat.le_of_ble_eq_true rfl) (Nat.le_of_ble_eq_true rfl) gn_b11 d0_356 (fun h19 W19 V_b11 => ?_)
    have Z0 := Nat.le_trans Z0 (Keep.of_wr W19).1
    replace V_b11 : Ary Z h19 b11 .long [(.long (1 : Int64)), (.long (10 : Int64)), (.long (100 : Int64)), (.long (1000 : Int64)), (.long (10000 : Int64)), (.long (100000 : Int64)), (.long (1000000 : Int64)), (.long (10000000 : Int64)), (.long (0 : Int64)), (.long (0 : Int64)), (.long (0 : Int64)), (.long (0 : Int64)), (.long (0 : Int64)), (.long (0 : Int64)), (.long (0 : Int64)), (.long (0 : Int64)), (.long (0 : Int64)), (.long (0 : Int64))] := V_b11
    refine w_dup ok d0_357 rfl ?_
    refine w_bipush ok (z := 8) d0_358 rfl ?_
    refine w_ldc2 ok (hw _ (List.mem_of_getElem? (i := 20) rfl)) d0_360 ?_
    refine w_lastore' ok (i := 8) V_b11 (Nat.le_of_ble_eq_true rfl) (Nat.le_of_ble_eq_true rfl) gn_b11 d0_363 (fun h20 W20 V_b11 => ?_)
    have Z0 := Nat.le_trans Z0 (Keep.of_wr W20).1
    replace V_b11 : Ary Z h20 b11 .long [(.long (1 : Int64)), (.long (10 : Int64)), (.long (100 : Int64)), (.long (1000 : Int64)), (.long (10000 : Int64)), (.long (100000 : Int64)), (.long (1000000 : Int64)), (.long (10000000 : Int64)), (.long (100000000 : Int64)), (.long (0 : Int64)), (.long (0 : Int64)), (.long (0 : Int64)), (.long (0 : Int64)), (.long (0 : Int64)), (.long (0 : Int64)), (.long (0 : Int64)), (.long (0 : Int64)), (.long (0 : Int64))] := V_b11
    refine w_dup ok d0_364 rfl ?_
    refine w_bipush ok (z := 9) d0_365 rfl ?_
    refine w_ldc2 ok (hw _ (List.mem_of_getElem? (i := 21) rfl)) d0_367 ?_
    refine w_lastore' ok (i := 9) V_b11 (Nat.le_of_ble_eq_true rfl) (Nat.le_of_ble_eq_true rfl) gn_b11 d0_370 (fun h21 W21 V_b11 => ?_)
    have Z0 := Nat.le_trans Z0 (Keep.of_wr W21).1
    replace V_b11 : Ary Z h21 b11 .long [(.long (1 : Int64)), (.long (10 : Int64)), (.long (100 : Int64)), (.long (1000 : Int64)), (.long (10000 : Int64)), (.long (100000 : Int64)), (.long (1000000 : Int64)), (.long (10000000 : Int64)), (.long (100000000 : Int64)), (.long (1000000000 : Int64)), (.long (0 : Int64)), (.long (0 : Int64)), (.long (0 : Int64)), (.long (0 : Int64)), (.long (0 : Int64)), (.long (0 : Int64)), (.long (0 : Int64)), (.long (0 : Int64))] := V_b11
    refine w_dup ok d0_371 rfl ?_
    refine w_bipush ok (z := 10) d0_372 rfl ?_
    refine w_ldc2 ok (hw _ (List.mem_of_getElem? (i := 22) rfl)) d0_374 ?_
    refine w_lastore' ok (i := 10) V_b11 (Nat.le_of_ble_eq_true rfl) (Nat.le_of_ble_eq_true rfl) gn_b11 d0_377 (fun h22 W22 V_b11 => ?_)
    have Z0 := Nat.le_trans Z0 (Keep.of_wr W22).1
    replace V_b11 : Ary Z h22 b11 .long [(.long (1 : Int64)), (.long (10 : Int64)), (.long (100 : Int64)), (.long (1000 : Int64)), (.long (10000 : Int64)), (.long (100000 : Int64)), (.long (1000000 : Int64)), (.long (10000000 : Int64)), (.long (100000000 : Int64)), (.long (1000000000 : Int64)), (.long (10000000000 : Int64)), (.long (0 : Int64)), (.long (0 : Int64)), (.long (0 : Int64)), (.long (0 : Int64)), (.long (0 : Int64)), (.long (0 : Int64)), (.long (0 : Int64))] := V_b11
    refine w_dup ok d0_378 rfl ?_
    refine w_bipush ok (z := 11) d0_379 rfl ?_
    refine w_ldc2 ok (hw _ (List.mem_of_getElem? (i := 23) rfl)) d0_381 ?_
    refine w_lastore' ok (i := 11) V_b11 (Nat.le_of_ble_eq_true rfl) (Nat.le_of_ble_eq_true rfl) gn_b11 d0_384 (fun h23 W23 V_b11 => ?_)
    have Z0 := Nat.le_trans Z0 (Keep.of_wr W23).1
    replace V_b11 : Ary Z h23 b11 .long [(.long (1 : Int64)), (.long (10 : Int64)), (.long (100 : Int64)), (.long (1000 : Int64)), (.long (10000 : Int64)), (.long (100000 : Int64)), (.long (1000000 : Int64)), (.long (10000000 : Int64)), (.long (100000000 : Int64)), (.long (1000000000 : Int64)), (.long (10000000000 : Int64)), (.long (100000000000 : Int64)), (.long (0 : Int64)), (.long (0 : Int64)), (.long (0 : Int64)), (.long (0 : Int64)), (.long (0 : Int64)), (.long (0 : Int64))] := V_b11
    refine w_dup ok d0_385 rfl ?_
    refine w_bipush ok (z := 12) d0_386 rfl ?_
    refine w_ldc2 ok (hw _ (List.mem_of_getElem? (i := 24) rfl)) d0_388 ?_
    refine w_lastore' ok (i := 12) V_b11 (Nat.le_of_ble_eq_true rfl) (Nat.le_of_ble_eq_true rfl) gn_b11 d0_391 (fun h24 W24 V_b11 => ?_)
    have Z0 := Nat.le_trans Z0 (Keep.of_wr W24).1
    replace V_b11 : Ary Z h24 b11 .long [(.long (1 : Int64)), (.long (10 : Int64)), (.long (100 : Int64)), (.long (1000 : Int64)), (.long (10000 : Int64)), (.long (100000 : Int64)), (.long (1000000 : Int64)), (.long (10000000 : Int64)), (.long (100000000 : Int64)), (.long (1000000000 : Int64)), (.long (10000000000 : Int64)), (.long (100000000000 : Int64)), (.long (1000000000000 : Int64)), (.long (0 : Int64)), (.long (0 : Int64)), (.long (0 : Int64)), (.long (0 : Int64)), (.long (0 : Int64))] := V_b11
    refine w_dup ok d0_392 rfl ?_
    refine w_bipush ok (z := 13) d0_393 rfl ?_
    refine w_ldc2 ok (hw _ (List.mem_of_getElem? (i := 25) rfl)) d0_395 ?_
    refine w_lastore' ok (i := 13) V_b11 (Nat.le_of_ble_eq_true rfl) (Nat.le_of_ble_eq_true rfl) gn_b11 d0_398 (fun h25 W25 V_b11 => ?_)
    have Z0 := Nat.le_trans Z0 (Keep.of_wr W25).1
    replace V_b11 : Ary Z h25 b11 .long [(.long (1 : Int64)), (.long (10 : Int64)), (.long (100 : Int64)), (.long (1000 : Int64)), (.long (10000 : Int64)), (.long (100000 : Int64)), (.long (1000000 : Int64)), (.long (10000000 : Int64)), (.long (100000000 : Int64)), (.long (1000000000 : Int64)), (.long (10000000000 : Int64)), (.long (100000000000 : Int64)), (.long (1000000000000 : Int64)), (.long (10000000000000 : Int64)), (.long (0 : Int64)), (.long (0 : Int64)), (.long (0 : Int64)), (.long (0 : Int64))] := V_b11
    refine w_dup ok d0_399 rfl ?_
    refine w_bipush ok (z := 14) d0_400 rfl ?_
    refine w_ldc2 ok (hw _ (List.mem_of_getElem? (i := 26) rfl)) d0_402 ?_
    refine w_lastore' ok (i := 14) V_b11 (Nat.le_of_ble_eq_true rfl) (Nat.le_of_ble_eq_true rfl) gn_b11 d0_405 (fun h26 W26 V_b11 => ?_)
    have Z0 := Nat.le_trans Z0 (Keep.of_wr W26).1
    replace V_b11 : Ary Z h26 b11 .long [(.long (1 : Int64)), (.long (10 : Int64)), (.long (100 : Int64)), (.long (1000 : Int64)), (.long (10000 : Int64)), (.long (100000 : Int64)), (.long (1000000 : Int64)), (.long (10000000 : Int64)), (.long (100000000 : Int64)), (.long (1000000000 : Int64)), (.long (10000000000 : Int64)), (.long (100000000000 : Int64)), (.long (1000000000000 : Int64)), (.long (10000000000000 : Int64)), (.long (100000000000000 : Int64)), (.long (0 : Int64)), (.long (0 : Int64)), (.long (0 : Int64))] := V_b11
    refine w_dup ok d0_406 rfl ?_
    refine w_bipush ok (z := 15) d0_407 rfl ?_
    refine w_ldc2 ok (hw _ (List.mem_of_getElem? (i := 27) rfl)) d0_409 ?_
    refine w_lastore' ok (i := 15) V_b11 (Nat.le_of_ble_eq_true rfl) (Nat.le_of_ble_eq_true rfl) gn_b11 d0_412 (fun h27 W27 V_b11 => ?_)
    have Z0 := Nat.le_trans Z0 (Keep.of_wr W27).1
    replace V_b11 : Ary Z h27 b11 .long [(.long (1 : Int64)), (.long (10 : Int64)), (.long (100 : Int64)), (.long (1000 : Int64)), (.long (10000 : Int64)), (.long (100000 : Int64)), (.long (1000000 : Int64)), (.long (10000000 : Int64)), (.long (100000000 : Int64)), (.long (1000000000 : Int64)), (.long (10000000000 : Int64)), (.long (100000000000 : Int64)), (.long (1000000000000 : Int64)), (.long (10000000000000 : Int64)), (.long (100000000000000 : Int64)), (.long (1000000000000000 : Int64)), (.long (0 : Int64)), (.long (0 : Int64))] := V_b11
    refine w_dup ok d0_413 rfl ?_
    refine w_bipush ok (z := 16) d0_414 rfl ?_
    refine w_ldc2 ok (hw _ (List.mem_of_getElem? (i := 28) rfl)) d0_416 ?_
    refine w_lastore' ok (i := 16) V_b11 (Nat.le_of_ble_eq_true rfl) (Nat.le_of_ble_eq_true rfl) gn_b11 d0_419 (fun h28 W28 V_b11 => ?_)
    have Z0 := Nat.le_trans Z0 (Keep.of_wr W28).1
    replace V_b11 : Ary Z h28 b11 .long [(.long (1 : Int64)), (.long (10 : Int64)), (.long (100 : Int64)), (.long (1000 : Int64)), (.long (10000 : Int64)), (.long (100000 : Int64)), (.long (1000000 : Int64)), (.long (10000000 : Int64)), (.long (100000000 : Int64)), (.long (1000000000 : Int64)), (.long (10000000000 : Int64)), (.long (100000000000 : Int64)), (.long (1000000000000 : Int64)), (.long (10000000000000 : Int64)), (.long (100000000000000 : Int64)), (.long (1000000000000000 : Int64)), (.long (10000000000000000 : Int64)), (.long (0 : Int64))] := V_b11
    refine w_dup ok d0_420 rfl ?_
    refine w_bipush ok (z := 17) d0_421 rfl ?_
    refine w_ldc2 ok (hw _ (List.mem_of_getElem? (i := 29) rfl)) d0_423 ?_
    refine w_lastore' ok (i := 17) V_b11 (Nat.le_of_ble_eq_true rfl) (Nat.le_of_ble_eq_true rfl) gn_b11 d0_426 (fun h29 W29 V_b11 => ?_)
    have Z0 := Nat.le_trans Z0 (Keep.of_wr W29).1
    replace V_b11 : Ary Z h29 b11 .long [(.long (1 : Int64)), (.long (10 : Int64)), (.long (100 : Int64)), (.long (1000 : Int64)), (.long (10000 : Int64)), (.long (100000 : Int64)), (.long (1000000 : Int64)), (.long (10000000 : Int64)), (.long (100000000 : Int64)), (.long (1000000000 : Int64)), (.long (10000000000 : Int64)), (.long (100000000000 : Int64)), (.long (1000000000000 : Int64)), (.long (10000000000000 : Int64)), (.long (100000000000000 : Int64)), (.long (1000000000000000 : Int64)), (.long (10000000000000000 : Int64)), (.long (100000000000000000 : Int64))] := V_b11
    refine w_astore ok (Ls' := #[.val (.int mode), .val (.int a), .val (.int b), .val (.int c), .val (.long xx), .second, .val (.int pos), .val (.int (5 : Int32)), .val (.int ba), .val (.int bb), .val (.int bc), .val (.ref b11), .unset, .unset, .unset, .unset, .unset, .unset, .unset, .unset, .unset, .unset]) d0_427 rfl rfl ?_
    refine w_lload ok d0_429 rfl ?_
    refine w_ldc2 ok (hw _ (List.mem_of_getElem? (i := 30) rfl)) d0_431 ?_
    refine w_land ok d0_434 ?_
    refine w_ldc2 ok (hw _ (List.mem_of_getElem? (i := 31) rfl)) d0_435 ?_
    refine w_lrem ok d0_438 (by decide) ?_
    obtain ⟨hB0, hB1⟩ := own_big xx
    generalize (xx &&& (9223372036854775807 : Int64)) % (1000000000000000000 : Int64) = big at hB0 hB1 ⊢
    show Wp l room_1 n0 K (fun v h' => ∃ w, v = some w ∧ w = .int 1) h29 1 18 439 #[.val (.int mode), .val (.int a), .val (.int b), .val (.int c), .val (.long xx), .second, .val (.int pos), .val (.int (5 : Int32)), .val (.int ba), .val (.int bb), .val (.int bc), .val (.ref b11), .unset, .unset, .unset, .unset, .unset, .unset, .unset, .unset, .unset, .unset] [(.long big)]
    refine w_lstore ok (Ls' := #[.val (.int mode), .val (.int a), .val (.int b), .val (.int c), .val (.long xx), .second, .val (.int pos), .val (.int (5 : Int32)), .val (.int ba), .val (.int bb), .val (.int bc), .val (.ref b11), .val (.long big), .second, .unset, .unset, .unset, .unset, .unset, .unset, .unset, .unset]) d0_439 rfl ?_
    refine w_iload ok d0_441 rfl ?_
    refine w_iconst ok (z := 5) d0_443 rfl ?_
    refine w_ic_ne ok d0_444 (fun q => absurd (by decide) q) (fun _ => ?_)
    refine w_bipush ok (z := 18) d0_447 rfl ?_
    refine w_newarray ok (cap := 18) (hw _ (List.mem_of_getElem? (i := 7) rfl)) d0_449 (by decide) (by decide) (by decide) (k' := 2) (n' := 36) rfl rfl (Nat.le_of_ble_eq_true rfl) (Nat.le_of_ble_eq_true rfl) (fun h30 b30 cA30 g30 E30 A30 => ?_)
    have ne_b11_b30 : b11 ≠ b30 := Nat.ne_of_lt (Nat.lt_of_lt_of_le V_b11.lt (Nat.le_of_eq g30.symm))
    have gn_b30 : n0 ≤ b30 := Nat.le_trans Z0 (Nat.le_of_eq g30.symm)
    have Z0 := Nat.le_trans Z0 E30.1
    have V_b11 := V_b11.ext E30
    have V_b30 : Ary Z h30 b30 .byte [(.int (0 : Int32)), (.int (0 : Int32)), (.int (0 : Int32)), (.int (0 : Int32)), (.int (0 : Int32)), (.int (0 : Int32)), (.int (0 : Int32)), (.int (0 : Int32)), (.int (0 : Int32)), (.int (0 : Int32)), (.int (0 : Int32)), (.int (0 : Int32)), (.int (0 : Int32)), (.int (0 : Int32)), (.int (0 : Int32)), (.int (0 : Int32)), (.int (0 : Int32)), (.int (0 : Int32))] := ary_new A30
    refine w_astore ok (Ls' := #[.val (.int mode), .val (.int a), .val (.int b), .val (.int c), .val (.long xx), .second, .val (.int pos), .val (.int (5 : Int32)), .val (.int ba), .val (.int bb), .val (.int bc), .val (.ref b11), .val (.long big), .second, .val (.ref b30), .unset, .unset, .unset, .unset, .unset, .unset, .unset]) d0_451 rfl rfl ?_
    refine w_aload ok d0_453 rfl rfl ?_
    refine w_lload ok d0_455 rfl ?_
    refine w_aload ok d0_457 rfl rfl ?_
    refine w_callSN ok (argsL := [(.ref b30), (.long big), (.ref b11)]) (rest := []) (hw _ (List.mem_of_getElem? (i := 32) rfl)) (hw _ (List.mem_of_getElem? (i := 33) rfl)) (hw _ (List.mem_of_getElem? (i := 10) rfl)) (hw _ (List.mem_of_getElem? (i := 34) rfl)) (by decide) (rmF l Z a0 hw n0 b30 b11 big _ h30 Z0 gn_b30 V_b30 V_b11 ne_b11_b30 (Nat.le_of_ble_eq_true rfl) (Nat.le_of_ble_eq_true rfl)) d0_459 (lenOf pd__ArBJArJ_V rfl) rfl rfl (Nat.le_of_ble_eq_true rfl) (Nat.le_of_ble_eq_true rfl) (k' := 2) (n' := 36) rfl rfl (Nat.le_of_ble_eq_true rfl) (Nat.le_of_ble_eq_true rfl) ?_
    rintro hf ⟨Kc, V_b30, V_b11⟩
    have Z0 := Nat.le_trans Z0 Kc.1
    replace V_b30 : Ary Z hf b30 .byte (own_by (own_digs big)) := V_b30.cast (List.append_nil _)
    refine w_iload ok d0_462 rfl ?_
    refine w_ldc ok (hw _ (List.mem_of_getElem? (i := 0) rfl)) d0_464 ?_
    refine w_iand ok d0_466 ?_
    refine w_bipush ok (z := 18) d0_467 rfl ?_
    refine w_irem ok d0_469 (by decide) ?_
    refine w_istore ok (Ls' := #[.val (.int mode), .val (.int a), .val (.int b), .val (.int c), .val (.long xx), .second, .val (.int pos), .val (.int (5 : Int32)), .val (.int ba), .val (.int bb), .val (.int bc), .val (.ref b11), .val (.long big), .second, .val (.ref b30), .val (.int ((pos &&& (2147483647 : Int32)) % (18 : Int32))), .unset, .unset, .unset, .unset, .unset, .unset]) d0_470 rfl ?_
    obtain ⟨k, hk, ek⟩ := own_mod pos (m := 18) (by decide) (by decide)
    replace ek : (pos &&& (2147483647 : Int32)) % (18 : Int32) = Int32.ofNat k := ek
    rw [ek]
    show Wp l room_1 n0 K (fun v h' => ∃ w, v = some w ∧ w = .int 1) hf 2 36 472 #[.val (.int mode), .val (.int a), .val (.int b), .val (.int c), .val (.long xx), .second, .val (.int pos), .val (.int (5 : Int32)), .val (.int ba), .val (.int bb), .val (.int bc), .val (.ref b11), .val (.long big), .second, .val (.ref b30), .val (.int (Int32.ofNat k)), .unset, .unset, .unset, .unset, .unset, .unset] []
    refine w_aload ok d0_472 rfl rfl ?_
    refine w_iload ok d0_474 rfl ?_
    refine w_iload ok d0_476 rfl ?_
    refine w_bastoreB' ok (i := k) V_b30 (Nat.le_of_ble_eq_true rfl) hk gn_b30 d0_478 (fun h31 W31 V_b30 => ?_)
    have V_b11 := V_b11.other W31 ne_b11_b30
    have Z0 := Nat.le_trans Z0 (Keep.of_wr W31).1
    replace V_b30 : Ary Z h31 b30 .byte (own_by ((own_digs big).set k ba)) := by
      rw [na] at V_b30
      exact V_b30.cast (List.map_set ..).symm
    refine w_aload ok d0_479 rfl rfl ?_
    refine w_bipush ok (z := 17) d0_481 rfl ?_
    refine w_iload ok d0_483 rfl ?_
    refine w_isub ok d0_485 ?_
    refine w_int (b := Int32.ofNat (17 - k)) (own_sub17 ⟨k, hk⟩) ?_
    refine w_laload ok (i := 17 - k) V_b11 (Nat.le_of_ble_eq_true rfl) (own_psat hk) d0_486 ?_
    refine w_lstore ok (Ls' := #[.val (.int mode), .val (.int a), .val (.int b), .val (.int c), .val (.long xx), .second, .val (.int pos), .val (.int (5 : Int32)), .val (.int ba), .val (.int bb), .val (.int bc), .val (.ref b11), .val (.long big), .second, .val (.ref b30), .val (.int (Int32.ofNat k)), .val (.long (own_ps.getD (17 - k) 0)), .second, .unset, .unset, .unset, .unset]) d0_487 rfl ?_
    refine w_lload ok d0_489 rfl ?_
    refine w_lload ok d0_491 rfl ?_
    refine w_ldiv ok d0_493 (own_pne hk) ?_
    refine w_ldc2 ok (hw _ (List.mem_of_getElem? (i := 13) rfl)) d0_494 ?_
    refine w_lrem ok d0_497 (by decide) ?_
    refine w_lstore ok (Ls' := #[.val (.int mode), .val (.int a), .val (.int b), .val (.int c), .val (.long xx), .second, .val (.int pos), .val (.int (5 : Int32)), .val (.int ba), .val (.int bb), .val (.int bc), .val (.ref b11), .val (.long big), .second, .val (.ref b30), .val (.int (Int32.ofNat k)), .val (.long (own_ps.getD (17 - k) 0)), .second, .val (.long ((big / (own_ps.getD (17 - k) 0)) % (10 : Int64))), .second, .unset, .unset]) d0_498 rfl ?_
    refine w_iload ok d0_500 rfl ?_
    refine w_callSV ok (argsL := [(.int ba)]) (rest := []) (hw _ (List.mem_of_getElem? (i := 8) rfl)) (hw _ (List.mem_of_getElem? (i := 9) rfl)) (hw _ (List.mem_of_getElem? (i := 10) rfl)) (hw _ (List.mem_of_getElem? (i := 11) rfl)) (by decide) (rmD l Z a0 hw n0 ba h31) d0_502 (lenOf pd__B_Z rfl) rfl rfl (Nat.le_of_ble_eq_true rfl) (Nat.le_of_ble_eq_true rfl) (k' := 2) (n' := 36) rfl rfl (Nat.le_of_ble_eq_true rfl) (Nat.le_of_ble_eq_true rfl) ?_
    rintro _ _ ⟨rfl, rfl⟩
    refine w_if_eq ok d0_505 (fun r0 => ?_) (fun r0 => ?_)
    · refine w_ldc2 ok (hw _ (List.mem_of_getElem? (i := 6) rfl)) d0_529 ?_
      refine w_lstore ok (Ls' := #[.val (.int mode), .val (.int a), .val (.int b), .val (.int c), .val (.long xx), .second, .val (.int pos), .val (.int (5 : Int32)), .val (.int ba), .val (.int bb), .val (.int bc), .val (.ref b11), .val (.long big), .second, .val (.ref b30), .val (.int (Int32.ofNat k)), .val (.long (own_ps.getD (17 - k) 0)), .second, .val (.long ((big / (own_ps.getD (17 - k) 0)) % (10 : Int64))), .second, .val (.long (-1 : Int64)), .second]) d0_532 rfl ?_
      refine w_aload ok d0_534 rfl rfl ?_
      refine w_callSV ok (argsL := [(.ref b30)]) (rest := []) (hw _ (List.mem_of_getElem? (i := 1) rfl)) (hw _ (List.mem_of_getElem? (i := 2) rfl)) (hw _ (List.mem_of_getElem? (i := 3) rfl)) (hw _ (List.mem_of_getElem? (i := 4) rfl)) (by decide) (rmNum l Z a0 hw n0 b30 _ h31 V_b30 (Nat.le_of_lt_succ (by rw [List.length_set]; exact Nat.le_of_ble_eq_true rfl))) d0_536 (lenOf pd__ArB_J rfl) rfl rfl (Nat.le_of_ble_eq_true rfl) (Nat.le_of_ble_eq_true rfl) (k' := 2) (n' := 36) rfl rfl (Nat.le_of_ble_eq_true rfl) (Nat.le_of_ble_eq_true rfl) ?_
      rintro _ _ ⟨rfl, rfl⟩
      refine w_lload ok d0_539 rfl ?_
      refine w_lc_ne ok d0_541 d0_542 (fun q9 => ?_) (fun q9 => ?_)
      · exact absurd (own_five_no hk r0) q9
      · refine w_iconst ok (z := 1) d0_545 rfl ?_
        refine w_goto ok d0_546 ?_
        refine w_ireturnN ok (by simp) d0_550 (Nat.le_of_ble_eq_true rfl) (Nat.le_of_ble_eq_true rfl) ?_
        exact ⟨_, rfl, rfl⟩
    · refine w_lload ok d0_508 rfl ?_
      refine w_lload ok d0_510 rfl ?_
      refine w_lload ok d0_512 rfl ?_
      refine w_lmul ok d0_514 ?_
      refine w_lsub ok d0_515 ?_
      refine w_iload ok d0_516 rfl ?_
      refine w_bipush ok (z := 48) d0_518 rfl ?_
      refine w_isub ok d0_520 ?_
      refine w_i2l ok d0_521 ?_
      refine w_lload ok d0_522 rfl ?_
      refine w_lmul ok d0_524 ?_
      refine w_ladd ok d0_525 ?_
      refine w_goto ok d0_526 ?_
      refine w_lstore ok (Ls' := #[.val (.int mode), .val (.int a), .val (.int b), .val (.int c), .val (.long xx), .second, .val (.int pos), .val (.int (5 : Int32)), .val (.int ba), .val (.int bb), .val (.int bc), .val (.ref b11), .val (.long big), .second, .val (.ref b30), .val (.int (Int32.ofNat k)), .val (.long (own_ps.getD (17 - k) 0)), .second, .val (.long ((big / (own_ps.getD (17 - k) 0)) % (10 : Int64))), .second, .val (.long ((big - (((big / (own_ps.getD (17 - k) 0)) % (10 : Int64)) * (own_ps.getD (17 - k) 0))) + (((ba - (48 : Int32)).toInt64) * (own_ps.getD (17 - k) 0)))), .second]) d0_532 rfl ?_
      refine w_aload ok d0_534 rfl rfl ?_
      refine w_callSV ok (argsL := [(.ref b30)]) (rest := []) (hw _ (List.mem_of_getElem? (i := 1) rfl)) (hw _ (List.mem_of_getElem? (i := 2) rfl)) (hw _ (List.mem_of_getElem? (i := 3) rfl)) (hw _ (List.mem_of_getElem? (i := 4) rfl)) (by decide) (rmNum l Z a0 hw n0 b30 _ h31 V_b30 (Nat.le_of_lt_succ (by rw [List.length_set]; exact Nat.le_of_ble_eq_true rfl))) d0_536 (lenOf pd__ArB_J rfl) rfl rfl (Nat.le_of_ble_eq_true rfl) (Nat.le_of_ble_eq_true rfl) (k' := 2) (n' := 36) rfl rfl (Nat.le_of_ble_eq_true rfl) (Nat.le_of_ble_eq_true rfl) ?_
      rintro _ _ ⟨rfl, rfl⟩
      refine w_lload ok d0_539 rfl ?_
      refine w_lc_ne ok d0_541 d0_542 (fun q9 => ?_) (fun q9 => ?_)
      · exact absurd (own_five hB0 hB1 hk r0) q9
      · refine w_iconst ok (z := 1) d0_545 rfl ?_
        refine w_goto ok d0_546 ?_
        refine w_ireturnN ok (by simp) d0_550 (Nat.le_of_ble_eq_true rfl) (Nat.le_of_ble_eq_true rfl) ?_
        exact ⟨_, rfl, rfl⟩
  · show Wp l room_1 n0 K (fun v h' => ∃ w, v = some w ∧ w = .int 1) h 0 0 9 #[.val (.int mode), .val (.int a), .val (.int b), .val (.int c), .val (.long xx), .second, .val (.int pos), .val (.int (6 : Int32)), .unset, .unset, .unset, .unset, .unset, .unset, .unset, .unset, .unset, .unset, .unset, .unset, .unset, .unset] []
    refine w_iload ok d0_9 rfl ?_
    refine w_if_ne ok d0_11 (fun _ => ?_) (fun q => absurd q (by decide))
    refine w_iload ok d0_31 rfl ?_
    refine w_iconst ok (z := 1) d0_33 rfl ?_
    refine w_ic_ne ok d0_34 (fun _ => ?_) (fun q => absurd q (by decide))
    refine w_iloadN ok d0_56 rfl ?_
    refine w_i2b ok d0_57 ?_
    refine w_istore ok (Ls' := #[.val (.int mode), .val (.int a), .val (.int b), .val (.int c), .val (.long xx), .second, .val (.int pos), .val (.int (6 : Int32)), .val (.int (a.toInt8.toInt32)), .unset, .unset, .unset, .unset, .unset, .unset, .unset, .unset, .unset, .unset, .unset, .unset, .unset]) d0_58 rfl ?_
    refine w_iloadN ok d0_60 rfl ?_
    refine w_i2b ok d0_61 ?_
    refine w_istore ok (Ls' := #[.val (.int mode), .val (.int a), .val (.int b), .val (.int c), .val (.long xx), .second, .val (.int pos), .val (.int (6 : Int32)), .val (.int (a.toInt8.toInt32)), .val (.int (b.toInt8.toInt32)), .unset, .unset, .unset, .unset, .unset, .unset, .unset, .unset, .unset, .unset, .unset, .unset]) d0_62 rfl ?_
    refine w_iloadN ok d0_64 rfl ?_
    refine w_i2b ok d0_65 ?_
    refine w_istore ok (Ls' := #[.val (.int mode), .val (.int a), .val (.int b), .val (.int c), .val (.long xx), .second, .val (.int pos), .val (.int (6 : Int32)), .val (.int (a.toInt8.toInt32)), .val (.int (b.toInt8.toInt32)), .val (.int (c.toInt8.toInt32)), .unset, .unset, .unset, .unset, .unset, .unset, .unset, .unset, .unset, .unset, .unset]) d0_66 rfl ?_
    obtain ⟨ba, hba, na⟩ : ∃ b, b = a.toInt8.toInt32 ∧ nar .byte b = b := ⟨_, rfl, own_byte2 a⟩
    obtain ⟨bb, hbb, nb⟩ : ∃ z, z = b.toInt8.toInt32 ∧ nar .byte z = z := ⟨_, rfl, own_byte2 b⟩
    obtain ⟨bc, hbc, nc⟩ : ∃ z, z = c.toInt8.toInt32 ∧ nar .byte z = z := ⟨_, rfl, own_byte2 c⟩
    rw [← hba, ← hbb, ← hbc]
    show Wp l room_1 n0 K (fun v h' => ∃ w, v = some w ∧ w = .int 1) h 0 0 68 #[.val (.int mode), .val (.int a), .val (.int b), .val (.int c), .val (.long xx), .second, .val (.int pos), .val (.int (6 : Int32)), .val (.int ba), .val (.int bb), .val (.int bc), .unset, .unset, .unset, .unset, .unset, .unset, .unset, .unset, .unset, .unset, .unset] []
    refine w_iload ok d0_68 rfl ?_
    refine w_iconst ok (z := 2) d0_70 rfl ?_
    refine w_ic_ne ok d0_71 (fun _ => ?_) (fun q => absurd q (by decide))
    refine w_iload ok d0_123 rfl ?_
    refine w_iconst ok (z := 3) d0_125 rfl ?_
    refine w_ic_ne ok d0_126 (fun _ => ?_) (fun q => absurd q (by decide))
    refine w_iload ok d0_202 rfl ?_
    refine w_iconst ok (z := 4) d0_204 rfl ?_
    refine w_ic_ne ok d0_205 (fun _ => ?_) (fun q => absurd q (by decide))
    refine w_bipush ok (z := 18) d0_305 rfl ?_
    refine w_newarray ok (cap := 18) (hw _ (List.mem_of_getElem? (i := 12) rfl)) d0_307 (by decide) (by decide) (by decide) (k' := 1) (n' := 18) rfl rfl (Nat.le_of_ble_eq_true rfl) (Nat.le_of_ble_eq_true rfl) (fun h32 b32 cA32 g32 E32 A32 => ?_)
    have gn_b32 : n0 ≤ b32 := Nat.le_trans Z0 (Nat.le_of_eq g32.symm)
    have Z0 := Nat.le_trans Z0 E32.1
    have V_b32 : Ary Z h32 b32 .long [(.long (0 : Int64)), (.long (0 : Int64)), (.long (0 : Int64)), (.long (0 : Int64)), (.long (0 : Int64)), (.long (0 : Int64)), (.long (0 : Int64)), (.long (0 : Int64)), (.long (0 : Int64)), (.long (0 : Int64)), (.long (0 : Int64)), (.long (0 : Int64)), (.long (0 : Int64)), (.long (0 : Int64)), (.long (0 : Int64)), (.long (0 : Int64)), (.long (0 : Int64)), (.long (0 : Int64))] := ary_new A32
    refine w_dup ok d0_309 rfl ?_
    refine w_iconst ok (z := 0) d0_310 rfl ?_
    refine w_lconst ok (z := 1) d0_311 rfl ?_
    refine w_lastore' ok (i := 0) V_b32 (Nat.le_of_ble_eq_true rfl) (Nat.le_of_ble_eq_true rfl) gn_b32 d0_312 (fun h33 W33 V_b32 => ?_)
    have Z0 := Nat.le_trans Z0 (Keep.of_wr W33).1
    replace V_b32 : Ary Z h33 b32 .long [(.long (1 : Int64)), (.long (0 : Int64)), (.long (0 : Int64)), (.long (0 : Int64)), (.long (0 : Int64)), (.long (0 : Int64)), (.long (0 : Int64)), (.long (0 : Int64)), (.long (0 : Int64)), (.long (0 : Int64)), (.long (0 : Int64)), (.long (0 : Int64)), (.long (0 : Int64)), (.long (0 : Int64)), (.long (0 : Int64)), (.long (0 : Int64)), (.long (0 : Int64)), (.long (0 : Int64))] := V_b32
    refine w_dup ok d0_313 rfl ?_
    refine w_iconst ok (z := 1) d0_314 rfl ?_
    refine w_ldc2 ok (hw _ (List.mem_of_getElem? (i := 13) rfl)) d0_315 ?_
    refine w_lastore' ok (i := 1) V_b32 (Nat.le_of_ble_eq_true rfl) (Nat.le_of_ble_eq_true rfl) gn_b32 d0_318 (fun h34 W34 V_b32 => ?_)
    have Z0 := Nat.le_trans Z0 (Keep.of_wr W34).1
    replace V_b32 : Ary Z h34 b32 .long [(.long (1 : Int64)), (.long (10 : Int64)), (.long (0 : Int64)), (.long (0 : Int64)), (.long (0 : Int64)), (.long (0 : Int64)), (.long (0 : Int64)), (.long (0 : Int64)), (.long (0 : Int64)), (.long (0 : Int64)), (.long (0 : Int64)), (.long (0 : Int64)), (.long (0 : Int64)), (.long (0 : Int64)), (.long (0 : Int64)), (.long (0 : Int64)), (.long (0 : Int64)), (.long (0 : Int64))] := V_b32
    refine w_dup ok d0_319 rfl ?_
    refine w_iconst ok (z := 2) d0_320 rfl ?_
    refine w_ldc2 ok (hw _ (List.mem_of_getElem? (i := 14) rfl)) d0_321 ?_
    refine w_lastore' ok (i := 2) V_b32 (Nat.le_of_ble_eq_true rfl) (Nat.le_of_ble_eq_true rfl) gn_b32 d0_324 (fun h35 W35 V_b32 => ?_)
    have Z0 := Nat.le_trans Z0 (Keep.of_wr W35).1
    replace V_b32 : Ary Z h35 b32 .long [(.long (1 : Int64)), (.long (10 : Int64)), (.long (100 : Int64)), (.long (0 : Int64)), (.long (0 : Int64)), (.long (0 : Int64)), (.long (0 : Int64)), (.long (0 : Int64)), (.long (0 : Int64)), (.long (0 : Int64)), (.long (0 : Int64)), (.long (0 : Int64)), (.long (0 : Int64)), (.long (0 : Int64)), (.long (0 : Int64)), (.long (0 : Int64)), (.long (0 : Int64)), (.long (0 : Int64))] := V_b32
    refine w_dup ok d0_325 rfl ?_
    refine w_iconst ok (z := 3) d0_326 rfl ?_
    refine w_ldc2 ok (hw _ (List.mem_of_getElem? (i := 15) rfl)) d0_327 ?_
    refine w_lastore' ok (i := 3) V_b32 (Nat.le_of_ble_eq_true rfl) (Nat.le_of_ble_eq_true rfl) gn_b32 d0_330 (fun h36 W36 V_b32 => ?_)
    have Z0 := Nat.le_trans Z0 (Keep.of_wr W36).1
    replace V_b32 : Ary Z h36 b32 .long [(.long (1 : Int64)), (.long (10 : Int64)), (.long (100 : Int64)), (.long (1000 : Int64)), (.long (0 : Int64)), (.long (0 : Int64)), (.long (0 : Int64)), (.long (0 : Int64)), (.long (0 : Int64)), (.long (0 : Int64)), (.long (0 : Int64)), (.long (0 : Int64)), (.long (0 : Int64)), (.long (0 : Int64)), (.long (0 : Int64)), (.long (0 : Int64)), (.long (0 : Int64)), (.long (0 : Int64))] := V_b32
    refine w_dup ok d0_331 rfl ?_
    refine w_iconst ok (z := 4) d0_332 rfl ?_
    refine w_ldc2 ok (hw _ (List.mem_of_getElem? (i := 16) rfl)) d0_333 ?_
    refine w_lastore' ok (i := 4) V_b32 (Nat.le_of_ble_eq_true rfl) (Nat.le_of_ble_eq_true rfl) gn_b32 d0_336 (fun h37 W37 V_b32 => ?_)
    have Z0 := Nat.le_trans Z0 (Keep.of_wr W37).1
    replace V_b32 : Ary Z h37 b32 .long [(.long (1 : Int64)), (.long (10 : Int64)), (.long (100 : Int64)), (.long (1000 : Int64)), (.long (10000 : Int64)), (.long (0 : Int64)), (.long (0 : Int64)), (.long (0 : Int64)), (.long (0 : Int64)), (.long (0 : Int64)), (.long (0 : Int64)), (.long (0 : Int64)), (.long (0 : Int64)), (.long (0 : Int64)), (.long (0 : Int64)), (.long (0 : Int64)), (.long (0 : Int64)), (.long (0 : Int64))] := V_b32
    refine w_dup ok d0_337 rfl ?_
    refine w_iconst ok (z := 5) d0_338 rfl ?_
    refine w_ldc2 ok (hw _ (List.mem_of_getElem? (i := 17) rfl)) d0_339 ?_
    refine w_lastore' ok (i := 5) V_b32 (Nat.le_of_ble_eq_true rfl) (Nat.le_of_ble_eq_true rfl) gn_b32 d0_342 (fun h38 W38 V_b32 => ?_)
    have Z0 := Nat.le_trans Z0 (Keep.of_wr W38).1
    replace V_b32 : Ary Z h38 b32 .long [(.long (1 : Int64)), (.long (10 : Int64)), (.long (100 : Int64)), (.long (1000 : Int64)), (.long (10000 : Int64)), (.long (100000 : Int64)), (.long (0 : Int64)), (.long (0 : Int64)), (.long (0 : Int64)), (.long (0 : Int64)), (.long (0 : Int64)), (.long (0 : Int64)), (.long (0 : Int64)), (.long (0 : Int64)), (.long (0 : Int64)), (.long (0 : Int64)), (.long (0 : Int64)), (.long (0 : Int64))] := V_b32
    refine w_dup ok d0_343 rfl ?_
    refine w_bipush ok (z := 6) d0_344 rfl ?_
    refine w_ldc2 ok (hw _ (List.mem_of_getElem? (i := 18) rfl)) d0_346 ?_
    refine w_lastore' ok (i := 6) V_b32 (Nat.le_of_ble_eq_true rfl) (Nat.le_of_ble_eq_true rfl) gn_b32 d0_349 (fun h39 W39 V_b32 => ?_)
    have Z0 := Nat.le_trans Z0 (Keep.of_wr W39).1
    replace V_b32 : Ary Z h39 b32 .long [(.long (1 : Int64)), (.long (10 : Int64)), (.long (100 : Int64)), (.long (1000 : Int64)), (.long (10000 : Int64)), (.long (100000 : Int64)), (.long (1000000 : Int64)), (.long (0 : Int64)), (.long (0 : Int64)), (.long (0 : Int64)), (.long (0 : Int64)), (.long (0 : Int64)), (.long (0 : Int64)), (.long (0 : Int64)), (.long (0 : Int64)), (.long (0 : Int64)), (.long (0 : Int64)), (.long (0 : Int64))] := V_b32
    refine w_dup ok d0_350 rfl ?_
    refine w_bipush ok (z := 7) d0_351 rfl ?_
    refine w_ldc2 ok (hw _ (List.mem_of_getElem? (i := 19) rfl)) d0_353 ?_
    refine w_lastore' ok (i := 7) V_b32 (Nat.le_of_ble_eq_true rfl) (Nat.le_of_ble_eq_true rfl) gn_b32 d0_356 (fun h40 W40 V_b32 => ?_)
    have Z0 := Nat.le_trans Z0 (Keep.of_wr W40).1
    replace V_b32 : Ary Z h40 b32 .long [(.long (1 : Int64)), (.long (10 : Int64)), (.long (100 : Int64)), (.long (1000 : Int64)), (.long (10000 : Int64)), (.long (100000 : Int64)), (.long (1000000 : Int64)), (.long (10000000 : Int64)), (.long (0 : Int64)), (.long (0 : Int64)), (.long (0 : Int64)), (.long (0 : Int64)), (.long (0 : Int64)), (.long (0 : Int64)), (.long (0 : Int64)), (.long (0 : Int64)), (.long (0 : Int64)), (.long (0 : Int64))] := V_b32
    refine w_dup ok d0_357 rfl ?_
    refine w_bipush ok (z := 8) d0_358 rfl ?_
    refine w_ldc2 ok (hw _ (List.mem_of_getElem? (i := 20) rfl)) d0_360 ?_
    refine w_lastore' ok (i := 8) V_b32 (Nat.le_of_ble_eq_true rfl) (Nat.le_of_ble_eq_true rfl) gn_b32 d0_363 (fun h41 W41 V_b32 => ?_)
    have Z0 := Nat.le_trans Z0 (Keep.of_wr W41).1
    replace V_b32 : Ary Z h41 b32 .long [(.long (1 : Int64)), (.long (10 : Int64)), (.long (100 : Int64)), (.long (1000 : Int64)), (.long (10000 : Int64)), (.long (100000 : Int64)), (.long (1000000 : Int64)), (.long (10000000 : Int64)), (.long (100000000 : Int64)), (.long (0 : Int64)), (.long (0 : Int64)), (.long (0 : Int64)), (.long (0 : Int64)), (.long (0 : Int64)), (.long (0 : Int64)), (.long (0 : Int64)), (.long (0 : Int64)), (.long (0 : Int64))] := V_b32
    refine w_dup ok d0_364 rfl ?_
    refine w_bipush ok (z := 9) d0_365 rfl ?_
    refine w_ldc2 ok (hw _ (List.mem_of_getElem? (i := 21) rfl)) d0_367 ?_
    refine w_lastore' ok (i := 9) V_b32 (Nat.le_of_ble_eq_true rfl) (Nat.le_of_ble_eq_true rfl) gn_b32 d0_370 (fun h42 W42 V_b32 => ?_)
    have Z0 := Nat.le_trans Z0 (Keep.of_wr W42).1
    replace V_b32 : Ary Z h42 b32 .long [(.long (1 : Int64)), (.long (10 : Int64)), (.long (100 : Int64)), (.long (1000 : Int64)), (.long (10000 : Int64)), (.long (100000 : Int64)), (.long (1000000 : Int64)), (.long (10000000 : Int64)), (.long (100000000 : Int64)), (.long (1000000000 : Int64)), (.long (0 : Int64)), (.long (0 : Int64)), (.long (0 : Int64)), (.long (0 : Int64)), (.long (0 : Int64)), (.long (0 : Int64)), (.long (0 : Int64)), (.long (0 : Int64))] := V_b32
    refine w_dup ok d0_371 rfl ?_
    refine w_bipush ok (z := 10) d0_372 rfl ?_
    refine w_ldc2 ok (hw _ (List.mem_of_getElem? (i := 22) rfl)) d0_374 ?_
    refine w_lastore' ok (i := 10) V_b32 (Nat.le_of_ble_eq_true rfl) (Nat.le_of_ble_eq_true rfl) gn_b32 d0_377 (fun h43 W43 V_b32 => ?_)
    have Z0 := Nat.le_trans Z0 (Keep.of_wr W43).1
    replace V_b32 : Ary Z h43 b32 .long [(.long (1 : Int64)), (.long (10 : Int64)), (.long (100 : Int64)), (.long (1000 : Int64)), (.long (10000 : Int64)), (.long (100000 : Int64)), (.long (1000000 : Int64)), (.long (10000000 : Int64)), (.long (100000000 : Int64)), (.long (1000000000 : Int64)), (.long (10000000000 : Int64)), (.long (0 : Int64)), (.long (0 : Int64)), (.long (0 : Int64)), (.long (0 : Int64)), (.long (0 : Int64)), (.long (0 : Int64)), (.long (0 : Int64))] := V_b32
    refine w_dup ok d0_378 rfl ?_
    refine w_bipush ok (z := 11) d0_379 rfl ?_
    refine w_ldc2 ok (hw _ (List.mem_of_getElem? (i := 23) rfl)) d0_381 ?_
    refine w_lastore' ok (i := 11) V_b32 (Nat.le_of_ble_eq_true rfl) (Nat.le_of_ble_eq_true rfl) gn_b32 d0_384 (fun h44 W44 V_b32 => ?_)
    have Z0 := Nat.le_trans Z0 (Keep.of_wr W44).1
    replace V_b32 : Ary Z h44 b32 .long [(.long (1 : Int64)), (.long (10 : Int64)), (.long (100 : Int64)), (.long (1000 : Int64)), (.long (10000 : Int64)), (.long (100000 : Int64)), (.long (1000000 : Int64)), (.long (10000000 : Int64)), (.long (100000000 : Int64)), (.long (1000000000 : Int64)), (.long (10000000000 : Int64)), (.long (100000000000 : Int64)), (.long (0 : Int64)), (.long (0 : Int64)), (.long (0 : Int64)), (.long (0 : Int64)), (.long (0 : Int64)), (.long (0 : Int64))] := V_b32
    refine w_dup ok d0_385 rfl ?_
    refine w_bipush ok (z := 12) d0_386 rfl ?_
    refine w_ldc2 ok (hw _ (List.mem_of_getElem? (i := 24) rfl)) d0_388 ?_
    refine w_lastore' ok (i := 12) V_b32 (Nat.le_of_ble_eq_true rfl) (Nat.le_of_ble_eq_true rfl) gn_b32 d0_391 (fun h45 W45 V_b32 => ?_)
    have Z0 := Nat.le_trans Z0 (Keep.of_wr W45).1
    replace V_b32 : Ary Z h45 b32 .long [(.long (1 : Int64)), (.long (10 : Int64)), (.long (100 : Int64)), (.long (1000 : Int64)), (.long (10000 : Int64)), (.long (100000 : Int64)), (.long (1000000 : Int64)), (.long (10000000 : Int64)), (.long (100000000 : Int64)), (.long (1000000000 : Int64)), (.long (10000000000 : Int64)), (.long (100000000000 : Int64)), (.long (1000000000000 : Int64)), (.long (0 : Int64)), (.long (0 : Int64)), (.long (0 : Int64)), (.long (0 : Int64)), (.long (0 : Int64))] := V_b32
    refine w_dup ok d0_392 rfl ?_
    refine w_bipush ok (z := 13) d0_393 rfl ?_
    refine w_ldc2 ok (hw _ (List.mem_of_getElem? (i := 25) rfl)) d0_395 ?_
    refine w_lastore' ok (i := 13) V_b32 (Nat.le_of_ble_eq_true rfl) (Nat.le_of_ble_eq_true rfl) gn_b32 d0_398 (fun h46 W46 V_b32 => ?_)
    have Z0 := Nat.le_trans Z0 (Keep.of_wr W46).1
    replace V_b32 : Ary Z h46 b32 .long [(.long (1 : Int64)), (.long (10 : Int64)), (.long (100 : Int64)), (.long (1000 : Int64)), (.long (10000 : Int64)), (.long (100000 : Int64)), (.long (1000000 : Int64)), (.long (10000000 : Int64)), (.long (100000000 : Int64)), (.long (1000000000 : Int64)), (.long (10000000000 : Int64)), (.long (100000000000 : Int64)), (.long (1000000000000 : Int64)), (.long (10000000000000 : Int64)), (.long (0 : Int64)), (.long (0 : Int64)), (.long (0 : Int64)), (.long (0 : Int64))] := V_b32
    refine w_dup ok d0_399 rfl ?_
    refine w_bipush ok (z := 14) d0_400 rfl ?_
    refine w_ldc2 ok (hw _ (List.mem_of_getElem? (i := 26) rfl)) d0_402 ?_
    refine w_lastore' ok (i := 14) V_b32 (Nat.le_of_ble_eq_true rfl) (Nat.le_of_ble_eq_true rfl) gn_b32 d0_405 (fun h47 W47 V_b32 => ?_)
    have Z0 := Nat.le_trans Z0 (Keep.of_wr W47).1
    replace V_b32 : Ary Z h47 b32 .long [(.long (1 : Int64)), (.long (10 : Int64)), (.long (100 : Int64)), (.long (1000 : Int64)), (.long (10000 : Int64)), (.long (100000 : Int64)), (.long (1000000 : Int64)), (.long (10000000 : Int64)), (.long (100000000 : Int64)), (.long (1000000000 : Int64)), (.long (10000000000 : Int64)), (.long (100000000000 : Int64)), (.long (1000000000000 : Int64)), (.long (10000000000000 : Int64)), (.long (100000000000000 : Int64)), (.long (0 : Int64)), (.long (0 : Int64)), (.long (0 : Int64))] := V_b32
    refine w_dup ok d0_406 rfl ?_
    refine w_bipush ok (z := 15) d0_407 rfl ?_
    refine w_ldc2 ok (hw _ (List.mem_of_getElem? (i := 27) rfl)) d0_409 ?_
    refine w_lastore' ok (i := 15) V_b32 (Nat.le_of_ble_eq_true rfl) (Nat.le_of_ble_eq_true rfl) gn_b32 d0_412 (fun h48 W48 V_b32 => ?_)
    have Z0 := Nat.le_trans Z0 (Keep.of_wr W48).1
    replace V_b32 : Ary Z h48 b32 .long [(.long (1 : Int64)), (.long (10 : Int64)), (.long (100 : Int64)), (.long (1000 : Int64)), (.long (10000 : Int64)), (.long (100000 : Int64)), (.long (1000000 : Int64)), (.long (10000000 : Int64)), (.long (100000000 : Int64)), (.long (1000000000 : Int64)), (.long (10000000000 : Int64)), (.long (100000000000 : Int64)), (.long (1000000000000 : Int64)), (.long (10000000000000 : Int64)), (.long (100000000000000 : Int64)), (.long (1000000000000000 : Int64)), (.long (0 : Int64)), (.long (0 : Int64))] := V_b32
    refine w_dup ok d0_413 rfl ?_
    refine w_bipush ok (z := 16) d0_414 rfl ?_
    refine w_ldc2 ok (hw _ (List.mem_of_getElem? (i := 28) rfl)) d0_416 ?_
    refine w_lastore' ok (i := 16) V_b32 (Nat.le_of_ble_eq_true rfl) (Nat.le_of_ble_eq_true rfl) gn_b32 d0_419 (fun h49 W49 V_b32 => ?_)
    have Z0 := Nat.le_trans Z0 (Keep.of_wr W49).1
    replace V_b32 : Ary Z h49 b32 .long [(.long (1 : Int64)), (.long (10 : Int64)), (.long (100 : Int64)), (.long (1000 : Int64)), (.long (10000 : Int64)), (.long (100000 : Int64)), (.long (1000000 : Int64)), (.long (10000000 : Int64)), (.long (100000000 : Int64)), (.long (1000000000 : Int64)), (.long (10000000000 : Int64)), (.long (100000000000 : Int64)), (.long (1000000000000 : Int64)), (.long (10000000000000 : Int64)), (.long (100000000000000 : Int64)), (.long (1000000000000000 : Int64)), (.long (10000000000000000 : Int64)), (.long (0 : Int64))] := V_b32
    refine w_dup ok d0_420 rfl ?_
    refine w_bipush ok (z := 17) d0_421 rfl ?_
    refine w_ldc2 ok (hw _ (List.mem_of_getElem? (i := 29) rfl)) d0_423 ?_
    refine w_lastore' ok (i := 17) V_b32 (Nat.le_of_ble_eq_true rfl) (Nat.le_of_ble_eq_true rfl) gn_b32 d0_426 (fun h50 W50 V_b32 => ?_)
    have Z0 := Nat.le_trans Z0 (Keep.of_wr W50).1
    replace V_b32 : Ary Z h50 b32 .long [(.long (1 : Int64)), (.long (10 : Int64)), (.long (100 : Int64)), (.long (1000 : Int64)), (.long (10000 : Int64)), (.long (100000 : Int64)), (.long (1000000 : Int64)), (.long (10000000 : Int64)), (.long (100000000 : Int64)), (.long (1000000000 : Int64)), (.long (10000000000 : Int64)), (.long (100000000000 : Int64)), (.long (1000000000000 : Int64)), (.long (10000000000000 : Int64)), (.long (100000000000000 : Int64)), (.long (1000000000000000 : Int64)), (.long (10000000000000000 : Int64)), (.long (100000000000000000 : Int64))] := V_b32
    refine w_astore ok (Ls' := #[.val (.int mode), .val (.int a), .val (.int b), .val (.int c), .val (.long xx), .second, .val (.int pos), .val (.int (6 : Int32)), .val (.int ba), .val (.int bb), .val (.int bc), .val (.ref b32), .unset, .unset, .unset, .unset, .unset, .unset, .unset, .unset, .unset, .unset]) d0_427 rfl rfl ?_
    refine w_lload ok d0_429 rfl ?_
    refine w_ldc2 ok (hw _ (List.mem_of_getElem? (i := 30) rfl)) d0_431 ?_
    refine w_land ok d0_434 ?_
    refine w_ldc2 ok (hw _ (List.mem_of_getElem? (i := 31) rfl)) d0_435 ?_
    refine w_lrem ok d0_438 (by decide) ?_
    obtain ⟨hB0, hB1⟩ := own_big xx
    generalize (xx &&& (9223372036854775807 : Int64)) % (1000000000000000000 : Int64) = big at hB0 hB1 ⊢
    show Wp l room_1 n0 K (fun v h' => ∃ w, v = some w ∧ w = .int 1) h50 1 18 439 #[.val (.int mode), .val (.int a), .val (.int b), .val (.int c), .val (.long xx), .second, .val (.int pos), .val (.int (6 : Int32)), .val (.int ba), .val (.int bb), .val (.int bc), .val (.ref b32), .unset, .unset, .unset, .unset, .unset, .unset, .unset, .unset, .unset, .unset] [(.long big)]
    refine w_lstore ok (Ls' := #[.val (.int mode), .val (.int a), .val (.int b), .val (.int c), .val (.long xx), .second, .val (.int pos), .val (.int (6 : Int32)), .val (.int ba), .val (.int bb), .val (.int bc), .val (.ref b32), .val (.long big), .second, .unset, .unset, .unset, .unset, .unset, .unset, .unset, .unset]) d0_439 rfl ?_
    refine w_iload ok d0_441 rfl ?_
    refine w_iconst ok (z := 5) d0_443 rfl ?_
    refine w_ic_ne ok d0_444 (fun _ => ?_) (fun q => absurd q (by decide))
    refine w_bipush ok (z := 19) d0_551 rfl ?_
    refine w_newarray ok (cap := 19) (hw _ (List.mem_of_getElem? (i := 7) rfl)) d0_553 (by decide) (by decide) (by decide) (k' := 2) (n' := 37) rfl rfl (Nat.le_of_ble_eq_true rfl) (Nat.le_of_ble_eq_true rfl) (fun h51 b51 cA51 g51 E51 A51 => ?_)
    have ne_b32_b51 : b32 ≠ b51 := Nat.ne_of_lt (Nat.lt_of_lt_of_le V_b32.lt (Nat.le_of_eq g51.symm))
    have gn_b51 : n0 ≤ b51 := Nat.le_trans Z0 (Nat.le_of_eq g51.symm)
    have Z0 := Nat.le_trans Z0 E51.1
    have V_b32 := V_b32.ext E51
    have V_b51 : Ary Z h51 b51 .byte [(.int (0 : Int32)), (.int (0 : Int32)), (.int (0 : Int32)), (.int (0 : Int32)), (.int (0 : Int32)), (.int (0 : Int32)), (.int (0 : Int32)), (.int (0 : Int32)), (.int (0 : Int32)), (.int (0 : Int32)), (.int (0 : Int32)), (.int (0 : Int32)), (.int (0 : Int32)), (.int (0 : Int32)), (.int (0 : Int32)), (.int (0 : Int32)), (.int (0 : Int32)), (.int (0 : Int32)), (.int (0 : Int32))] := ary_new A51
    refine w_astore ok (Ls' := #[.val (.int mode), .val (.int a), .val (.int b), .val (.int c), .val (.long xx), .second, .val (.int pos), .val (.int (6 : Int32)), .val (.int ba), .val (.int bb), .val (.int bc), .val (.ref b32), .val (.long big), .second, .val (.ref b51), .unset, .unset, .unset, .unset, .unset, .unset, .unset]) d0_555 rfl rfl ?_
    refine w_aload ok d0_557 rfl rfl ?_
    refine w_lload ok d0_559 rfl ?_
    refine w_aload ok d0_561 rfl rfl ?_
    refine w_callSN ok (argsL := [(.ref b51), (.long big), (.ref b32)]) (rest := []) (hw _ (List.mem_of_getElem? (i := 32) rfl)) (hw _ (List.mem_of_getElem? (i := 33) rfl)) (hw _ (List.mem_of_getElem? (i := 10) rfl)) (hw _ (List.mem_of_getElem? (i := 34) rfl)) (by decide) (rmF l Z a0 hw n0 b51 b32 big _ h51 Z0 gn_b51 V_b51 V_b32 ne_b32_b51 (Nat.le_of_ble_eq_true rfl) (Nat.le_of_ble_eq_true rfl)) d0_563 (lenOf pd__ArBJArJ_V rfl) rfl rfl (Nat.le_of_ble_eq_true rfl) (Nat.le_of_ble_eq_true rfl) (k' := 2) (n' := 37) rfl rfl (Nat.le_of_ble_eq_true rfl) (Nat.le_of_ble_eq_true rfl) ?_
    rintro hf ⟨Kc, V_b51, V_b32⟩
    have Z0 := Nat.le_trans Z0 Kc.1
    replace V_b51 : Ary Z hf b51 .byte (own_by (own_digs big ++ [0])) := V_b51
    refine w_aload ok d0_566 rfl rfl ?_
    refine w_bipush ok (z := 18) d0_568 rfl ?_
    refine w_bipush ok (z := 48) d0_570 rfl ?_
    refine w_iloadN ok d0_572 rfl ?_
    refine w_ldc ok (hw _ (List.mem_of_getElem? (i := 0) rfl)) d0_573 ?_
    refine w_iand ok d0_575 ?_
    refine w_bipush ok (z := 10) d0_576 rfl ?_
    refine w_irem ok d0_578 (by decide) ?_
    refine w_iadd ok d0_579 ?_
    refine w_i2b ok d0_580 ?_
    generalize (((48 : Int32) + ((a &&& (2147483647 : Int32)) % (10 : Int32))).toInt8.toInt32) = dd
    refine w_bastoreB' ok (i := 18) V_b51 (Nat.le_of_ble_eq_true rfl) (Nat.le_of_ble_eq_true rfl) gn_b51 d0_581 (fun h52 W52 V_b51 => ?_)
    have V_b32 := V_b32.other W52 ne_b32_b51
    have Z0 := Nat.le_trans Z0 (Keep.of_wr W52).1
    replace V_b51 : Ary Z h52 b51 .byte (own_by ((own_digs big ++ [0]).set 18 (nar .byte dd))) := V_b51.cast (List.map_set ..).symm
    refine w_aload ok d0_582 rfl rfl ?_
    refine w_callSV ok (argsL := [(.ref b51)]) (rest := []) (hw _ (List.mem_of_getElem? (i := 1) rfl)) (hw _ (List.mem_of_getElem? (i := 2) rfl)) (hw _ (List.mem_of_getElem? (i := 3) rfl)) (hw _ (List.mem_of_getElem? (i := 4) rfl)) (by decide) (rmNum l Z a0 hw n0 b51 _ h52 V_b51 (Nat.le_of_lt_succ (by rw [List.length_set]; exact Nat.le_of_ble_eq_true rfl))) d0_584 (lenOf pd__ArB_J rfl) rfl rfl (Nat.le_of_ble_eq_true rfl) (Nat.le_of_ble_eq_true rfl) (k' := 2) (n' := 37) rfl rfl (Nat.le_of_ble_eq_true rfl) (Nat.le_of_ble_eq_true rfl) ?_
    rintro _ _ ⟨rfl, rfl⟩
    refine w_ldc2 ok (hw _ (List.mem_of_getElem? (i := 6) rfl)) d0_587 ?_
    refine w_lc_ne ok d0_590 d0_591 (fun q9 => ?_) (fun q9 => ?_)
    · exact absurd (by rw [own_num, if_neg (by rw [List.length_set]; show ¬ 19 = 0; decide), if_pos (by rw [List.length_set]; show 18 < 19; decide)]) q9
    · refine w_iconst ok (z := 1) d0_594 rfl ?_
      refine w_goto ok d0_595 ?_
      refine w_ireturnN ok (by simp) d0_599 (Nat.le_of_ble_eq_true rfl) (Nat.le_of_ble_eq_true rfl) ?_
      exact ⟨_, rfl, rfl⟩
set_option maxRecDepth 65536 in
set_option maxHeartbeats 4000000 in
theorem comes_1 {Post : Tables → Env → Array Value → State → Outcome → State → Prop} (hpost : ∀ tb e args s v u, (limb_1_1.after args s (.returned v) u = true ∧ limb_1_2.after args s (.returned v) u = true ∧ True) → FrameEnd s (.returned v) u (Jvm.fieldLocs frame_1_writes args s ++ Jvm.arrayLocs frame_1_arrays args s ++ Jvm.staticLocs frame_1_statics s) 16 192 → Post tb e args s (.returned v) u) :
    ArmFor flags0 classFile x code maxLocals ret World_1 tables_1 room_1 Calls_1 rest_1 Pre_1 Post := by
  intro l hfl _ _ p e ha hc hk s m args below hf hA hF happ hP
  obtain ⟨hcalls, hrest, hpre⟩ := hP
  obtain ⟨-, -, -, hnamed, -, -, -, hat⟩ := (Spec.applies_iff hf).mp happ
  obtain ⟨hg, hn⟩ := and_e (Cond.before_iff.mp (show (Jvm.Cond.and given_1 narrow_1).before args s = true from hpre))
  obtain ⟨hct, hg0⟩ := and_e hg
  obtain ⟨hk0, hg1⟩ := and_e hg0
  obtain ⟨hk1, hg2⟩ := and_e hg1
  obtain ⟨hk2, hg3⟩ := and_e hg2
  obtain ⟨hk3, hg4⟩ := and_e hg3
  obtain ⟨hk4, hg5⟩ := and_e hg4
  have hk5 := hg5
  obtain ⟨w0, w1, w2, w3, w4, w5, rfl⟩ : ∃ w0 w1 w2 w3 w4 w5 : Value, args = #[w0, w1, w2, w3, w4, w5] := by
    have hs : args.size = 6 := by simpa [Cond.value, given_1] using hct
    obtain ⟨L⟩ := args
    match L, hs with
    | [w0, w1, w2, w3, w4, w5], _ => exact ⟨w0, w1, w2, w3, w4, w5, rfl⟩
  have hw := fun d (hd : d ∈ tables_1) => atoms_spec (ws := Jvm.Cond.code x code maxLocals ret :: tables_1) hat d (List.mem_cons_of_mem _ hd)
  obtain ⟨i0, ei0⟩ := is_v hk0
  obtain rfl : w0 = (.int i0) := Option.some.inj ei0
  obtain ⟨i1, ei1⟩ := is_v hk1
  obtain rfl : w1 = (.int i1) := Option.some.inj ei1
  obtain ⟨i2, ei2⟩ := is_v hk2
  obtain rfl : w2 = (.int i2) := Option.some.inj ei2
  obtain ⟨i3, ei3⟩ := is_v hk3
  obtain rfl : w3 = (.int i3) := Option.some.inj ei3
  obtain ⟨i4, ei4⟩ := isL_v hk4
  obtain rfl : w4 = (.long i4) := Option.some.inj ei4
  obtain ⟨i5, ei5⟩ := is_v hk5
  obtain rfl : w5 = (.int i5) := Option.some.inj ei5
  obtain ⟨n, o, h1, h2, h3, _, L, rfl, ⟨⟨_, rfl, rfl⟩, N⟩, hq⟩ := rm0 l s _ hw s.heap.size i0 i1 i2 i3 i4 i5 s.heap (Nat.le_refl _) p e ha hc hk s m _ below hf ((Spec.applies_iff_loose hf).mp happ).1 ⟨rfl, State.Warmed39.refl s, rfl⟩ trivial
  refine ⟨n, _, h1, h2, h3, hpost _ _ _ _ _ _ ⟨Cond.after_iff.mpr rfl, Cond.after_iff.mpr (eq_i res_at (Term.int_eval (1)) rfl), trivial⟩ ⟨hq.1, hq.2.1, (hq.2.2.sift fun y hy => Or.inr (N y hy)).mono (by decide) (by decide)⟩⟩
theorem main_1_1 : Claimed_1_1 := comes_1 fun _ _ _ _ _ _ h hF => ⟨h.1, hF⟩
theorem main_1_2 : Claimed_1_2 := comes_1 fun _ _ _ _ _ _ h hF => ⟨h.2.1, hF⟩
end Jvm.Pilot.@@N@@
namespace Jvm.Pilot.@@N@@
open Jvm Jvm.ClassFile Sem Op Lib Jvm.Free Jvm.Stand Jvm.Pilot.@@N@@.Jvm.D
/-! MADE BY PROGRAM (witnessworld.py) out of the Statement's table words and the real class files: 11 classes; the members and pool entries that the words name. The judged class is class 1, her method 1. -/
namespace start1
open Jvm.ClassFile
def u (s : String) : CpInfo := .utf8 (stringToUtf16 s)
/-- a pool by its gaps: so many unusable entries, then the entry; so many at the end -/
def gap : Nat → List CpInfo → List CpInfo
  | 0, r => r
  | n + 1, r => .unusable :: gap n r
def poolList (es : List (Nat × CpInfo)) (last : Nat) : List CpInfo := es.foldr (fun e r => gap e.1 (e.2 :: r)) (gap last [])
def pool (es : List (Nat × CpInfo)) (last : Nat) : Array CpInfo := ⟨poolList es last⟩
def fileOf (pool : Array CpInfo) (this : Nat) (attrs : Array Attribute := #[]) (ms : Array MethodInfo := #[]) (fl : Nat := 33) (sup : Nat := 0) (ifs : Array Nat := #[]) (fds : Array FieldInfo := #[]) : ClassFile where
  minorVersion := 0
  majorVersion := 65
  constantPool := pool
  accessFlags := fl
  thisClass := this
  superClass := sup
  interfaces := ifs
  fields := fds
  methods := ms
  attributes := attrs
def plain (name : String) (sup : Option ClassId) : Class where
  name := name
  kind := .ordinary
  loader := none
  accessFlags := 33
  super := sup
  interfaces := #[]
  cf := none
  fields := #[]
  methods := #[]
  instanceTypes := #[]
  staticTypes := #[]
  resolved := #[]
  callSites := []
  init := .initialized
  statics := none
  mirror := none

def pool0 : Array CpInfo := pool [(5, u "<init>"), (0, u "()V"), (1, .class_ 10), (1, u "java/lang/Object")] 113

def k0m0 : Method := { name := "<init>", desc := "()V", sig := { parameters := [], returnType := none }, accessFlags := 1, code := none }
/-- java/lang/Object -/
def k0 : Class := { plain "java/lang/Object" none with
  accessFlags := 33
  interfaces := #[]
  cf := some (fileOf pool0 8 #[] #[{ accessFlags := 1, nameIndex := 5, descriptorIndex := 6, attributes := #[] }] 33 0 #[] #[])
  fields := #[]
  methods := #[k0m0]
  instanceTypes := #[]
  staticTypes := #[]
  resolved := Array.replicate 124 none
  statics := none }

def pool1 : Array CpInfo := pool [(2, .class_ 4), (1, u "java/lang/Object"), (0, u "<init>"), (0, u "()V"), (0, .integer 2147483647), (0, .interfaceMethodref 9 10), (0, .class_ 11), (0, .nameAndType 12 13), (0, u "com/example/holdfast/holdfast/Workload"), (0, u "number"), (0, u "([B)J"), (0, .long 18446744073709551615), (1, .methodref 17 18), (0, .class_ 19), (0, .nameAndType 20 21), (0, u "com/example/holdfast/holdfast/WorkloadNumberPinLaw"), (0, u "isDigit"), (0, u "(B)Z"), (0, .long 10), (1, .long 100), (1, .long 1000), (1, .long 10000), (1, .long 100000), (1, .long 1000000), (1, .long 10000000), (1, .long 100000000), (1, .long 1000000000), (1, .long 10000000000), (1, .long 100000000000), (1, .long 1000000000000), (1, .long 10000000000000), (1, .long 100000000000000), (1, .long 1000000000000000), (1, .long 10000000000000000), (1, .long 100000000000000000), (3, .long 9223372036854775807), (1, .long 1000000000000000000), (1, .methodref 17 63), (0, .nameAndType 64 65), (0, u "fill"), (0, u "([BJ[J)V"), (0, .methodref 17 67), (0, .nameAndType 68 69), (0, u "dig"), (0, u "(JJ)B"), (2, u "law"), (0, u "(IIIIJI)Z")] 7

def k1m0 : Method := { name := "<init>", desc := "()V", sig := { parameters := [], returnType := none }, accessFlags := 1, code := none }
def k1c1 : Code := { maxStack := 6, maxLocals := 22, code := code, exceptionTable := #[], attributes := #[] }
def k1m1 : Method := { name := "law", desc := "(IIIIJI)Z", sig := { parameters := [.int, .int, .int, .int, .long, .int], returnType := some .boolean }, accessFlags := 9, code := some k1c1 }
def k1c2 : Code := { maxStack := 2, maxLocals := 1, code := method_3_code, exceptionTable := #[], attributes := #[] }
def k1m2 : Method := { name := "isDigit", desc := "(B)Z", sig := { parameters := [.byte], returnType := some .boolean }, accessFlags := 10, code := some k1c2 }
def k1c3 : Code := { maxStack := 5, maxLocals := 4, code := method_4_code, exceptionTable := #[], attributes := #[] }
def k1m3 : Method := { name := "dig", desc := "(JJ)B", sig := { parameters := [.long, .long], returnType := some .byte }, accessFlags := 10, code := some k1c3 }
def k1c4 : Code := { maxStack := 6, maxLocals := 4, code := method_5_code, exceptionTable := #[], attributes := #[] }
def k1m4 : Method := { name := "fill", desc := "([BJ[J)V", sig := { parameters := [(.array .byte), .long, (.array .long)], returnType := none }, accessFlags := 10, code := some k1c4 }
/-- com/example/holdfast/holdfast/WorkloadNumberPinLaw -/
def k1 : Class := { plain "com/example/holdfast/holdfast/WorkloadNumberPinLaw" (some 0) with
  accessFlags := 49
  interfaces := #[]
  cf := some (fileOf pool1 17 #[] #[{ accessFlags := 1, nameIndex := 5, descriptorIndex := 6, attributes := #[] }, { accessFlags := 9, nameIndex := 72, descriptorIndex := 73, attributes := #[] }, { accessFlags := 10, nameIndex := 20, descriptorIndex := 21, attributes := #[] }, { accessFlags := 10, nameIndex := 68, descriptorIndex := 69, attributes := #[] }, { accessFlags := 10, nameIndex := 64, descriptorIndex := 65, attributes := #[] }] 49 2 #[] #[])
  fields := #[]
  methods := #[k1m0, k1m1, k1m2, k1m3, k1m4]
  instanceTypes := #[]
  staticTypes := #[]
  resolved := Array.replicate 81 none
  statics := none }

def pool2 : Array CpInfo := pool [(14, .class_ 16), (1, u "com/example/holdfast/holdfast/Workload"), (24, .long 18446744073709551615), (1, .long 10), (28, u "KINDS"), (0, u "Ljava/util/Map;"), (0, .class_ 75), (0, u "java/lang/Object"), (18, u "number"), (0, u "([B)J"), (6, .class_ 103), (0, u "com/example/holdfast/holdfast/Workload$Outcome"), (0, .class_ 105), (0, u "com/example/holdfast/holdfast/Workload$Client")] 32

def k2c0 : Code := { maxStack := 4, maxLocals := 7, code := prog_57_method_7_code, exceptionTable := #[], attributes := #[] }
def k2m0 : Method := { name := "number", desc := "([B)J", sig := { parameters := [(.array .byte)], returnType := some .long }, accessFlags := 9, code := some k2c0 }
/-- com/example/holdfast/holdfast/Workload -/
def k2 : Class := { plain "com/example/holdfast/holdfast/Workload" (some 0) with
  accessFlags := 1536
  interfaces := #[]
  cf := some (fileOf pool2 14 #[.nestMembers #[102, 104]] #[{ accessFlags := 9, nameIndex := 94, descriptorIndex := 95, attributes := #[] }] 1536 74 #[] #[{ accessFlags := 25, nameIndex := 72, descriptorIndex := 73, attributes := #[] }])
  fields := #[{ name := "KINDS", type := (.object "java/util/Map"), accessFlags := 25, slot := 0, constantValue := 0 }]
  methods := #[k2m0]
  instanceTypes := #[]
  staticTypes := #[(.object "java/util/Map")]
  resolved := Array.replicate 138 none
  statics := none }

def pool3 : Array CpInfo := pool [(1, u "java/lang/Cloneable"), (0, .class_ 1), (0, u "java/lang/Object"), (0, .class_ 3)] 3

/-- java/lang/Cloneable -/
def k3 : Class := { plain "java/lang/Cloneable" (some 0) with
  accessFlags := 1537
  interfaces := #[]
  cf := some (fileOf pool3 2 #[] #[] 1537 4 #[] #[])
  fields := #[]
  methods := #[]
  instanceTypes := #[]
  staticTypes := #[]
  resolved := Array.replicate 8 none
  statics := none }

def pool4 : Array CpInfo := pool [(1, u "java/io/Serializable"), (0, .class_ 1), (0, u "java/lang/Object"), (0, .class_ 3)] 3

/-- java/io/Serializable -/
def k4 : Class := { plain "java/io/Serializable" (some 0) with
  accessFlags := 1537
  interfaces := #[]
  cf := some (fileOf pool4 2 #[] #[] 1537 4 #[] #[])
  fields := #[]
  methods := #[]
  instanceTypes := #[]
  staticTypes := #[]
  resolved := Array.replicate 8 none
  statics := none }

/-- the primitive byte -/
def k5 : Class := { plain "byte" none with kind := .primitive 'B', accessFlags := 0x411 }
/-- [B -/
def k6 : Class := { plain "[B" (some 0) with kind := .array 5 .byte, interfaces := #[3, 4], accessFlags := 1041 }

/-- the primitive int -/
def k7 : Class := { plain "int" none with kind := .primitive 'I', accessFlags := 0x411 }
/-- [I -/
def k8 : Class := { plain "[I" (some 0) with kind := .array 7 .int, interfaces := #[3, 4], accessFlags := 1041 }

/-- the primitive long -/
def k9 : Class := { plain "long" none with kind := .primitive 'J', accessFlags := 0x411 }
/-- [J -/
def k10 : Class := { plain "[J" (some 0) with kind := .array 9 .long, interfaces := #[3, 4], accessFlags := 1041 }

def heap : Heap := #[]
def classes : Array Class := #[k0, k1, k2, k3, k4, k5, k6, k7, k8, k9, k10]
def interned : List (Array UInt16 × Addr) := []
def slotsUsed : Nat := 0
def theMethod : MethodId := ⟨1, 1⟩
def args0 : Array Value := #[.int 0, .int 0, .int 0, .int 0, .long 0, .int 0]
def aboutOver (below : List Frame) : State where
  vm := { classes := classes, interned := interned.toArray }
  heap := heap
  slotsUsed := slotsUsed
  threads := #[{ frames := .invoking theMethod args0 :: below }]
def below0 : List Frame := [.native { method := ⟨0, 0⟩, args := #[] }]
def about1 : State := aboutOver below0
def p0 : Program := .bare "" "" ""
def e0 : Env := launch0.env 0 0 0
theorem w_frames : about1.frames = Frame.invoking theMethod args0 :: below0 := rfl
set_option maxRecDepth 65536 in
theorem w_args : argsFit about1.vm theMethod args0 = true := by decide +kernel
set_option maxRecDepth 65536 in
theorem w_heap : heapFits about1 = true := by decide +kernel
set_option maxRecDepth 65536 in
theorem w_runnable : about1.curStatus? = some .runnable := by decide +kernel
set_option maxRecDepth 65536 in
theorem w_alone : about1.alone = true := by decide +kernel
set_option maxRecDepth 65536 in
theorem w_named : about1.methodNamed? x = some theMethod := by decide +kernel
set_option maxRecDepth 65536 in
theorem w_hears : about1.hears theMethod below0 = true := by decide +kernel
set_option maxRecDepth 65536 in
theorem w_ripe : about1.ripe theMethod args0 below0 = true := by decide +kernel
theorem w_running : about1.status = .running := rfl
set_option maxRecDepth 65536 in
theorem w_room : about1.hasRoom e0.platform room_1 = true :=
  launch0.hasRoom_least _ room_1 (by decide +kernel) (by decide +kernel) (by decide +kernel) (by decide +kernel) (by decide +kernel) (by decide +kernel)
theorem allAtoms_all (ts : List Jvm.Cond) (a : Array Jvm.Value) (st : Jvm.State) : (allAtoms ts).before a st = ts.all (fun c => c.before a st) := by
  induction ts with
  | nil => rfl
  | cons c t ih =>
    show (Jvm.Cond.and c (allAtoms t)).before a st = _
    rw [Jvm.Cond.before_and, ih, List.all_cons]
def words1 : List Jvm.Cond := Jvm.Cond.code x code maxLocals ret :: tables_1
/-- a 'code' word, met by the world's own term for the bytes: nothing is compared byte by byte -/
theorem code_word {y : MethodName} {bytes : ByteArray} {mx : Nat} {rt : Option FieldType} {a : Array Value} {s : State} {m : MethodId} {meth : Method} {c : Code} (h1 : s.methodNamed? y = some m) (h2 : s.vm.method? m = some meth) (h3 : meth.code = some c) (h4 : c.code = bytes)
    (h5 : (c.maxLocals == mx && c.exceptionTable.isEmpty && decide (c.maxStack ≤ mostOperands) && decide (meth.sig.returnType = rt) && !meth.locks && decide (parseMethodDescriptor y.desc = some meth.sig)) = true) : (Jvm.Cond.code y bytes mx rt).before a s = true := by
  simp only [Bool.and_eq_true, beq_iff_eq, Bool.not_eq_true', decide_eq_true_eq] at h5
  obtain ⟨⟨⟨⟨⟨g1, g2⟩, g3⟩, g4⟩, g5⟩, g6⟩ := h5
  simp [Cond.before, Cond.holds, Cond.value, h1, h2, h3, h4, g1, g2, g3, g4, g5, g6]
def isCode : Jvm.Cond → Bool
  | .code _ _ _ _ => true
  | _ => false
theorem all_split {L : List Jvm.Cond} {P : Jvm.Cond → Bool} (h1 : L.all (fun c => isCode c || P c) = true) (h2 : ∀ c ∈ L.filter isCode, P c = true) : L.all P = true := by
  refine List.all_eq_true.mpr fun c hc => ?_
  have h := List.all_eq_true.mp h1 c hc
  rcases Bool.eq_false_or_eq_true (isCode c) with hi | hi
  · exact h2 c (List.mem_filter.mpr ⟨hc, hi⟩)
  · simpa [hi] using h
set_option maxRecDepth 65536 in
theorem w_c0 : (Jvm.Cond.code x code maxLocals ret).before args0 about1 = true := code_word (m := ⟨1, 1⟩) (meth := k1m1) (c := k1c1) (by decide +kernel) rfl rfl rfl (by decide +kernel)
set_option maxRecDepth 65536 in
theorem w_c1 : (Jvm.Cond.code ({ cls := "com/example/holdfast/holdfast/Workload", name := "number", desc := "([B)J" } : Jvm.MethodName) prog_57_method_7_code (7 : Nat) (Option.some Jvm.ClassFile.FieldType.long)).before args0 about1 = true := code_word (m := ⟨2, 0⟩) (meth := k2m0) (c := k2c0) (by decide +kernel) rfl rfl rfl (by decide +kernel)
set_option maxRecDepth 65536 in
theorem w_c2 : (Jvm.Cond.code ({ cls := "com/example/holdfast/holdfast/WorkloadNumberPinLaw", name := "isDigit", desc := "(B)Z" } : Jvm.MethodName) method_3_code (1 : Nat) (Option.some Jvm.ClassFile.FieldType.boolean)).before args0 about1 = true := code_word (m := ⟨1, 2⟩) (meth := k1m2) (c := k1c2) (by decide +kernel) rfl rfl rfl (by decide +kernel)
set_option maxRecDepth 65536 in
theorem w_c3 : (Jvm.Cond.code ({ cls := "com/example/holdfast/holdfast/WorkloadNumberPinLaw", name := "fill", desc := "([BJ[J)V" } : Jvm.MethodName) method_5_code (4 : Nat) (Option.none : Option Jvm.ClassFile.FieldType)).before args0 about1 = true := code_word (m := ⟨1, 4⟩) (meth := k1m4) (c := k1c4) (by decide +kernel) rfl rfl rfl (by decide +kernel)
set_option maxRecDepth 65536 in
theorem w_c4 : (Jvm.Cond.code ({ cls := "com/example/holdfast/holdfast/WorkloadNumberPinLaw", name := "dig", desc := "(JJ)B" } : Jvm.MethodName) method_4_code (4 : Nat) (Option.some Jvm.ClassFile.FieldType.byte)).before args0 about1 = true := code_word (m := ⟨1, 3⟩) (meth := k1m3) (c := k1c3) (by decide +kernel) rfl rfl rfl (by decide +kernel)
def codes1 : List Jvm.Cond := [Jvm.Cond.code x code maxLocals ret, Jvm.Cond.code ({ cls := "com/example/holdfast/holdfast/Workload", name := "number", desc := "([B)J" } : Jvm.MethodName) prog_57_method_7_code (7 : Nat) (Option.some Jvm.ClassFile.FieldType.long), Jvm.Cond.code ({ cls := "com/example/holdfast/holdfast/WorkloadNumberPinLaw", name := "isDigit", desc := "(B)Z" } : Jvm.MethodName) method_3_code (1 : Nat) (Option.some Jvm.ClassFile.FieldType.boolean), Jvm.Cond.code ({ cls := "com/example/holdfast/holdfast/WorkloadNumberPinLaw", name := "fill", desc := "([BJ[J)V" } : Jvm.MethodName) method_5_code (4 : Nat) (Option.none : Option Jvm.ClassFile.FieldType), Jvm.Cond.code ({ cls := "com/example/holdfast/holdfast/WorkloadNumberPinLaw", name := "dig", desc := "(JJ)B" } : Jvm.MethodName) method_4_code (4 : Nat) (Option.some Jvm.ClassFile.FieldType.byte)]
set_option maxRecDepth 65536 in
theorem codes_eq : words1.filter isCode = codes1 := rfl
theorem w_codes : ∀ c ∈ words1.filter isCode, c.before args0 about1 = true := by
  rw [codes_eq]
  intro c hc
  simp only [codes1, List.mem_cons, List.not_mem_nil, or_false] at hc
  rcases hc with rfl | rfl | rfl | rfl | rfl
  · exact w_c0
  · exact w_c1
  · exact w_c2
  · exact w_c3
  · exact w_c4
set_option maxRecDepth 65536 in
theorem w_t1 : (words1.take 24).all (fun c => isCode c || c.before args0 about1) = true := by decide +kernel
set_option maxRecDepth 65536 in
theorem w_t2 : (words1.drop 24).all (fun c => isCode c || c.before args0 about1) = true := by decide +kernel
theorem w_tables : (allAtoms (Jvm.Cond.code x code maxLocals ret :: tables_1)).before args0 about1 = true := by
  rw [allAtoms_all]
  show words1.all (fun c => c.before args0 about1) = true
  refine all_split ?_ w_codes
  rw [← List.take_append_drop 24 words1, List.all_append, w_t1, w_t2]
  rfl
set_option maxRecDepth 65536 in
theorem w_case : (Jvm.Cond.and given_1 narrow_1).before args0 about1 = true := by decide +kernel
theorem w_applies : (headSpec (Jvm.Cond.code x code maxLocals ret :: tables_1) room_1).applies x e0.platform about1 = true :=
  (Spec.applies_iff w_frames).mpr ⟨w_running, w_runnable, w_alone, w_named, w_hears, w_ripe, w_room, w_tables⟩
theorem atStart : AtStart classFile x code maxLocals ret World_1 tables_1 room_1 Calls_1 rest_1 Pre_1 launch0 p0 e0 about1 theMethod args0 below0 :=
  ⟨lists_1, trivial, launch0.admits_env _ _ _, launch0.least_env, fairChoices_fair.cas, fairChoices_fair.clock, w_frames, w_args, w_heap, w_applies, trivial, trivial, w_case⟩
end start1
theorem witness_1 : WitnessClaimed_1 := ⟨start1.p0, start1.e0, start1.about1, start1.theMethod, start1.args0, start1.below0, start1.atStart⟩
end Jvm.Pilot.@@N@@
