import JvmDerived
import JvmDerived.Pilot.@@N@@Statement
import JvmDerived.Pilot.@@N@@Code
set_option linter.unusedVariables false
set_option linter.unusedSimpArgs false
namespace Jvm.WpK
open Sem ClassFile Op Lib Jvm.Stand Jvm.Free Jvm.LawKit Jvm.RoadKit
/-- the run's own unknowns: program, environment, the invocation's state, method, arguments, frames below, the method's record, its code -/
abbrev Cx : Type := Program × Env × State × MethodId × Array Value × List Frame × Method × Code
/-- a decoded instruction and the pc behind it -/
def Fet (code : ByteArray) (pc pc' : Nat) (i : Instr) (len : Nat) : Prop := decode code pc = .ok (i, len) ∧ pc + len = pc'
/-- a decoded branch: the pc behind it and its target -/
def Brn (code : ByteArray) (pc pcN pcT : Nat) (i : Instr) (o : Int) : Prop := decode code pc = .ok (i, 3) ∧ pc + 3 = pcN ∧ 0 ≤ (pc : Int) + o ∧ ((pc : Int) + o).toNat = pcT
/-- what is known of the body that is walked -/
def Ok (Z : State) (K : Cx) (code : ByteArray) (own nm : String) (maxL : Nat) (ret : Option FieldType) : Prop :=
  match K with
  | (p, _, s, m, _, _, meth, c) => p.tables.exec = Jvm.exec ∧ c.code = code ∧ Z.Warmed39 s.vm ∧ s.vm.findClass own = some m.cls ∧ meth.name = nm ∧ c.maxLocals = maxL ∧ meth.sig.returnType = ret ∧ meth.locks = false
/-- from this point (heap h, k cells and n slots made so far) the body ends in Q, having written nothing below n0 -/
def Wp (l : Launch) (R : Room) (n0 : Nat) (K : Cx) (Q : Option Value → Heap → Prop) (h : Heap) (k n : Nat) (pc : Nat) (Ls : Array Slot) (st : List Value) : Prop :=
  match K with
  | (p, e, s, m, args, below, meth, c) => ∀ (T : State) (locs : List Loc), Stand p l e R s m args below meth c T locs k n → T.heap = h → Fr n0 locs →
      ∃ s₂ o, Steps p.tables e below (T.setTop (mkF m pc Ls st)) s₂ ∧ s₂.status = .running ∧ Ended s₂ below o ∧ ∃ v L, o = .returned v ∧ (Q v s₂.heap ∧ Fr n0 L) ∧ FrameEnd s o s₂ L R.cells R.slots
/-- a body's contract at one call -/
def Con (l : Launch) (Z : State) (n0 : Nat) (y : MethodName) (bytes : ByteArray) (maxL : Nat) (ret : Option FieldType) (ws : List Cond) (rm : Room) (as : Array Value) (h : Heap) (Q : Option Value → Heap → Prop) : Prop :=
  MetFree l y (head1 (Cond.code y bytes maxL ret :: ws) rm) (fun a U => a = as ∧ Z.Warmed39 U.vm ∧ U.heap = h) (fun _ _ _ _ _ => True) (fun _ U o U' => ∃ v L, o = .returned v ∧ (Q v U'.heap ∧ Fr n0 L) ∧ FrameEnd U o U' L rm.cells rm.slots)
abbrev ConV (l : Launch) (Z : State) (n0 : Nat) (y : MethodName) (bytes : ByteArray) (maxL : Nat) (ret : Option FieldType) (ws : List Cond) (rm : Room) (as : Array Value) (h : Heap) (Q : Value → Heap → Prop) : Prop :=
  Con l Z n0 y bytes maxL ret ws rm as h (fun v h' => ∃ w, v = some w ∧ Q w h')
abbrev ConN (l : Launch) (Z : State) (n0 : Nat) (y : MethodName) (bytes : ByteArray) (maxL : Nat) (ret : Option FieldType) (ws : List Cond) (rm : Room) (as : Array Value) (h : Heap) (Q : Heap → Prop) : Prop :=
  Con l Z n0 y bytes maxL ret ws rm as h (fun v h' => v = none ∧ Q h')
theorem con_of_wp {l : Launch} {Z : State} {n0 : Nat} {y : MethodName} {bytes : ByteArray} {maxL : Nat} {ret : Option FieldType} {ws : List Cond} {rm : Room} {as : Array Value} {h : Heap} {Q : Option Value → Heap → Prop} {Ls : Array Slot}
    (hpl : plainFor y = true) (hef : ∀ m, entryFrame m as maxL = mkF m 0 Ls []) (H : ∀ K, Ok Z K bytes y.cls y.name maxL ret → Wp l rm n0 K Q h 0 0 0 Ls []) : Con l Z n0 y bytes maxL ret ws rm as h Q := by
  refine MetFree.of_bodySF hpl hisR ?_
  intro p e s m args below meth c s₁ Bd hml0 hP hK
  obtain ⟨rfl, hZ, hh⟩ := hP
  have X0 : Stand p l e rm s m args below meth c s₁ [] 0 0 := Stand.of_body Bd
  have e0 : s₁.heap = h := by rw [← hh, Bd.state]; rfl
  obtain ⟨s₂, o, h1, h2, h3, h4⟩ := H (p, e, s, m, args, below, meth, c) ⟨Bd.exec, Bd.bytes, hZ, findClass_of_methodNamed Bd.named, (name_of_methodNamed Bd.named Bd.method).1, hml0, Bd.returns, Bd.notSynchronized⟩ s₁ [] X0 e0 (Fr.nil n0)
  exact ⟨s₂, o, castTop (hef m) h1, h2, h3, h4⟩
section Rules
variable {l : Launch} {R : Room} {n0 : Nat} {K : Cx} {Q : Option Value → Heap → Prop} {h : Heap} {k n k' n' : Nat} {pc pc' : Nat} {Ls Ls' : Array Slot} {st rest : List Value} {Z : State} {code : ByteArray} {own nm : String} {maxL : Nat} {ret : Option FieldType} {a0 : Array Value}
theorem w_cast {pc1 : Nat} {L1 : Array Slot} {s1 : List Value} (hr : Wp l R n0 K Q h k n pc1 L1 s1) (q1 : pc1 = pc) (q2 : L1 = Ls) (q3 : s1 = st) : Wp l R n0 K Q h k n pc Ls st := by
  subst q1 q2 q3; exact hr
theorem w_mono {Q' : Option Value → Heap → Prop} (hr : Wp l R n0 K Q' h k n pc Ls st) (hq : ∀ v h', Q' v h' → Q v h') : Wp l R n0 K Q h k n pc Ls st := by
  obtain ⟨p, e, s, m, args, below, meth, c⟩ := K
  intro T locs X hT hF
  obtain ⟨s₂, o, h1, h2, h3, v, L, h4, ⟨h5, h6⟩, h7⟩ := hr T locs X hT hF
  exact ⟨s₂, o, h1, h2, h3, v, L, h4, ⟨hq _ _ h5, h6⟩, h7⟩
theorem w_int {a b : Int32} (e : a = b) (hr : Wp l R n0 K Q h k n pc Ls (.int b :: st)) : Wp l R n0 K Q h k n pc Ls (.int a :: st) := e ▸ hr
theorem w_long {a b : Int64} (e : a = b) (hr : Wp l R n0 K Q h k n pc Ls (.long b :: st)) : Wp l R n0 K Q h k n pc Ls (.long a :: st) := e ▸ hr
/-- more cells or slots may be booked -/
theorem w_more {k1 n1 : Nat} (hr : Wp l R n0 K Q h k1 n1 pc Ls st) (hk : k ≤ k1) (hn : n ≤ n1) : Wp l R n0 K Q h k n pc Ls st := by
  obtain ⟨p, e, s, m, args, below, meth, c⟩ := K
  intro T locs X hT hF
  exact hr T locs (X.more hk hn) hT hF

theorem w_iloadN (ok : Ok Z K code own nm maxL ret) {j : Fin 4} {x : Int32} (hd : Fet code pc pc' (.iload_n j) 1) (hl : Ls[j.val]? = some (.val (.int x))) (hr : Wp l R n0 K Q h k n pc' Ls (.int x :: st)) : Wp l R n0 K Q h k n pc Ls st := by
  obtain ⟨p, e, s, m, args, below, meth, c⟩ := K
  obtain ⟨hx, hby, hZ, hown, hnm, hml, hret, hlk⟩ := ok
  obtain ⟨hd, rfl⟩ := hd
  intro T locs X hT hF
  obtain ⟨s₂, o, h1, h2⟩ := hr T locs X hT hF
  exact ⟨s₂, o, XS.iloadN X.here hx rfl (hb hby hd) hl h1, h2⟩
theorem w_iload (ok : Ok Z K code own nm maxL ret) {j : Nat} {x : Int32} (hd : Fet code pc pc' (.iload j) 2) (hl : Ls[j]? = some (.val (.int x))) (hr : Wp l R n0 K Q h k n pc' Ls (.int x :: st)) : Wp l R n0 K Q h k n pc Ls st := by
  obtain ⟨p, e, s, m, args, below, meth, c⟩ := K
  obtain ⟨hx, hby, hZ, hown, hnm, hml, hret, hlk⟩ := ok
  obtain ⟨hd, rfl⟩ := hd
  intro T locs X hT hF
  obtain ⟨s₂, o, h1, h2⟩ := hr T locs X hT hF
  exact ⟨s₂, o, XS.iload X.here hx rfl (hb hby hd) hl h1, h2⟩
theorem w_lloadN (ok : Ok Z K code own nm maxL ret) {j : Fin 4} {x : Int64} (hd : Fet code pc pc' (.lload_n j) 1) (hl : Ls[j.val]? = some (.val (.long x))) (hr : Wp l R n0 K Q h k n pc' Ls (.long x :: st)) : Wp l R n0 K Q h k n pc Ls st := by
  obtain ⟨p, e, s, m, args, below, meth, c⟩ := K
  obtain ⟨hx, hby, hZ, hown, hnm, hml, hret, hlk⟩ := ok
  obtain ⟨hd, rfl⟩ := hd
  intro T locs X hT hF
  obtain ⟨s₂, o, h1, h2⟩ := hr T locs X hT hF
  exact ⟨s₂, o, XS.lloadN X.here hx rfl (hb hby hd) hl h1, h2⟩
theorem w_lload (ok : Ok Z K code own nm maxL ret) {j : Nat} {x : Int64} (hd : Fet code pc pc' (.lload j) 2) (hl : Ls[j]? = some (.val (.long x))) (hr : Wp l R n0 K Q h k n pc' Ls (.long x :: st)) : Wp l R n0 K Q h k n pc Ls st := by
  obtain ⟨p, e, s, m, args, below, meth, c⟩ := K
  obtain ⟨hx, hby, hZ, hown, hnm, hml, hret, hlk⟩ := ok
  obtain ⟨hd, rfl⟩ := hd
  intro T locs X hT hF
  obtain ⟨s₂, o, h1, h2⟩ := hr T locs X hT hF
  exact ⟨s₂, o, XS.lload X.here hx rfl (hb hby hd) hl h1, h2⟩
theorem w_aloadN (ok : Ok Z K code own nm maxL ret) {j : Fin 4} {x : Value} (hd : Fet code pc pc' (.aload_n j) 1) (hl : Ls[j.val]? = some (.val x)) (hv : x.isRef = true) (hr : Wp l R n0 K Q h k n pc' Ls (x :: st)) : Wp l R n0 K Q h k n pc Ls st := by
  obtain ⟨p, e, s, m, args, below, meth, c⟩ := K
  obtain ⟨hx, hby, hZ, hown, hnm, hml, hret, hlk⟩ := ok
  obtain ⟨hd, rfl⟩ := hd
  intro T locs X hT hF
  obtain ⟨s₂, o, h1, h2⟩ := hr T locs X hT hF
  exact ⟨s₂, o, XS.aloadN X.here hx rfl (hb hby hd) hl hv h1, h2⟩
theorem w_aload (ok : Ok Z K code own nm maxL ret) {j : Nat} {x : Value} (hd : Fet code pc pc' (.aload j) 2) (hl : Ls[j]? = some (.val x)) (hv : x.isRef = true) (hr : Wp l R n0 K Q h k n pc' Ls (x :: st)) : Wp l R n0 K Q h k n pc Ls st := by
  obtain ⟨p, e, s, m, args, below, meth, c⟩ := K
  obtain ⟨hx, hby, hZ, hown, hnm, hml, hret, hlk⟩ := ok
  obtain ⟨hd, rfl⟩ := hd
  intro T locs X hT hF
  obtain ⟨s₂, o, h1, h2⟩ := hr T locs X hT hF
  exact ⟨s₂, o, XS.aload X.here hx rfl (hb hby hd) hl hv h1, h2⟩
theorem w_istoreN (ok : Ok Z K code own nm maxL ret) {j : Fin 4} {x : Int32} (hd : Fet code pc pc' (.istore_n j) 1) (hl : storeLocals Ls j.val (.int x) = some Ls') (hr : Wp l R n0 K Q h k n pc' Ls' st) : Wp l R n0 K Q h k n pc Ls (.int x :: st) := by
  obtain ⟨p, e, s, m, args, below, meth, c⟩ := K
  obtain ⟨hx, hby, hZ, hown, hnm, hml, hret, hlk⟩ := ok
  obtain ⟨hd, rfl⟩ := hd
  intro T locs X hT hF
  obtain ⟨s₂, o, h1, h2⟩ := hr T locs X hT hF
  exact ⟨s₂, o, XS.istoreN X.here hx rfl (hb hby hd) rfl hl h1, h2⟩
theorem w_istore (ok : Ok Z K code own nm maxL ret) {j : Nat} {x : Int32} (hd : Fet code pc pc' (.istore j) 2) (hl : storeLocals Ls j (.int x) = some Ls') (hr : Wp l R n0 K Q h k n pc' Ls' st) : Wp l R n0 K Q h k n pc Ls (.int x :: st) := by
  obtain ⟨p, e, s, m, args, below, meth, c⟩ := K
  obtain ⟨hx, hby, hZ, hown, hnm, hml, hret, hlk⟩ := ok
  obtain ⟨hd, rfl⟩ := hd
  intro T locs X hT hF
  obtain ⟨s₂, o, h1, h2⟩ := hr T locs X hT hF
  exact ⟨s₂, o, XS.istore X.here hx rfl (hb hby hd) rfl hl h1, h2⟩
theorem w_lstoreN (ok : Ok Z K code own nm maxL ret) {j : Fin 4} {x : Int64} (hd : Fet code pc pc' (.lstore_n j) 1) (hl : storeLocals Ls j.val (.long x) = some Ls') (hr : Wp l R n0 K Q h k n pc' Ls' st) : Wp l R n0 K Q h k n pc Ls (.long x :: st) := by
  obtain ⟨p, e, s, m, args, below, meth, c⟩ := K
  obtain ⟨hx, hby, hZ, hown, hnm, hml, hret, hlk⟩ := ok
  obtain ⟨hd, rfl⟩ := hd
  intro T locs X hT hF
  obtain ⟨s₂, o, h1, h2⟩ := hr T locs X hT hF
  exact ⟨s₂, o, XS.lstoreN X.here hx rfl (hb hby hd) rfl hl h1, h2⟩
theorem w_lstore (ok : Ok Z K code own nm maxL ret) {j : Nat} {x : Int64} (hd : Fet code pc pc' (.lstore j) 2) (hl : storeLocals Ls j (.long x) = some Ls') (hr : Wp l R n0 K Q h k n pc' Ls' st) : Wp l R n0 K Q h k n pc Ls (.long x :: st) := by
  obtain ⟨p, e, s, m, args, below, meth, c⟩ := K
  obtain ⟨hx, hby, hZ, hown, hnm, hml, hret, hlk⟩ := ok
  obtain ⟨hd, rfl⟩ := hd
  intro T locs X hT hF
  obtain ⟨s₂, o, h1, h2⟩ := hr T locs X hT hF
  exact ⟨s₂, o, XS.lstore X.here hx rfl (hb hby hd) rfl hl h1, h2⟩
theorem w_astoreN (ok : Ok Z K code own nm maxL ret) {j : Fin 4} {x : Value} (hd : Fet code pc pc' (.astore_n j) 1) (hl : storeLocals Ls j.val x = some Ls') (hv : x.isRef = true) (hr : Wp l R n0 K Q h k n pc' Ls' st) : Wp l R n0 K Q h k n pc Ls (x :: st) := by
  obtain ⟨p, e, s, m, args, below, meth, c⟩ := K
  obtain ⟨hx, hby, hZ, hown, hnm, hml, hret, hlk⟩ := ok
  obtain ⟨hd, rfl⟩ := hd
  intro T locs X hT hF
  obtain ⟨s₂, o, h1, h2⟩ := hr T locs X hT hF
  exact ⟨s₂, o, XS.astoreN X.here hx rfl (hb hby hd) rfl hv hl h1, h2⟩
theorem w_astore (ok : Ok Z K code own nm maxL ret) {j : Nat} {x : Value} (hd : Fet code pc pc' (.astore j) 2) (hl : storeLocals Ls j x = some Ls') (hv : x.isRef = true) (hr : Wp l R n0 K Q h k n pc' Ls' st) : Wp l R n0 K Q h k n pc Ls (x :: st) := by
  obtain ⟨p, e, s, m, args, below, meth, c⟩ := K
  obtain ⟨hx, hby, hZ, hown, hnm, hml, hret, hlk⟩ := ok
  obtain ⟨hd, rfl⟩ := hd
  intro T locs X hT hF
  obtain ⟨s₂, o, h1, h2⟩ := hr T locs X hT hF
  exact ⟨s₂, o, XS.astore X.here hx rfl (hb hby hd) rfl hv hl h1, h2⟩
theorem w_iinc (ok : Ok Z K code own nm maxL ret) {j : Nat} {cst : Int} {x : Int32} (hd : Fet code pc pc' (.iinc j cst) 3) (hl : Ls[j]? = some (.val (.int x))) (hl' : storeLocals Ls j (.int (x + Int32.ofInt cst)) = some Ls') (hr : Wp l R n0 K Q h k n pc' Ls' st) : Wp l R n0 K Q h k n pc Ls st := by
  obtain ⟨p, e, s, m, args, below, meth, c⟩ := K
  obtain ⟨hx, hby, hZ, hown, hnm, hml, hret, hlk⟩ := ok
  obtain ⟨hd, rfl⟩ := hd
  intro T locs X hT hF
  obtain ⟨s₂, o, h1, h2⟩ := hr T locs X hT hF
  exact ⟨s₂, o, XS.iinc X.here hx rfl (hb hby hd) hl hl' h1, h2⟩
theorem w_iconst (ok : Ok Z K code own nm maxL ret) {i : Int} {z : Int32} (hd : Fet code pc pc' (.iconst i) 1) (hz : Int32.ofInt i = z) (hr : Wp l R n0 K Q h k n pc' Ls (.int z :: st)) : Wp l R n0 K Q h k n pc Ls st := by
  obtain ⟨p, e, s, m, args, below, meth, c⟩ := K
  obtain ⟨hx, hby, hZ, hown, hnm, hml, hret, hlk⟩ := ok
  obtain ⟨hd, rfl⟩ := hd
  intro T locs X hT hF
  subst hz
  obtain ⟨s₂, o, h1, h2⟩ := hr T locs X hT hF
  exact ⟨s₂, o, XS.iconst X.here hx rfl (hb hby hd) h1, h2⟩
theorem w_bipush (ok : Ok Z K code own nm maxL ret) {i : Int} {z : Int32} (hd : Fet code pc pc' (.bipush i) 2) (hz : (Int8.ofInt i).toInt32 = z) (hr : Wp l R n0 K Q h k n pc' Ls (.int z :: st)) : Wp l R n0 K Q h k n pc Ls st := by
  obtain ⟨p, e, s, m, args, below, meth, c⟩ := K
  obtain ⟨hx, hby, hZ, hown, hnm, hml, hret, hlk⟩ := ok
  obtain ⟨hd, rfl⟩ := hd
  intro T locs X hT hF
  subst hz
  obtain ⟨s₂, o, h1, h2⟩ := hr T locs X hT hF
  exact ⟨s₂, o, XS.bipush X.here hx rfl (hb hby hd) h1, h2⟩
theorem w_sipush (ok : Ok Z K code own nm maxL ret) {i : Int} {z : Int32} (hd : Fet code pc pc' (.sipush i) 3) (hz : (Int16.ofInt i).toInt32 = z) (hr : Wp l R n0 K Q h k n pc' Ls (.int z :: st)) : Wp l R n0 K Q h k n pc Ls st := by
  obtain ⟨p, e, s, m, args, below, meth, c⟩ := K
  obtain ⟨hx, hby, hZ, hown, hnm, hml, hret, hlk⟩ := ok
  obtain ⟨hd, rfl⟩ := hd
  intro T locs X hT hF
  subst hz
  obtain ⟨s₂, o, h1, h2⟩ := hr T locs X hT hF
  exact ⟨s₂, o, XS.sipush X.here hx rfl (hb hby hd) h1, h2⟩
theorem w_lconst (ok : Ok Z K code own nm maxL ret) {i : Fin 2} {z : Int64} (hd : Fet code pc pc' (.lconst i) 1) (hz : Int64.ofNat i = z) (hr : Wp l R n0 K Q h k n pc' Ls (.long z :: st)) : Wp l R n0 K Q h k n pc Ls st := by
  obtain ⟨p, e, s, m, args, below, meth, c⟩ := K
  obtain ⟨hx, hby, hZ, hown, hnm, hml, hret, hlk⟩ := ok
  obtain ⟨hd, rfl⟩ := hd
  intro T locs X hT hF
  subst hz
  obtain ⟨s₂, o, h1, h2⟩ := hr T locs X hT hF
  exact ⟨s₂, o, XS.lconst X.here hx rfl (hb hby hd) h1, h2⟩
theorem w_aconstNull (ok : Ok Z K code own nm maxL ret)  (hd : Fet code pc pc' (.aconst_null) 1)  (hr : Wp l R n0 K Q h k n pc' Ls (.null :: st)) : Wp l R n0 K Q h k n pc Ls st := by
  obtain ⟨p, e, s, m, args, below, meth, c⟩ := K
  obtain ⟨hx, hby, hZ, hown, hnm, hml, hret, hlk⟩ := ok
  obtain ⟨hd, rfl⟩ := hd
  intro T locs X hT hF
  obtain ⟨s₂, o, h1, h2⟩ := hr T locs X hT hF
  exact ⟨s₂, o, XS.aconstNull X.here hx rfl (hb hby hd)  h1, h2⟩
theorem w_iadd (ok : Ok Z K code own nm maxL ret) {x y : Int32} (hd : Fet code pc pc' (.iadd) 1)  (hr : Wp l R n0 K Q h k n pc' Ls (.int (x + y) :: st)) : Wp l R n0 K Q h k n pc Ls (.int y :: .int x :: st) := by
  obtain ⟨p, e, s, m, args, below, meth, c⟩ := K
  obtain ⟨hx, hby, hZ, hown, hnm, hml, hret, hlk⟩ := ok
  obtain ⟨hd, rfl⟩ := hd
  intro T locs X hT hF
  obtain ⟨s₂, o, h1, h2⟩ := hr T locs X hT hF
  exact ⟨s₂, o, XS.iadd X.here hx rfl (hb hby hd) rfl h1, h2⟩
theorem w_isub (ok : Ok Z K code own nm maxL ret) {x y : Int32} (hd : Fet code pc pc' (.isub) 1)  (hr : Wp l R n0 K Q h k n pc' Ls (.int (x - y) :: st)) : Wp l R n0 K Q h k n pc Ls (.int y :: .int x :: st) := by
  obtain ⟨p, e, s, m, args, below, meth, c⟩ := K
  obtain ⟨hx, hby, hZ, hown, hnm, hml, hret, hlk⟩ := ok
  obtain ⟨hd, rfl⟩ := hd
  intro T locs X hT hF
  obtain ⟨s₂, o, h1, h2⟩ := hr T locs X hT hF
  exact ⟨s₂, o, XS.isub X.here hx rfl (hb hby hd) rfl h1, h2⟩
theorem w_imul (ok : Ok Z K code own nm maxL ret) {x y : Int32} (hd : Fet code pc pc' (.imul) 1)  (hr : Wp l R n0 K Q h k n pc' Ls (.int (x * y) :: st)) : Wp l R n0 K Q h k n pc Ls (.int y :: .int x :: st) := by
  obtain ⟨p, e, s, m, args, below, meth, c⟩ := K
  obtain ⟨hx, hby, hZ, hown, hnm, hml, hret, hlk⟩ := ok
  obtain ⟨hd, rfl⟩ := hd
  intro T locs X hT hF
  obtain ⟨s₂, o, h1, h2⟩ := hr T locs X hT hF
  exact ⟨s₂, o, XS.imul X.here hx rfl (hb hby hd) rfl h1, h2⟩
theorem w_iand (ok : Ok Z K code own nm maxL ret) {x y : Int32} (hd : Fet code pc pc' (.iand) 1)  (hr : Wp l R n0 K Q h k n pc' Ls (.int (x &&& y) :: st)) : Wp l R n0 K Q h k n pc Ls (.int y :: .int x :: st) := by
  obtain ⟨p, e, s, m, args, below, meth, c⟩ := K
  obtain ⟨hx, hby, hZ, hown, hnm, hml, hret, hlk⟩ := ok
  obtain ⟨hd, rfl⟩ := hd
  intro T locs X hT hF
  obtain ⟨s₂, o, h1, h2⟩ := hr T locs X hT hF
  exact ⟨s₂, o, XS.iand X.here hx rfl (hb hby hd) rfl h1, h2⟩
theorem w_ior (ok : Ok Z K code own nm maxL ret) {x y : Int32} (hd : Fet code pc pc' (.ior) 1)  (hr : Wp l R n0 K Q h k n pc' Ls (.int (x ||| y) :: st)) : Wp l R n0 K Q h k n pc Ls (.int y :: .int x :: st) := by
  obtain ⟨p, e, s, m, args, below, meth, c⟩ := K
  obtain ⟨hx, hby, hZ, hown, hnm, hml, hret, hlk⟩ := ok
  obtain ⟨hd, rfl⟩ := hd
  intro T locs X hT hF
  obtain ⟨s₂, o, h1, h2⟩ := hr T locs X hT hF
  exact ⟨s₂, o, XS.ior X.here hx rfl (hb hby hd) rfl h1, h2⟩
theorem w_ixor (ok : Ok Z K code own nm maxL ret) {x y : Int32} (hd : Fet code pc pc' (.ixor) 1)  (hr : Wp l R n0 K Q h k n pc' Ls (.int (x ^^^ y) :: st)) : Wp l R n0 K Q h k n pc Ls (.int y :: .int x :: st) := by
  obtain ⟨p, e, s, m, args, below, meth, c⟩ := K
  obtain ⟨hx, hby, hZ, hown, hnm, hml, hret, hlk⟩ := ok
  obtain ⟨hd, rfl⟩ := hd
  intro T locs X hT hF
  obtain ⟨s₂, o, h1, h2⟩ := hr T locs X hT hF
  exact ⟨s₂, o, XS.ixor X.here hx rfl (hb hby hd) rfl h1, h2⟩
theorem w_ladd (ok : Ok Z K code own nm maxL ret) {x y : Int64} (hd : Fet code pc pc' (.ladd) 1)  (hr : Wp l R n0 K Q h k n pc' Ls (.long (x + y) :: st)) : Wp l R n0 K Q h k n pc Ls (.long y :: .long x :: st) := by
  obtain ⟨p, e, s, m, args, below, meth, c⟩ := K
  obtain ⟨hx, hby, hZ, hown, hnm, hml, hret, hlk⟩ := ok
  obtain ⟨hd, rfl⟩ := hd
  intro T locs X hT hF
  obtain ⟨s₂, o, h1, h2⟩ := hr T locs X hT hF
  exact ⟨s₂, o, XS.ladd X.here hx rfl (hb hby hd) rfl h1, h2⟩
theorem w_lsub (ok : Ok Z K code own nm maxL ret) {x y : Int64} (hd : Fet code pc pc' (.lsub) 1)  (hr : Wp l R n0 K Q h k n pc' Ls (.long (x - y) :: st)) : Wp l R n0 K Q h k n pc Ls (.long y :: .long x :: st) := by
  obtain ⟨p, e, s, m, args, below, meth, c⟩ := K
  obtain ⟨hx, hby, hZ, hown, hnm, hml, hret, hlk⟩ := ok
  obtain ⟨hd, rfl⟩ := hd
  intro T locs X hT hF
  obtain ⟨s₂, o, h1, h2⟩ := hr T locs X hT hF
  exact ⟨s₂, o, XS.lsub X.here hx rfl (hb hby hd) rfl h1, h2⟩
theorem w_lmul (ok : Ok Z K code own nm maxL ret) {x y : Int64} (hd : Fet code pc pc' (.lmul) 1)  (hr : Wp l R n0 K Q h k n pc' Ls (.long (x * y) :: st)) : Wp l R n0 K Q h k n pc Ls (.long y :: .long x :: st) := by
  obtain ⟨p, e, s, m, args, below, meth, c⟩ := K
  obtain ⟨hx, hby, hZ, hown, hnm, hml, hret, hlk⟩ := ok
  obtain ⟨hd, rfl⟩ := hd
  intro T locs X hT hF
  obtain ⟨s₂, o, h1, h2⟩ := hr T locs X hT hF
  exact ⟨s₂, o, XS.lmul X.here hx rfl (hb hby hd) rfl h1, h2⟩
theorem w_land (ok : Ok Z K code own nm maxL ret) {x y : Int64} (hd : Fet code pc pc' (.land) 1)  (hr : Wp l R n0 K Q h k n pc' Ls (.long (x &&& y) :: st)) : Wp l R n0 K Q h k n pc Ls (.long y :: .long x :: st) := by
  obtain ⟨p, e, s, m, args, below, meth, c⟩ := K
  obtain ⟨hx, hby, hZ, hown, hnm, hml, hret, hlk⟩ := ok
  obtain ⟨hd, rfl⟩ := hd
  intro T locs X hT hF
  obtain ⟨s₂, o, h1, h2⟩ := hr T locs X hT hF
  exact ⟨s₂, o, XS.land X.here hx rfl (hb hby hd) rfl h1, h2⟩
theorem w_lor (ok : Ok Z K code own nm maxL ret) {x y : Int64} (hd : Fet code pc pc' (.lor) 1)  (hr : Wp l R n0 K Q h k n pc' Ls (.long (x ||| y) :: st)) : Wp l R n0 K Q h k n pc Ls (.long y :: .long x :: st) := by
  obtain ⟨p, e, s, m, args, below, meth, c⟩ := K
  obtain ⟨hx, hby, hZ, hown, hnm, hml, hret, hlk⟩ := ok
  obtain ⟨hd, rfl⟩ := hd
  intro T locs X hT hF
  obtain ⟨s₂, o, h1, h2⟩ := hr T locs X hT hF
  exact ⟨s₂, o, XS.lor X.here hx rfl (hb hby hd) rfl h1, h2⟩
theorem w_lxor (ok : Ok Z K code own nm maxL ret) {x y : Int64} (hd : Fet code pc pc' (.lxor) 1)  (hr : Wp l R n0 K Q h k n pc' Ls (.long (x ^^^ y) :: st)) : Wp l R n0 K Q h k n pc Ls (.long y :: .long x :: st) := by
  obtain ⟨p, e, s, m, args, below, meth, c⟩ := K
  obtain ⟨hx, hby, hZ, hown, hnm, hml, hret, hlk⟩ := ok
  obtain ⟨hd, rfl⟩ := hd
  intro T locs X hT hF
  obtain ⟨s₂, o, h1, h2⟩ := hr T locs X hT hF
  exact ⟨s₂, o, XS.lxor X.here hx rfl (hb hby hd) rfl h1, h2⟩
theorem w_ishl (ok : Ok Z K code own nm maxL ret) {x y : Int32} (hd : Fet code pc pc' (.ishl) 1)  (hr : Wp l R n0 K Q h k n pc' Ls (.int (x <<< (y &&& 31)) :: st)) : Wp l R n0 K Q h k n pc Ls (.int y :: .int x :: st) := by
  obtain ⟨p, e, s, m, args, below, meth, c⟩ := K
  obtain ⟨hx, hby, hZ, hown, hnm, hml, hret, hlk⟩ := ok
  obtain ⟨hd, rfl⟩ := hd
  intro T locs X hT hF
  obtain ⟨s₂, o, h1, h2⟩ := hr T locs X hT hF
  exact ⟨s₂, o, XS.ishl X.here hx rfl (hb hby hd) rfl h1, h2⟩
theorem w_ishr (ok : Ok Z K code own nm maxL ret) {x y : Int32} (hd : Fet code pc pc' (.ishr) 1)  (hr : Wp l R n0 K Q h k n pc' Ls (.int (x >>> (y &&& 31)) :: st)) : Wp l R n0 K Q h k n pc Ls (.int y :: .int x :: st) := by
  obtain ⟨p, e, s, m, args, below, meth, c⟩ := K
  obtain ⟨hx, hby, hZ, hown, hnm, hml, hret, hlk⟩ := ok
  obtain ⟨hd, rfl⟩ := hd
  intro T locs X hT hF
  obtain ⟨s₂, o, h1, h2⟩ := hr T locs X hT hF
  exact ⟨s₂, o, XS.ishr X.here hx rfl (hb hby hd) rfl h1, h2⟩
theorem w_iushr (ok : Ok Z K code own nm maxL ret) {x y : Int32} (hd : Fet code pc pc' (.iushr) 1)  (hr : Wp l R n0 K Q h k n pc' Ls (.int ((x.toUInt32 >>> (y &&& 31).toUInt32).toInt32) :: st)) : Wp l R n0 K Q h k n pc Ls (.int y :: .int x :: st) := by
  obtain ⟨p, e, s, m, args, below, meth, c⟩ := K
  obtain ⟨hx, hby, hZ, hown, hnm, hml, hret, hlk⟩ := ok
  obtain ⟨hd, rfl⟩ := hd
  intro T locs X hT hF
  obtain ⟨s₂, o, h1, h2⟩ := hr T locs X hT hF
  exact ⟨s₂, o, XS.iushr X.here hx rfl (hb hby hd) rfl h1, h2⟩
theorem w_lshl (ok : Ok Z K code own nm maxL ret) {x : Int64} {y : Int32} (hd : Fet code pc pc' (.lshl) 1)  (hr : Wp l R n0 K Q h k n pc' Ls (.long (x <<< (y &&& 0x3f).toInt64) :: st)) : Wp l R n0 K Q h k n pc Ls (.int y :: .long x :: st) := by
  obtain ⟨p, e, s, m, args, below, meth, c⟩ := K
  obtain ⟨hx, hby, hZ, hown, hnm, hml, hret, hlk⟩ := ok
  obtain ⟨hd, rfl⟩ := hd
  intro T locs X hT hF
  obtain ⟨s₂, o, h1, h2⟩ := hr T locs X hT hF
  exact ⟨s₂, o, XS.lshl X.here hx rfl (hb hby hd) rfl h1, h2⟩
theorem w_lshr (ok : Ok Z K code own nm maxL ret) {x : Int64} {y : Int32} (hd : Fet code pc pc' (.lshr) 1)  (hr : Wp l R n0 K Q h k n pc' Ls (.long (x >>> (y &&& 0x3f).toInt64) :: st)) : Wp l R n0 K Q h k n pc Ls (.int y :: .long x :: st) := by
  obtain ⟨p, e, s, m, args, below, meth, c⟩ := K
  obtain ⟨hx, hby, hZ, hown, hnm, hml, hret, hlk⟩ := ok
  obtain ⟨hd, rfl⟩ := hd
  intro T locs X hT hF
  obtain ⟨s₂, o, h1, h2⟩ := hr T locs X hT hF
  exact ⟨s₂, o, XS.lshr X.here hx rfl (hb hby hd) rfl h1, h2⟩
theorem w_lushr (ok : Ok Z K code own nm maxL ret) {x : Int64} {y : Int32} (hd : Fet code pc pc' (.lushr) 1)  (hr : Wp l R n0 K Q h k n pc' Ls (.long ((x.toUInt64 >>> (y &&& 0x3f).toInt64.toUInt64).toInt64) :: st)) : Wp l R n0 K Q h k n pc Ls (.int y :: .long x :: st) := by
  obtain ⟨p, e, s, m, args, below, meth, c⟩ := K
  obtain ⟨hx, hby, hZ, hown, hnm, hml, hret, hlk⟩ := ok
  obtain ⟨hd, rfl⟩ := hd
  intro T locs X hT hF
  obtain ⟨s₂, o, h1, h2⟩ := hr T locs X hT hF
  exact ⟨s₂, o, XS.lushr X.here hx rfl (hb hby hd) rfl h1, h2⟩
theorem w_idiv (ok : Ok Z K code own nm maxL ret) {x y : Int32} (hd : Fet code pc pc' (.idiv) 1) (hy : y ≠ 0) (hr : Wp l R n0 K Q h k n pc' Ls (.int (x / y) :: st)) : Wp l R n0 K Q h k n pc Ls (.int y :: .int x :: st) := by
  obtain ⟨p, e, s, m, args, below, meth, c⟩ := K
  obtain ⟨hx, hby, hZ, hown, hnm, hml, hret, hlk⟩ := ok
  obtain ⟨hd, rfl⟩ := hd
  intro T locs X hT hF
  obtain ⟨s₂, o, h1, h2⟩ := hr T locs X hT hF
  exact ⟨s₂, o, XS.idiv X.here hx rfl (hb hby hd) rfl hy h1, h2⟩
theorem w_ldiv (ok : Ok Z K code own nm maxL ret) {x y : Int64} (hd : Fet code pc pc' (.ldiv) 1) (hy : y ≠ 0) (hr : Wp l R n0 K Q h k n pc' Ls (.long (x / y) :: st)) : Wp l R n0 K Q h k n pc Ls (.long y :: .long x :: st) := by
  obtain ⟨p, e, s, m, args, below, meth, c⟩ := K
  obtain ⟨hx, hby, hZ, hown, hnm, hml, hret, hlk⟩ := ok
  obtain ⟨hd, rfl⟩ := hd
  intro T locs X hT hF
  obtain ⟨s₂, o, h1, h2⟩ := hr T locs X hT hF
  exact ⟨s₂, o, XS.ldiv X.here hx rfl (hb hby hd) rfl hy h1, h2⟩
theorem w_ineg (ok : Ok Z K code own nm maxL ret) {x : Int32} (hd : Fet code pc pc' (.ineg) 1)  (hr : Wp l R n0 K Q h k n pc' Ls (.int (-x) :: st)) : Wp l R n0 K Q h k n pc Ls (.int x :: st) := by
  obtain ⟨p, e, s, m, args, below, meth, c⟩ := K
  obtain ⟨hx, hby, hZ, hown, hnm, hml, hret, hlk⟩ := ok
  obtain ⟨hd, rfl⟩ := hd
  intro T locs X hT hF
  obtain ⟨s₂, o, h1, h2⟩ := hr T locs X hT hF
  exact ⟨s₂, o, XS.ineg X.here hx rfl (hb hby hd) rfl h1, h2⟩
theorem w_lneg (ok : Ok Z K code own nm maxL ret) {x : Int64} (hd : Fet code pc pc' (.lneg) 1)  (hr : Wp l R n0 K Q h k n pc' Ls (.long (-x) :: st)) : Wp l R n0 K Q h k n pc Ls (.long x :: st) := by
  obtain ⟨p, e, s, m, args, below, meth, c⟩ := K
  obtain ⟨hx, hby, hZ, hown, hnm, hml, hret, hlk⟩ := ok
  obtain ⟨hd, rfl⟩ := hd
  intro T locs X hT hF
  obtain ⟨s₂, o, h1, h2⟩ := hr T locs X hT hF
  exact ⟨s₂, o, XS.lneg X.here hx rfl (hb hby hd) rfl h1, h2⟩
theorem w_i2l (ok : Ok Z K code own nm maxL ret) {x : Int32} (hd : Fet code pc pc' (.i2l) 1)  (hr : Wp l R n0 K Q h k n pc' Ls (.long x.toInt64 :: st)) : Wp l R n0 K Q h k n pc Ls (.int x :: st) := by
  obtain ⟨p, e, s, m, args, below, meth, c⟩ := K
  obtain ⟨hx, hby, hZ, hown, hnm, hml, hret, hlk⟩ := ok
  obtain ⟨hd, rfl⟩ := hd
  intro T locs X hT hF
  obtain ⟨s₂, o, h1, h2⟩ := hr T locs X hT hF
  exact ⟨s₂, o, XS.i2l X.here hx rfl (hb hby hd) rfl h1, h2⟩
theorem w_l2i (ok : Ok Z K code own nm maxL ret) {x : Int64} (hd : Fet code pc pc' (.l2i) 1)  (hr : Wp l R n0 K Q h k n pc' Ls (.int x.toInt32 :: st)) : Wp l R n0 K Q h k n pc Ls (.long x :: st) := by
  obtain ⟨p, e, s, m, args, below, meth, c⟩ := K
  obtain ⟨hx, hby, hZ, hown, hnm, hml, hret, hlk⟩ := ok
  obtain ⟨hd, rfl⟩ := hd
  intro T locs X hT hF
  obtain ⟨s₂, o, h1, h2⟩ := hr T locs X hT hF
  exact ⟨s₂, o, XS.l2i X.here hx rfl (hb hby hd) rfl h1, h2⟩
theorem w_i2b (ok : Ok Z K code own nm maxL ret) {x : Int32} (hd : Fet code pc pc' (.i2b) 1)  (hr : Wp l R n0 K Q h k n pc' Ls (.int x.toInt8.toInt32 :: st)) : Wp l R n0 K Q h k n pc Ls (.int x :: st) := by
  obtain ⟨p, e, s, m, args, below, meth, c⟩ := K
  obtain ⟨hx, hby, hZ, hown, hnm, hml, hret, hlk⟩ := ok
  obtain ⟨hd, rfl⟩ := hd
  intro T locs X hT hF
  obtain ⟨s₂, o, h1, h2⟩ := hr T locs X hT hF
  exact ⟨s₂, o, XS.i2b X.here hx rfl (hb hby hd) rfl h1, h2⟩
theorem w_i2s (ok : Ok Z K code own nm maxL ret) {x : Int32} (hd : Fet code pc pc' (.i2s) 1)  (hr : Wp l R n0 K Q h k n pc' Ls (.int x.toInt16.toInt32 :: st)) : Wp l R n0 K Q h k n pc Ls (.int x :: st) := by
  obtain ⟨p, e, s, m, args, below, meth, c⟩ := K
  obtain ⟨hx, hby, hZ, hown, hnm, hml, hret, hlk⟩ := ok
  obtain ⟨hd, rfl⟩ := hd
  intro T locs X hT hF
  obtain ⟨s₂, o, h1, h2⟩ := hr T locs X hT hF
  exact ⟨s₂, o, XS.i2s X.here hx rfl (hb hby hd) rfl h1, h2⟩
theorem w_i2c (ok : Ok Z K code own nm maxL ret) {x : Int32} (hd : Fet code pc pc' (.i2c) 1)  (hr : Wp l R n0 K Q h k n pc' Ls (.int x.toUInt32.toUInt16.toUInt32.toInt32 :: st)) : Wp l R n0 K Q h k n pc Ls (.int x :: st) := by
  obtain ⟨p, e, s, m, args, below, meth, c⟩ := K
  obtain ⟨hx, hby, hZ, hown, hnm, hml, hret, hlk⟩ := ok
  obtain ⟨hd, rfl⟩ := hd
  intro T locs X hT hF
  obtain ⟨s₂, o, h1, h2⟩ := hr T locs X hT hF
  exact ⟨s₂, o, XS.i2c X.here hx rfl (hb hby hd) rfl h1, h2⟩
theorem w_dup (ok : Ok Z K code own nm maxL ret) {x : Value} (hd : Fet code pc pc' (.dup) 1) (hc : x.category = 1) (hr : Wp l R n0 K Q h k n pc' Ls (x :: x :: st)) : Wp l R n0 K Q h k n pc Ls (x :: st) := by
  obtain ⟨p, e, s, m, args, below, meth, c⟩ := K
  obtain ⟨hx, hby, hZ, hown, hnm, hml, hret, hlk⟩ := ok
  obtain ⟨hd, rfl⟩ := hd
  intro T locs X hT hF
  obtain ⟨s₂, o, h1, h2⟩ := hr T locs X hT hF
  exact ⟨s₂, o, XS.dup X.here hx rfl (hb hby hd) rfl hc h1, h2⟩
theorem w_pop (ok : Ok Z K code own nm maxL ret) {x : Value} (hd : Fet code pc pc' (.pop) 1) (hc : x.category = 1) (hr : Wp l R n0 K Q h k n pc' Ls st) : Wp l R n0 K Q h k n pc Ls (x :: st) := by
  obtain ⟨p, e, s, m, args, below, meth, c⟩ := K
  obtain ⟨hx, hby, hZ, hown, hnm, hml, hret, hlk⟩ := ok
  obtain ⟨hd, rfl⟩ := hd
  intro T locs X hT hF
  obtain ⟨s₂, o, h1, h2⟩ := hr T locs X hT hF
  exact ⟨s₂, o, XS.pop X.here hx rfl (hb hby hd) rfl hc h1, h2⟩
theorem w_dupX1 (ok : Ok Z K code own nm maxL ret) {x y : Value} (hd : Fet code pc pc' (.dup_x1) 1) (hc : x.category = 1) (hc' : y.category = 1) (hr : Wp l R n0 K Q h k n pc' Ls (x :: y :: x :: st)) : Wp l R n0 K Q h k n pc Ls (x :: y :: st) := by
  obtain ⟨p, e, s, m, args, below, meth, c⟩ := K
  obtain ⟨hx, hby, hZ, hown, hnm, hml, hret, hlk⟩ := ok
  obtain ⟨hd, rfl⟩ := hd
  intro T locs X hT hF
  obtain ⟨s₂, o, h1, h2⟩ := hr T locs X hT hF
  exact ⟨s₂, o, XS.dupX1 X.here hx rfl (hb hby hd) rfl hc hc' h1, h2⟩
theorem w_dup2 (ok : Ok Z K code own nm maxL ret) {x y : Value} (hd : Fet code pc pc' (.dup2) 1) (hc : x.category = 1) (hc' : y.category = 1) (hr : Wp l R n0 K Q h k n pc' Ls (x :: y :: x :: y :: st)) : Wp l R n0 K Q h k n pc Ls (x :: y :: st) := by
  obtain ⟨p, e, s, m, args, below, meth, c⟩ := K
  obtain ⟨hx, hby, hZ, hown, hnm, hml, hret, hlk⟩ := ok
  obtain ⟨hd, rfl⟩ := hd
  intro T locs X hT hF
  obtain ⟨s₂, o, h1, h2⟩ := hr T locs X hT hF
  exact ⟨s₂, o, Jvm.Free.XT.dup2 X.here hx rfl (hb hby hd) rfl hc hc' h1, h2⟩
theorem w_dup2L (ok : Ok Z K code own nm maxL ret) {x : Int64} (hd : Fet code pc pc' (.dup2) 1)  (hr : Wp l R n0 K Q h k n pc' Ls (.long x :: .long x :: st)) : Wp l R n0 K Q h k n pc Ls (.long x :: st) := by
  obtain ⟨p, e, s, m, args, below, meth, c⟩ := K
  obtain ⟨hx, hby, hZ, hown, hnm, hml, hret, hlk⟩ := ok
  obtain ⟨hd, rfl⟩ := hd
  intro T locs X hT hF
  obtain ⟨s₂, o, h1, h2⟩ := hr T locs X hT hF
  exact ⟨s₂, o, Jvm.Free.XT.dup2L X.here hx rfl (hb hby hd) rfl h1, h2⟩
theorem w_irem (ok : Ok Z K code own nm maxL ret) {x y : Int32} (hd : Fet code pc pc' (.irem) 1) (hy : y ≠ 0) (hr : Wp l R n0 K Q h k n pc' Ls (.int (x % y) :: st)) : Wp l R n0 K Q h k n pc Ls (.int y :: .int x :: st) := by
  obtain ⟨p, e, s, m, args, below, meth, c⟩ := K
  obtain ⟨hx, hby, hZ, hown, hnm, hml, hret, hlk⟩ := ok
  obtain ⟨hd, rfl⟩ := hd
  intro T locs X hT hF
  obtain ⟨s₂, o, h1, h2⟩ := hr T locs X hT hF
  exact ⟨s₂, o, iremM X hx rfl (hb hby hd) rfl hy h1, h2⟩
theorem lrem_mod (x y : Int64) : x - (x / y) * y = x % y := by
  apply Int64.toInt_inj.mp
  have h1 := Int64.le_toInt (x % y)
  have h2 := Int64.toInt_lt (x % y)
  rw [Int64.toInt_sub, Int64.toInt_mul, Int64.toInt_div, Int.bmod_mul_bmod, Int.sub_bmod_bmod, Int.mul_comm (x.toInt.tdiv y.toInt), ← Int.tmod_def, ← Int64.toInt_mod]
  exact Int.bmod_eq_of_le_mul_two (by omega) (by omega)

theorem w_lrem (ok : Ok Z K code own nm maxL ret) {x y : Int64} (hd : Fet code pc pc' (.lrem) 1) (hy : y ≠ 0) (hr : Wp l R n0 K Q h k n pc' Ls (.long (x % y) :: st)) : Wp l R n0 K Q h k n pc Ls (.long y :: .long x :: st) := by
  obtain ⟨p, e, s, m, args, below, meth, c⟩ := K
  obtain ⟨hx, hby, hZ, hown, hnm, hml, hret, hlk⟩ := ok
  obtain ⟨hd, rfl⟩ := hd
  intro T locs X hT hF
  obtain ⟨s₂, o, h1, h2⟩ := hr T locs X hT hF
  exact ⟨s₂, o, XS.lrem X.here hx rfl (hb hby hd) rfl hy (by rw [lrem_mod]; exact h1), h2⟩
theorem w_ldc (ok : Ok Z K code own nm maxL ret) {i : Nat} {x : Int32} (w : (Cond.constant own i x).before a0 Z = true) (hd : Fet code pc pc' (.ldc i) 2) (hr : Wp l R n0 K Q h k n pc' Ls (.int x :: st)) : Wp l R n0 K Q h k n pc Ls st := by
  obtain ⟨p, e, s, m, args, below, meth, c⟩ := K
  obtain ⟨hx, hby, hZ, hown, hnm, hml, hret, hlk⟩ := ok
  obtain ⟨hd, rfl⟩ := hd
  intro T locs X hT hF
  obtain ⟨s₂, o, h1, h2⟩ := hr T locs X hT hF
  exact ⟨s₂, o, X.ldcInt hx hown (mvT hZ w) (g := mkF m pc Ls st) rfl (hb hby hd) _ h1, h2⟩
theorem w_ldc2 (ok : Ok Z K code own nm maxL ret) {i : Nat} {x : Int64} (w : (Cond.constantLong own i x).before a0 Z = true) (hd : Fet code pc pc' (.ldc2_w i) 3) (hr : Wp l R n0 K Q h k n pc' Ls (.long x :: st)) : Wp l R n0 K Q h k n pc Ls st := by
  obtain ⟨p, e, s, m, args, below, meth, c⟩ := K
  obtain ⟨hx, hby, hZ, hown, hnm, hml, hret, hlk⟩ := ok
  obtain ⟨hd, rfl⟩ := hd
  intro T locs X hT hF
  obtain ⟨s₂, o, h1, h2⟩ := hr T locs X hT hF
  exact ⟨s₂, o, X.ldc2Long hx hown (mvT hZ w) (g := mkF m pc Ls st) rfl (hb hby hd) _ h1, h2⟩
theorem w_goto (ok : Ok Z K code own nm maxL ret) {pcN : Nat} {o : Int} (hd : Brn code pc pcN pc' (.goto o) o) (hr : Wp l R n0 K Q h k n pc' Ls st) : Wp l R n0 K Q h k n pc Ls st := by
  obtain ⟨p, e, s, m, args, below, meth, c⟩ := K
  obtain ⟨hx, hby, hZ, hown, hnm, hml, hret, hlk⟩ := ok
  obtain ⟨hd, rfl, ho, hp⟩ := hd
  intro T locs X hT hF
  obtain ⟨s₂, o, h1, h2⟩ := hr T locs X hT hF
  exact ⟨s₂, o, XS.goto X.here hx rfl rfl (hb hby hd) ho hp h1, h2⟩
theorem w_if0 (ok : Ok Z K code own nm maxL ret) {pcN pcT : Nat} {o : Int} {cd : ClassFile.Cond} {x : Int32} (hd : Brn code pc pcN pcT (.ifCond cd o) o) (hy : ifCond.holds cd x = true → Wp l R n0 K Q h k n pcT Ls st) (hn : ifCond.holds cd x = false → Wp l R n0 K Q h k n pcN Ls st) : Wp l R n0 K Q h k n pc Ls (.int x :: st) := by
  obtain ⟨p, e, s, m, args, below, meth, c⟩ := K
  obtain ⟨hx, hby, hZ, hown, hnm, hml, hret, hlk⟩ := ok
  obtain ⟨hd, rfl, ho, hp⟩ := hd
  intro T locs X hT hF
  cases hc : ifCond.holds cd x
  · obtain ⟨s₂, o, h1, h2⟩ := hn hc T locs X hT hF
    exact ⟨s₂, o, XS.ifNo X.here hx rfl (hb hby hd) rfl hc h1, h2⟩
  · obtain ⟨s₂, o, h1, h2⟩ := hy hc T locs X hT hF
    exact ⟨s₂, o, XS.ifYes X.here hx rfl rfl (hb hby hd) rfl hc ho hp h1, h2⟩
theorem w_ic (ok : Ok Z K code own nm maxL ret) {pcN pcT : Nat} {o : Int} {cd : ClassFile.Cond} {x y : Int32} (hd : Brn code pc pcN pcT (.if_icmp cd o) o) (hy : if_icmp.holds cd x y = true → Wp l R n0 K Q h k n pcT Ls st) (hn : if_icmp.holds cd x y = false → Wp l R n0 K Q h k n pcN Ls st) : Wp l R n0 K Q h k n pc Ls (.int y :: .int x :: st) := by
  obtain ⟨p, e, s, m, args, below, meth, c⟩ := K
  obtain ⟨hx, hby, hZ, hown, hnm, hml, hret, hlk⟩ := ok
  obtain ⟨hd, rfl, ho, hp⟩ := hd
  intro T locs X hT hF
  cases hc : if_icmp.holds cd x y
  · obtain ⟨s₂, o, h1, h2⟩ := hn hc T locs X hT hF
    exact ⟨s₂, o, XS.icmpNo X.here hx rfl (hb hby hd) rfl hc h1, h2⟩
  · obtain ⟨s₂, o, h1, h2⟩ := hy hc T locs X hT hF
    exact ⟨s₂, o, XS.icmpYes X.here hx rfl rfl (hb hby hd) rfl hc ho hp h1, h2⟩
theorem w_lcmp (ok : Ok Z K code own nm maxL ret) {x y : Int64} (hd : Fet code pc pc' .lcmp 1) (hr : Wp l R n0 K Q h k n pc' Ls (.int (lcmpW x y) :: st)) : Wp l R n0 K Q h k n pc Ls (.long y :: .long x :: st) := by
  obtain ⟨p, e, s, m, args, below, meth, c⟩ := K
  obtain ⟨hx, hby, hZ, hown, hnm, hml, hret, hlk⟩ := ok
  obtain ⟨hd, rfl⟩ := hd
  intro T locs X hT hF
  obtain ⟨s₂, o, h1, h2⟩ := hr T locs X hT hF
  exact ⟨s₂, o, XS.lcmp X.here hx rfl (hb hby hd) rfl h1, h2⟩
theorem h_eq {x y : Int32} : if_icmp.holds .eq x y = decide (x = y) := by rw [Bool.eq_iff_iff]; simp [if_icmp.holds]
theorem h_ne {x y : Int32} : if_icmp.holds .ne x y = decide (¬ x = y) := by rw [Bool.eq_iff_iff]; simp [if_icmp.holds]
theorem h_lt {x y : Int32} : if_icmp.holds .lt x y = decide (x < y) := by simp [if_icmp.holds]
theorem h_ge {x y : Int32} : if_icmp.holds .ge x y = decide (¬ x < y) := by simp [if_icmp.holds]
theorem h_gt {x y : Int32} : if_icmp.holds .gt x y = decide (y < x) := by simp [if_icmp.holds]
theorem h_le {x y : Int32} : if_icmp.holds .le x y = decide (¬ y < x) := by simp [if_icmp.holds]
theorem w_ic_eq (ok : Ok Z K code own nm maxL ret) {pcN pcT : Nat} {o : Int} {x y : Int32} (hd : Brn code pc pcN pcT (.if_icmp .eq o) o) (hy : x = y → Wp l R n0 K Q h k n pcT Ls st) (hn : ¬ x = y → Wp l R n0 K Q h k n pcN Ls st) : Wp l R n0 K Q h k n pc Ls (.int y :: .int x :: st) :=
  w_ic ok hd (fun q => hy (by rw [h_eq] at q; simpa using q)) (fun q => hn (by rw [h_eq] at q; simpa using q))
theorem w_if_eq (ok : Ok Z K code own nm maxL ret) {pcN pcT : Nat} {o : Int} {x : Int32} (hd : Brn code pc pcN pcT (.ifCond .eq o) o) (hy : x = 0 → Wp l R n0 K Q h k n pcT Ls st) (hn : ¬ x = 0 → Wp l R n0 K Q h k n pcN Ls st) : Wp l R n0 K Q h k n pc Ls (.int x :: st) :=
  w_if0 ok hd (fun q => hy (by rw [if0, h_eq] at q; simpa using q)) (fun q => hn (by rw [if0, h_eq] at q; simpa using q))
theorem w_lc_eq (ok : Ok Z K code own nm maxL ret) {pcM pcN pcT : Nat} {o : Int} {x y : Int64} (hd1 : Fet code pc pcM .lcmp 1) (hd : Brn code pcM pcN pcT (.ifCond .eq o) o) (hy : x = y → Wp l R n0 K Q h k n pcT Ls st) (hn : ¬ x = y → Wp l R n0 K Q h k n pcN Ls st) : Wp l R n0 K Q h k n pc Ls (.long y :: .long x :: st) :=
  w_lcmp ok hd1 (w_if_eq ok hd (fun q => hy ((lw_eq x y).mp q)) (fun q => hn (fun r => q ((lw_eq x y).mpr r))))
theorem w_ic_ne (ok : Ok Z K code own nm maxL ret) {pcN pcT : Nat} {o : Int} {x y : Int32} (hd : Brn code pc pcN pcT (.if_icmp .ne o) o) (hy : ¬ x = y → Wp l R n0 K Q h k n pcT Ls st) (hn : x = y → Wp l R n0 K Q h k n pcN Ls st) : Wp l R n0 K Q h k n pc Ls (.int y :: .int x :: st) :=
  w_ic ok hd (fun q => hy (by rw [h_ne] at q; simpa using q)) (fun q => hn (by rw [h_ne] at q; simpa using q))
theorem w_if_ne (ok : Ok Z K code own nm maxL ret) {pcN pcT : Nat} {o : Int} {x : Int32} (hd : Brn code pc pcN pcT (.ifCond .ne o) o) (hy : ¬ x = 0 → Wp l R n0 K Q h k n pcT Ls st) (hn : x = 0 → Wp l R n0 K Q h k n pcN Ls st) : Wp l R n0 K Q h k n pc Ls (.int x :: st) :=
  w_if0 ok hd (fun q => hy (by rw [if0, h_ne] at q; simpa using q)) (fun q => hn (by rw [if0, h_ne] at q; simpa using q))
theorem w_lc_ne (ok : Ok Z K code own nm maxL ret) {pcM pcN pcT : Nat} {o : Int} {x y : Int64} (hd1 : Fet code pc pcM .lcmp 1) (hd : Brn code pcM pcN pcT (.ifCond .ne o) o) (hy : ¬ x = y → Wp l R n0 K Q h k n pcT Ls st) (hn : x = y → Wp l R n0 K Q h k n pcN Ls st) : Wp l R n0 K Q h k n pc Ls (.long y :: .long x :: st) :=
  w_lcmp ok hd1 (w_if_ne ok hd (fun q => hy (fun r => q ((lw_eq x y).mpr r))) (fun q => hn ((lw_eq x y).mp q)))
theorem w_ic_lt (ok : Ok Z K code own nm maxL ret) {pcN pcT : Nat} {o : Int} {x y : Int32} (hd : Brn code pc pcN pcT (.if_icmp .lt o) o) (hy : x < y → Wp l R n0 K Q h k n pcT Ls st) (hn : ¬ x < y → Wp l R n0 K Q h k n pcN Ls st) : Wp l R n0 K Q h k n pc Ls (.int y :: .int x :: st) :=
  w_ic ok hd (fun q => hy (by rw [h_lt] at q; simpa using q)) (fun q => hn (by rw [h_lt] at q; simpa using q))
theorem w_if_lt (ok : Ok Z K code own nm maxL ret) {pcN pcT : Nat} {o : Int} {x : Int32} (hd : Brn code pc pcN pcT (.ifCond .lt o) o) (hy : x < 0 → Wp l R n0 K Q h k n pcT Ls st) (hn : ¬ x < 0 → Wp l R n0 K Q h k n pcN Ls st) : Wp l R n0 K Q h k n pc Ls (.int x :: st) :=
  w_if0 ok hd (fun q => hy (by rw [if0, h_lt] at q; simpa using q)) (fun q => hn (by rw [if0, h_lt] at q; simpa using q))
theorem w_lc_lt (ok : Ok Z K code own nm maxL ret) {pcM pcN pcT : Nat} {o : Int} {x y : Int64} (hd1 : Fet code pc pcM .lcmp 1) (hd : Brn code pcM pcN pcT (.ifCond .lt o) o) (hy : x < y → Wp l R n0 K Q h k n pcT Ls st) (hn : ¬ x < y → Wp l R n0 K Q h k n pcN Ls st) : Wp l R n0 K Q h k n pc Ls (.long y :: .long x :: st) :=
  w_lcmp ok hd1 (w_if_lt ok hd (fun q => hy ((lw_lt x y).mp q)) (fun q => hn (fun r => q ((lw_lt x y).mpr r))))
theorem w_ic_ge (ok : Ok Z K code own nm maxL ret) {pcN pcT : Nat} {o : Int} {x y : Int32} (hd : Brn code pc pcN pcT (.if_icmp .ge o) o) (hy : ¬ x < y → Wp l R n0 K Q h k n pcT Ls st) (hn : x < y → Wp l R n0 K Q h k n pcN Ls st) : Wp l R n0 K Q h k n pc Ls (.int y :: .int x :: st) :=
  w_ic ok hd (fun q => hy (by rw [h_ge] at q; simpa using q)) (fun q => hn (by rw [h_ge] at q; simpa using q))
theorem w_if_ge (ok : Ok Z K code own nm maxL ret) {pcN pcT : Nat} {o : Int} {x : Int32} (hd : Brn code pc pcN pcT (.ifCond .ge o) o) (hy : ¬ x < 0 → Wp l R n0 K Q h k n pcT Ls st) (hn : x < 0 → Wp l R n0 K Q h k n pcN Ls st) : Wp l R n0 K Q h k n pc Ls (.int x :: st) :=
  w_if0 ok hd (fun q => hy (by rw [if0, h_ge] at q; simpa using q)) (fun q => hn (by rw [if0, h_ge] at q; simpa using q))
theorem w_lc_ge (ok : Ok Z K code own nm maxL ret) {pcM pcN pcT : Nat} {o : Int} {x y : Int64} (hd1 : Fet code pc pcM .lcmp 1) (hd : Brn code pcM pcN pcT (.ifCond .ge o) o) (hy : ¬ x < y → Wp l R n0 K Q h k n pcT Ls st) (hn : x < y → Wp l R n0 K Q h k n pcN Ls st) : Wp l R n0 K Q h k n pc Ls (.long y :: .long x :: st) :=
  w_lcmp ok hd1 (w_if_ge ok hd (fun q => hy (fun r => q ((lw_lt x y).mpr r))) (fun q => hn ((lw_lt x y).mp q)))
theorem w_ic_gt (ok : Ok Z K code own nm maxL ret) {pcN pcT : Nat} {o : Int} {x y : Int32} (hd : Brn code pc pcN pcT (.if_icmp .gt o) o) (hy : y < x → Wp l R n0 K Q h k n pcT Ls st) (hn : ¬ y < x → Wp l R n0 K Q h k n pcN Ls st) : Wp l R n0 K Q h k n pc Ls (.int y :: .int x :: st) :=
  w_ic ok hd (fun q => hy (by rw [h_gt] at q; simpa using q)) (fun q => hn (by rw [h_gt] at q; simpa using q))
theorem w_if_gt (ok : Ok Z K code own nm maxL ret) {pcN pcT : Nat} {o : Int} {x : Int32} (hd : Brn code pc pcN pcT (.ifCond .gt o) o) (hy : 0 < x → Wp l R n0 K Q h k n pcT Ls st) (hn : ¬ 0 < x → Wp l R n0 K Q h k n pcN Ls st) : Wp l R n0 K Q h k n pc Ls (.int x :: st) :=
  w_if0 ok hd (fun q => hy (by rw [if0, h_gt] at q; simpa using q)) (fun q => hn (by rw [if0, h_gt] at q; simpa using q))
theorem w_lc_gt (ok : Ok Z K code own nm maxL ret) {pcM pcN pcT : Nat} {o : Int} {x y : Int64} (hd1 : Fet code pc pcM .lcmp 1) (hd : Brn code pcM pcN pcT (.ifCond .gt o) o) (hy : y < x → Wp l R n0 K Q h k n pcT Ls st) (hn : ¬ y < x → Wp l R n0 K Q h k n pcN Ls st) : Wp l R n0 K Q h k n pc Ls (.long y :: .long x :: st) :=
  w_lcmp ok hd1 (w_if_gt ok hd (fun q => hy ((lw_gt x y).mp q)) (fun q => hn (fun r => q ((lw_gt x y).mpr r))))
theorem w_ic_le (ok : Ok Z K code own nm maxL ret) {pcN pcT : Nat} {o : Int} {x y : Int32} (hd : Brn code pc pcN pcT (.if_icmp .le o) o) (hy : ¬ y < x → Wp l R n0 K Q h k n pcT Ls st) (hn : y < x → Wp l R n0 K Q h k n pcN Ls st) : Wp l R n0 K Q h k n pc Ls (.int y :: .int x :: st) :=
  w_ic ok hd (fun q => hy (by rw [h_le] at q; simpa using q)) (fun q => hn (by rw [h_le] at q; simpa using q))
theorem w_if_le (ok : Ok Z K code own nm maxL ret) {pcN pcT : Nat} {o : Int} {x : Int32} (hd : Brn code pc pcN pcT (.ifCond .le o) o) (hy : ¬ 0 < x → Wp l R n0 K Q h k n pcT Ls st) (hn : 0 < x → Wp l R n0 K Q h k n pcN Ls st) : Wp l R n0 K Q h k n pc Ls (.int x :: st) :=
  w_if0 ok hd (fun q => hy (by rw [if0, h_le] at q; simpa using q)) (fun q => hn (by rw [if0, h_le] at q; simpa using q))
theorem w_lc_le (ok : Ok Z K code own nm maxL ret) {pcM pcN pcT : Nat} {o : Int} {x y : Int64} (hd1 : Fet code pc pcM .lcmp 1) (hd : Brn code pcM pcN pcT (.ifCond .le o) o) (hy : ¬ y < x → Wp l R n0 K Q h k n pcT Ls st) (hn : y < x → Wp l R n0 K Q h k n pcN Ls st) : Wp l R n0 K Q h k n pc Ls (.long y :: .long x :: st) :=
  w_lcmp ok hd1 (w_if_le ok hd (fun q => hy (fun r => q ((lw_gt x y).mpr r))) (fun q => hn ((lw_gt x y).mp q)))
theorem w_ifnull_yes (ok : Ok Z K code own nm maxL ret) {pcN pcT : Nat} {o : Int} (hd : Brn code pc pcN pcT (.ifnull o) o) (hr : Wp l R n0 K Q h k n pcT Ls st) : Wp l R n0 K Q h k n pc Ls (.null :: st) := by
  obtain ⟨p, e, s, m, args, below, meth, c⟩ := K
  obtain ⟨hx, hby, hZ, hown, hnm, hml, hret, hlk⟩ := ok
  obtain ⟨hd, rfl, ho, hp⟩ := hd
  intro T locs X hT hF
  obtain ⟨s₂, o, h1, h2⟩ := hr T locs X hT hF
  exact ⟨s₂, o, XS.ifnullYes X.here hx rfl rfl (hb hby hd) rfl ho hp h1, h2⟩
theorem w_ifnull_no (ok : Ok Z K code own nm maxL ret) {pcN pcT : Nat} {o : Int} {b : Addr} (hd : Brn code pc pcN pcT (.ifnull o) o) (hr : Wp l R n0 K Q h k n pcN Ls st) : Wp l R n0 K Q h k n pc Ls (.ref b :: st) := by
  obtain ⟨p, e, s, m, args, below, meth, c⟩ := K
  obtain ⟨hx, hby, hZ, hown, hnm, hml, hret, hlk⟩ := ok
  obtain ⟨hd, rfl, ho, hp⟩ := hd
  intro T locs X hT hF
  obtain ⟨s₂, o, h1, h2⟩ := hr T locs X hT hF
  exact ⟨s₂, o, XS.ifnullNo X.here hx rfl (hb hby hd) rfl h1, h2⟩
theorem w_ifnonnull_yes (ok : Ok Z K code own nm maxL ret) {pcN pcT : Nat} {o : Int} {b : Addr} (hd : Brn code pc pcN pcT (.ifnonnull o) o) (hr : Wp l R n0 K Q h k n pcT Ls st) : Wp l R n0 K Q h k n pc Ls (.ref b :: st) := by
  obtain ⟨p, e, s, m, args, below, meth, c⟩ := K
  obtain ⟨hx, hby, hZ, hown, hnm, hml, hret, hlk⟩ := ok
  obtain ⟨hd, rfl, ho, hp⟩ := hd
  intro T locs X hT hF
  obtain ⟨s₂, o, h1, h2⟩ := hr T locs X hT hF
  exact ⟨s₂, o, XS.ifnonnullYes X.here hx rfl rfl (hb hby hd) rfl ho hp h1, h2⟩
theorem w_ifnonnull_no (ok : Ok Z K code own nm maxL ret) {pcN pcT : Nat} {o : Int} (hd : Brn code pc pcN pcT (.ifnonnull o) o) (hr : Wp l R n0 K Q h k n pcN Ls st) : Wp l R n0 K Q h k n pc Ls (.null :: st) := by
  obtain ⟨p, e, s, m, args, below, meth, c⟩ := K
  obtain ⟨hx, hby, hZ, hown, hnm, hml, hret, hlk⟩ := ok
  obtain ⟨hd, rfl, ho, hp⟩ := hd
  intro T locs X hT hF
  obtain ⟨s₂, o, h1, h2⟩ := hr T locs X hT hF
  exact ⟨s₂, o, XS.ifnonnullNo X.here hx rfl (hb hby hd) rfl h1, h2⟩
theorem w_acmp_eq (ok : Ok Z K code own nm maxL ret) {pcN pcT : Nat} {o : Int} {x y : Value} (hd : Brn code pc pcN pcT (.if_acmp .eq o) o) (hx' : x.isRef = true) (hy' : y.isRef = true) (hy : x = y → Wp l R n0 K Q h k n pcT Ls st) (hn : ¬ x = y → Wp l R n0 K Q h k n pcN Ls st) : Wp l R n0 K Q h k n pc Ls (y :: x :: st) := by
  obtain ⟨p, e, s, m, args, below, meth, c⟩ := K
  obtain ⟨hx, hby, hZ, hown, hnm, hml, hret, hlk⟩ := ok
  obtain ⟨hd, rfl, ho, hp⟩ := hd
  intro T locs X hT hF
  by_cases q : x = y
  · obtain ⟨s₂, o, h1, h2⟩ := hy q T locs X hT hF
    exact ⟨s₂, o, Jvm.RoadKit.acmp X hx rfl hx' hy' rfl (hb hby hd) rfl (decide_eq_true q) ho (by simp [acV, hp]) h1, h2⟩
  · obtain ⟨s₂, o, h1, h2⟩ := hn q T locs X hT hF
    exact ⟨s₂, o, Jvm.RoadKit.acmp X hx rfl hx' hy' rfl (hb hby hd) rfl (decide_eq_false q) ho (by simp [acV, hp]) h1, h2⟩
theorem w_acmp_ne (ok : Ok Z K code own nm maxL ret) {pcN pcT : Nat} {o : Int} {x y : Value} (hd : Brn code pc pcN pcT (.if_acmp .ne o) o) (hx' : x.isRef = true) (hy' : y.isRef = true) (hy : ¬ x = y → Wp l R n0 K Q h k n pcT Ls st) (hn : x = y → Wp l R n0 K Q h k n pcN Ls st) : Wp l R n0 K Q h k n pc Ls (y :: x :: st) := by
  obtain ⟨p, e, s, m, args, below, meth, c⟩ := K
  obtain ⟨hx, hby, hZ, hown, hnm, hml, hret, hlk⟩ := ok
  obtain ⟨hd, rfl, ho, hp⟩ := hd
  intro T locs X hT hF
  by_cases q : x = y
  · obtain ⟨s₂, o, h1, h2⟩ := hn q T locs X hT hF
    exact ⟨s₂, o, Jvm.RoadKit.acmp X hx rfl hx' hy' rfl (hb hby hd) rfl (decide_eq_true q) ho (by simp [acV, hp]) h1, h2⟩
  · obtain ⟨s₂, o, h1, h2⟩ := hy q T locs X hT hF
    exact ⟨s₂, o, Jvm.RoadKit.acmp X hx rfl hx' hy' rfl (hb hby hd) rfl (decide_eq_false q) ho (by simp [acV, hp]) h1, h2⟩
theorem w_return (ok : Ok Z K code own nm maxL none) (hd : Fet code pc pc' .return_ 1) (hk : k ≤ R.cells) (hn : n ≤ R.slots) (hQ : Q none h) : Wp l R n0 K Q h k n pc Ls [] := by
  obtain ⟨p, e, s, m, args, below, meth, c⟩ := K
  obtain ⟨hx, hby, hZ, hown, hnm, hml, hret, hlk⟩ := ok
  obtain ⟨hd, -⟩ := hd
  intro T locs X hT hF
  obtain ⟨fs, hr, hrun, hended, hW, hsame⟩ := X.leave (v := none) (fun _ => rfl) hlk
  refine ⟨_, _, X.returnOut hx hret (hb hby hd) hr, hrun, hended, _, locs, rfl, ⟨?_, hF⟩, ⟨_, rfl⟩, hW, hsame.mono hk hn⟩
  show Q _ T.heap
  rw [hT]; exact hQ
theorem w_ireturnN {t : FieldType} (ok : Ok Z K code own nm maxL (some t)) {x : Int32} (ht : t = .boolean ∨ t = .byte ∨ t = .char ∨ t = .short) (hd : Fet code pc pc' .ireturn 1) (hk : k ≤ R.cells) (hn : n ≤ R.slots) (hQ : Q (some (.int (nar t x))) h) : Wp l R n0 K Q h k n pc Ls (.int x :: st) := by
  obtain ⟨p, e, s, m, args, below, meth, c⟩ := K
  obtain ⟨hx, hby, hZ, hown, hnm, hml, hret, hlk⟩ := ok
  obtain ⟨hd, -⟩ := hd
  intro T locs X hT hF
  obtain ⟨fs, hr, hrun, hended, hW, hsame⟩ := X.leave (v := some (.int (nar t x))) (fun q => by rw [hret] at q; cases q) hlk
  refine ⟨_, _, retN X hx hret ht (hb hby hd) hr, hrun, hended, _, locs, rfl, ⟨?_, hF⟩, ⟨_, rfl⟩, hW, hsame.mono hk hn⟩
  show Q _ T.heap
  rw [hT]; exact hQ
theorem w_ireturnI (ok : Ok Z K code own nm maxL (some .int)) {x : Int32} (hd : Fet code pc pc' .ireturn 1) (hk : k ≤ R.cells) (hn : n ≤ R.slots) (hQ : Q (some (.int x)) h) : Wp l R n0 K Q h k n pc Ls (.int x :: st) := by
  obtain ⟨p, e, s, m, args, below, meth, c⟩ := K
  obtain ⟨hx, hby, hZ, hown, hnm, hml, hret, hlk⟩ := ok
  obtain ⟨hd, -⟩ := hd
  intro T locs X hT hF
  obtain ⟨fs, hr, hrun, hended, hW, hsame⟩ := X.leave (v := some (.int x)) (fun q => by rw [hret] at q; cases q) hlk
  refine ⟨_, _, retOut X hx hret (by rfl) (Or.inl ⟨rfl, Or.inl rfl, _, rfl⟩) (hb hby hd) hr, hrun, hended, _, locs, rfl, ⟨?_, hF⟩, ⟨_, rfl⟩, hW, hsame.mono hk hn⟩
  show Q _ T.heap
  rw [hT]; exact hQ
theorem w_lreturn (ok : Ok Z K code own nm maxL (some .long)) {x : Int64} (hd : Fet code pc pc' .lreturn 1) (hk : k ≤ R.cells) (hn : n ≤ R.slots) (hQ : Q (some (.long x)) h) : Wp l R n0 K Q h k n pc Ls (.long x :: st) := by
  obtain ⟨p, e, s, m, args, below, meth, c⟩ := K
  obtain ⟨hx, hby, hZ, hown, hnm, hml, hret, hlk⟩ := ok
  obtain ⟨hd, -⟩ := hd
  intro T locs X hT hF
  obtain ⟨fs, hr, hrun, hended, hW, hsame⟩ := X.leave (v := some (.long x)) (fun q => by rw [hret] at q; cases q) hlk
  refine ⟨_, _, retOut X hx hret (by rfl) (Or.inr (Or.inl ⟨rfl, rfl, _, rfl⟩)) (hb hby hd) hr, hrun, hended, _, locs, rfl, ⟨?_, hF⟩, ⟨_, rfl⟩, hW, hsame.mono hk hn⟩
  show Q _ T.heap
  rw [hT]; exact hQ
theorem w_areturn {t : FieldType} (ok : Ok Z K code own nm maxL (some t)) {x : Value} (ht : t.isReference = true) (hv : x.isRef = true) (hnar : narrow t x = x) (hd : Fet code pc pc' .areturn 1) (hk : k ≤ R.cells) (hn : n ≤ R.slots) (hQ : Q (some x) h) : Wp l R n0 K Q h k n pc Ls (x :: st) := by
  obtain ⟨p, e, s, m, args, below, meth, c⟩ := K
  obtain ⟨hx, hby, hZ, hown, hnm, hml, hret, hlk⟩ := ok
  obtain ⟨hd, -⟩ := hd
  intro T locs X hT hF
  obtain ⟨fs, hr, hrun, hended, hW, hsame⟩ := X.leave (v := some x) (fun q => by rw [hret] at q; cases q) hlk
  refine ⟨_, _, retOut X hx hret hnar (Or.inr (Or.inr (Or.inr (Or.inr ⟨rfl, ht, hv⟩)))) (hb hby hd) hr, hrun, hended, _, locs, rfl, ⟨?_, hF⟩, ⟨_, rfl⟩, hW, hsame.mono hk hn⟩
  show Q _ T.heap
  rw [hT]; exact hQ
theorem w_getfield (ok : Ok Z K code own nm maxL ret) {R0 O f d host : String} {i : Nat} {a : Addr} {x : Value} (w : (Cond.fieldLink own i R0 f d).before a0 Z = true ∨ (Cond.fieldLinkNest own i R0 f d host).before a0 Z = true) (via : Via Z R0 O f d) (F : Fld Z h a O f d x) (hd : Fet code pc pc' (.getfield i) 3) (hr : Wp l R n0 K Q h k n pc' Ls (x :: st)) : Wp l R n0 K Q h k n pc Ls (.ref a :: st) := by
  obtain ⟨p, e, s, m, args, below, meth, c⟩ := K
  obtain ⟨hx, hby, hZ, hown, hnm, hml, hret, hlk⟩ := ok
  obtain ⟨hd, rfl⟩ := hd
  intro T locs X hT hF
  obtain ⟨T', X', e', stp⟩ := getF X hx hZ hown w via hT F (g := mkF m pc Ls (.ref a :: st)) rfl rfl (hb hby hd)
  obtain ⟨s₂, o, h1, h2⟩ := hr T' locs X' e' hF
  exact ⟨s₂, o, stp _ h1, h2⟩
theorem w_getstatic (ok : Ok Z K code own nm maxL ret) {R0 O f d : String} {i : Nat} {x : Value} (w : (Cond.fieldLink own i R0 f d).before a0 Z = true) (via : Via Z R0 O f d) (F : Sta Z h O f d x) (hd : Fet code pc pc' (.getstatic i) 3) (hr : Wp l R n0 K Q h k n pc' Ls (x :: st)) : Wp l R n0 K Q h k n pc Ls st := by
  obtain ⟨p, e, s, m, args, below, meth, c⟩ := K
  obtain ⟨hx, hby, hZ, hown, hnm, hml, hret, hlk⟩ := ok
  obtain ⟨hd, rfl⟩ := hd
  intro T locs X hT hF
  obtain ⟨T', X', e', stp⟩ := getS (host := "") X hx hZ hown w via hT F (g := mkF m pc Ls st) rfl (hb hby hd)
  obtain ⟨s₂, o, h1, h2⟩ := hr T' locs X' e' hF
  exact ⟨s₂, o, stp _ h1, h2⟩
theorem w_putfield (ok : Ok Z K code own nm maxL ret) {R0 O f d host C : String} {i kk : Nat} {ty : FieldType} {a : Addr} {x old : Value} (w : (Cond.fieldLink own i R0 f d).before a0 Z = true ∨ (Cond.fieldLinkNest own i R0 f d host).before a0 Z = true) (via : Via Z R0 O f d) (F : Fld Z h a O f d old) (E : Exa Z h a C)
    (L : (Cond.lays C O f d).before a0 Z = true ∨ ((Cond.laysFinal C O f d).before a0 Z = true ∧ own = O ∧ nm = "<init>")) (wi : (Cond.instantiable C kk).before a0 Z = true) (hty : parseFieldDescriptor d = some ty) (hna : narrow ty x = x) (hfi : fits ty x = true) (ha : n0 ≤ a) (hd : Fet code pc pc' (.putfield i) 3)
    (hr : ∀ h', Wr h h' a (Jvm.RoadKit.slotOf Z O f d) x → Wp l R n0 K Q h' k n pc' Ls st) : Wp l R n0 K Q h k n pc Ls (x :: .ref a :: st) := by
  obtain ⟨p, e, s, m, args, below, meth, c⟩ := K
  obtain ⟨hx, hby, hZ, hown, hnm, hml, hret, hlk⟩ := ok
  obtain ⟨hd, rfl⟩ := hd
  intro T locs X hT hF
  obtain ⟨T', h', X', e', W', stp⟩ := putF X hx hZ hown w via hT F E (L.imp id fun q => ⟨q.1, q.2.1, hnm.trans q.2.2⟩) wi hty hna hfi (g := mkF m pc Ls (x :: .ref a :: st)) rfl rfl (hb hby hd)
  obtain ⟨s₂, o, h1, h2⟩ := hr h' W' T' _ X' e' (Fr.snoc X' hF ha)
  exact ⟨s₂, o, stp _ h1, h2⟩
theorem w_putfieldN (ok : Ok Z K code own nm maxL ret) {R0 O f d C : String} {i kk : Nat} {ty : FieldType} {a : Addr} {x x' old : Value} (w : (Cond.fieldLink own i R0 f d).before a0 Z = true) (via : Via Z R0 O f d) (F : Fld Z h a O f d old) (E : Exa Z h a C)
    (L : (Cond.lays C O f d).before a0 Z = true ∨ ((Cond.laysFinal C O f d).before a0 Z = true ∧ own = O ∧ nm = "<init>")) (wi : (Cond.instantiable C kk).before a0 Z = true) (hty : parseFieldDescriptor d = some ty) (hna : narrow ty x = x') (hfi : fits ty x' = true) (ha : n0 ≤ a) (hd : Fet code pc pc' (.putfield i) 3)
    (hr : ∀ h', Wr h h' a (Jvm.RoadKit.slotOf Z O f d) x' → Wp l R n0 K Q h' k n pc' Ls st) : Wp l R n0 K Q h k n pc Ls (x :: .ref a :: st) := by
  obtain ⟨p, e, s, m, args, below, meth, c⟩ := K
  obtain ⟨hx, hby, hZ, hown, hnm, hml, hret, hlk⟩ := ok
  obtain ⟨hd, rfl⟩ := hd
  intro T locs X hT hF
  obtain ⟨T', h', X', e', W', stp⟩ := putFN X hx hZ hown w via hT F E (L.imp id fun q => ⟨q.1, q.2.1, hnm.trans q.2.2⟩) wi hty hna hfi (g := mkF m pc Ls (x :: .ref a :: st)) rfl rfl (hb hby hd)
  obtain ⟨s₂, o, h1, h2⟩ := hr h' W' T' _ X' e' (Fr.snoc X' hF ha)
  exact ⟨s₂, o, stp _ h1, h2⟩
theorem w_new (ok : Ok Z K code own nm maxL ret) {C : String} {i nn : Nat} (w : (Cond.classLink own i C).before a0 Z = true) (wi : (Cond.instantiable C nn).before a0 Z = true) (wz : (Cond.initialized C).before a0 Z = true) (hd : Fet code pc pc' (.new i) 3) (ek : k + 1 = k') (en : n + nn = n') (hc : k' ≤ R.cells) (hl : n' ≤ R.slots)
    (hr : ∀ h' b, b = h.size → Ext h h' → Exa Z h' b C → (∀ {O f d : String} {ty : FieldType}, Laid Z a0 C O f d → parseFieldDescriptor d = some ty → Fld Z h' b O f d (defaultValue ty)) → Wp l R n0 K Q h' k' n' pc' Ls (.ref b :: st)) : Wp l R n0 K Q h k n pc Ls st := by
  obtain ⟨p, e, s, m, args, below, meth, c⟩ := K
  obtain ⟨hx, hby, hZ, hown, hnm, hml, hret, hlk⟩ := ok
  obtain ⟨hd, rfl⟩ := hd
  intro T locs X hT hF
  subst ek en
  obtain ⟨T', h', X', e', E', A', D', -, stp⟩ := newO X hx hZ hown w wi wz hT (g := mkF m pc Ls st) rfl (hb hby hd) hc hl
  obtain ⟨s₂, o, h1, h2⟩ := hr h' _ rfl E' A' D' T' _ X' e' hF
  exact ⟨s₂, o, stp _ h1, h2⟩
theorem w_newarray (ok : Ok Z K code own nm maxL ret) {aty : ArrayType} {z : Int32} {cap : Nat} (w : (Cond.arrayClass (newarray.typeOf aty)).before a0 Z = true) (hd : Fet code pc pc' (.newarray aty) 2) (hz : ¬ z < 0) (hcap : z.toNatClampNeg ≤ cap) (hb8 : cap * 8 ≤ 536870912) (ek : k + 1 = k') (en : n + cap = n') (hc : k' ≤ R.cells) (hl : n' ≤ R.slots)
    (hr : ∀ h' b cA, b = h.size → Ext h h' → Arr Z h' b (newA cA (newarray.typeOf aty) z) (newarray.typeOf aty) → Wp l R n0 K Q h' k' n' pc' Ls (.ref b :: st)) : Wp l R n0 K Q h k n pc Ls (.int z :: st) := by
  obtain ⟨p, e, s, m, args, below, meth, c⟩ := K
  obtain ⟨hx, hby, hZ, hown, hnm, hml, hret, hlk⟩ := ok
  obtain ⟨hd, rfl⟩ := hd
  intro T locs X hT hF
  subst ek en
  obtain ⟨T', h', cA, X', e', E', A', stp⟩ := newP X hx hZ w hT (g := mkF m pc Ls (.int z :: st)) rfl (hb hby hd) rfl hz hcap hb8 hc hl
  obtain ⟨s₂, o, h1, h2⟩ := hr h' _ cA rfl E' A' T' _ X' e' hF
  exact ⟨s₂, o, stp _ h1, h2⟩
theorem w_initO (ok : Ok Z K code own nm maxL ret) {i : Nat} {a : Addr} (w1 : (Cond.methodLink own i Lib.objectInit).before a0 Z = true) (w2 : (Cond.instanceMethod Lib.objectInit).before a0 Z = true) (w3 : (Cond.code Lib.objectInit ⟨#[0xb1]⟩ 1 none).before a0 Z = true) (hd : Fet code pc pc' (.invokespecial i) 3)
    (hsz : Ls.size = maxL) (hf : 1 ≤ R.frames) (hl : (st.map fun v => v.category).sum + 12 ≤ R.locals) (hr : Wp l R n0 K Q h k n pc' Ls st) : Wp l R n0 K Q h k n pc Ls (.ref a :: st) := by
  obtain ⟨p, e, s, m, args, below, meth, c⟩ := K
  obtain ⟨hx, hby, hZ, hown, hnm, hml, hret, hlk⟩ := ok
  obtain ⟨hd, rfl⟩ := hd
  intro T locs X hT hF
  obtain ⟨T', X', e', stp⟩ := initO X hx hZ hown w1 w2 w3 hT (g := mkF m pc Ls (.ref a :: st)) rfl (hsz.trans hml.symm) rfl (hb hby hd) hf (W := (st.map fun v => v.category).sum) (by show 2 * 0 + _ ≤ _; omega) hl
  obtain ⟨s₂, o, h1, h2⟩ := hr T' locs X' e' hF
  exact ⟨s₂, o, stp _ h1, h2⟩
theorem w_iastore (ok : Ok Z K code own nm maxL ret) {a : Addr} {cl : Cell} {j : Int32} {x : Int32} (A : Arr Z h a cl .int) (hj : ¬ (j < 0 ∨ cl.slots.size ≤ j.toNatClampNeg)) (ha : n0 ≤ a) (hd : Fet code pc pc' .iastore 1)
    (hr : ∀ h', Wr h h' a j.toNatClampNeg (.int x) → Wp l R n0 K Q h' k n pc' Ls st) : Wp l R n0 K Q h k n pc Ls ((.int x) :: .int j :: .ref a :: st) := by
  obtain ⟨p, e, s, m, args, below, meth, c⟩ := K
  obtain ⟨hx, hby, hZ, hown, hnm, hml, hret, hlk⟩ := ok
  obtain ⟨hd, rfl⟩ := hd
  intro T locs X hT hF
  obtain ⟨T', h', X', e', W', stp⟩ := stI X hx hZ hT A hj (g := mkF m pc Ls ((.int x) :: .int j :: .ref a :: st)) rfl rfl (hb hby hd)
  obtain ⟨s₂, o, h1, h2⟩ := hr h' W' T' _ X' e' (Fr.snoc X' hF ha)
  exact ⟨s₂, o, stp _ h1, h2⟩
theorem w_lastore (ok : Ok Z K code own nm maxL ret) {a : Addr} {cl : Cell} {j : Int32} {x : Int64} (A : Arr Z h a cl .long) (hj : ¬ (j < 0 ∨ cl.slots.size ≤ j.toNatClampNeg)) (ha : n0 ≤ a) (hd : Fet code pc pc' .lastore 1)
    (hr : ∀ h', Wr h h' a j.toNatClampNeg (.long x) → Wp l R n0 K Q h' k n pc' Ls st) : Wp l R n0 K Q h k n pc Ls ((.long x) :: .int j :: .ref a :: st) := by
  obtain ⟨p, e, s, m, args, below, meth, c⟩ := K
  obtain ⟨hx, hby, hZ, hown, hnm, hml, hret, hlk⟩ := ok
  obtain ⟨hd, rfl⟩ := hd
  intro T locs X hT hF
  obtain ⟨T', h', X', e', W', stp⟩ := stJ X hx hZ hT A hj (g := mkF m pc Ls ((.long x) :: .int j :: .ref a :: st)) rfl rfl (hb hby hd)
  obtain ⟨s₂, o, h1, h2⟩ := hr h' W' T' _ X' e' (Fr.snoc X' hF ha)
  exact ⟨s₂, o, stp _ h1, h2⟩
theorem w_castore (ok : Ok Z K code own nm maxL ret) {a : Addr} {cl : Cell} {j : Int32} {x : Int32} (A : Arr Z h a cl .char) (hj : ¬ (j < 0 ∨ cl.slots.size ≤ j.toNatClampNeg)) (ha : n0 ≤ a) (hd : Fet code pc pc' .castore 1)
    (hr : ∀ h', Wr h h' a j.toNatClampNeg (.int (nar .char x)) → Wp l R n0 K Q h' k n pc' Ls st) : Wp l R n0 K Q h k n pc Ls ((.int x) :: .int j :: .ref a :: st) := by
  obtain ⟨p, e, s, m, args, below, meth, c⟩ := K
  obtain ⟨hx, hby, hZ, hown, hnm, hml, hret, hlk⟩ := ok
  obtain ⟨hd, rfl⟩ := hd
  intro T locs X hT hF
  obtain ⟨T', h', X', e', W', stp⟩ := stC X hx hZ hT A hj (g := mkF m pc Ls ((.int x) :: .int j :: .ref a :: st)) rfl rfl (hb hby hd)
  obtain ⟨s₂, o, h1, h2⟩ := hr h' W' T' _ X' e' (Fr.snoc X' hF ha)
  exact ⟨s₂, o, stp _ h1, h2⟩
theorem w_bastoreB (ok : Ok Z K code own nm maxL ret) {a : Addr} {cl : Cell} {j : Int32} {x : Int32} (A : Arr Z h a cl .byte) (hj : ¬ (j < 0 ∨ cl.slots.size ≤ j.toNatClampNeg)) (ha : n0 ≤ a) (hd : Fet code pc pc' .bastore 1)
    (hr : ∀ h', Wr h h' a j.toNatClampNeg (.int (nar .byte x)) → Wp l R n0 K Q h' k n pc' Ls st) : Wp l R n0 K Q h k n pc Ls ((.int x) :: .int j :: .ref a :: st) := by
  obtain ⟨p, e, s, m, args, below, meth, c⟩ := K
  obtain ⟨hx, hby, hZ, hown, hnm, hml, hret, hlk⟩ := ok
  obtain ⟨hd, rfl⟩ := hd
  intro T locs X hT hF
  obtain ⟨T', h', X', e', W', stp⟩ := stB X hx hZ hT A hj (g := mkF m pc Ls ((.int x) :: .int j :: .ref a :: st)) rfl rfl (hb hby hd)
  obtain ⟨s₂, o, h1, h2⟩ := hr h' W' T' _ X' e' (Fr.snoc X' hF ha)
  exact ⟨s₂, o, stp _ h1, h2⟩
theorem w_bastoreZ (ok : Ok Z K code own nm maxL ret) {a : Addr} {cl : Cell} {j : Int32} {x : Int32} (A : Arr Z h a cl .boolean) (hj : ¬ (j < 0 ∨ cl.slots.size ≤ j.toNatClampNeg)) (ha : n0 ≤ a) (hd : Fet code pc pc' .bastore 1)
    (hr : ∀ h', Wr h h' a j.toNatClampNeg (.int (nar .boolean x)) → Wp l R n0 K Q h' k n pc' Ls st) : Wp l R n0 K Q h k n pc Ls ((.int x) :: .int j :: .ref a :: st) := by
  obtain ⟨p, e, s, m, args, below, meth, c⟩ := K
  obtain ⟨hx, hby, hZ, hown, hnm, hml, hret, hlk⟩ := ok
  obtain ⟨hd, rfl⟩ := hd
  intro T locs X hT hF
  obtain ⟨T', h', X', e', W', stp⟩ := stZ X hx hZ hT A hj (g := mkF m pc Ls ((.int x) :: .int j :: .ref a :: st)) rfl rfl (hb hby hd)
  obtain ⟨s₂, o, h1, h2⟩ := hr h' W' T' _ X' e' (Fr.snoc X' hF ha)
  exact ⟨s₂, o, stp _ h1, h2⟩
theorem w_callSV (ok : Ok Z K code own nm maxL ret) {y : MethodName} {bytes : ByteArray} {mL i : Nat} {rt : Option FieldType} {rm : Room} {Qc : Value → Heap → Prop} {argsL : List Value}  (w1 : (Cond.methodLink own i y).before a0 Z = true) (w2 : (Cond.static y).before a0 Z = true) (wz : (Cond.initialized y.cls).before a0 Z = true) (wc : (Cond.code y bytes mL rt).before a0 Z = true) (hy : y.cls ≠ "java/lang/invoke/MethodHandle" ∧ y.cls ≠ "java/lang/invoke/VarHandle")
    (hM : ConV l Z n0 y bytes mL rt [] rm (argsL).toArray h Qc) (hd : Fet code pc pc' (.invokestatic i) 3) (hlen : ∀ sig, parseMethodDescriptor y.desc = some sig → argsL.length = sig.parameters.length) (hst : st = argsL.reverse ++ rest) (hsz : Ls.size = maxL) (hf : rm.frames + 1 ≤ R.frames) (hl : (rest.map fun v => v.category).sum + (mL + 11) + rm.locals ≤ R.locals)
    (ek : k + rm.cells = k') (en : n + rm.slots = n') (hc : k' ≤ R.cells) (hs : n' ≤ R.slots) (hr : ∀ w h', Qc w h' → Wp l R n0 K Q h' k' n' pc' Ls (w :: rest)) : Wp l R n0 K Q h k n pc Ls st := by
  obtain ⟨p, e, s, m, args, below, meth, c⟩ := K
  obtain ⟨hx, hby, hZ, hown, hnm, hml, hret, hlk⟩ := ok
  obtain ⟨hd, rfl⟩ := hd
  intro T locs X hT hF
  subst hst ek en
  obtain ⟨v, _, ⟨T', L', k1, n1⟩, -, X', ⟨Lc, hQ, l1, y1, z1⟩, stp⟩ := Jvm.LawKit.callS X hx (y := y) hown (mvT hZ w1) (mvT hZ w2) (mvT hZ wz) (mvT hZ wc) hy (backOf (W := (rest.map fun v => v.category).sum) (Q := fun v h' L => (∃ w, v = some w ∧ Qc w h') ∧ Fr n0 L) (as' := (argsL).toArray) (rm := rm) (bytes := bytes) (maxL := mL) (ret := rt) (h := h) (Z := Z) hM hZ wc wz hf hl) (g := mkF m pc Ls (argsL.reverse ++ rest)) rfl (hsz.trans hml.symm) (argsL := argsL) (rest := rest) hlen rfl (by show 2 * 0 + _ ≤ _; omega) (hb hby hd) (fun _ _ => ⟨rfl, hT, hc, hs⟩)
  dsimp only [Pt.U, Pt.locs, Pt.cells, Pt.slots] at X' l1 y1 z1 stp hQ
  subst l1 y1 z1

  obtain ⟨⟨w, rfl, hQ⟩, hFc⟩ := hQ
  obtain ⟨s₂, o, h1, h2⟩ := hr _ _ hQ T' _ X' rfl (Fr.app hF hFc)
  exact ⟨s₂, o, stp _ h1, h2⟩
theorem w_callSN (ok : Ok Z K code own nm maxL ret) {y : MethodName} {bytes : ByteArray} {mL i : Nat} {rt : Option FieldType} {rm : Room} {Qc : Heap → Prop} {argsL : List Value}  (w1 : (Cond.methodLink own i y).before a0 Z = true) (w2 : (Cond.static y).before a0 Z = true) (wz : (Cond.initialized y.cls).before a0 Z = true) (wc : (Cond.code y bytes mL rt).before a0 Z = true) (hy : y.cls ≠ "java/lang/invoke/MethodHandle" ∧ y.cls ≠ "java/lang/invoke/VarHandle")
    (hM : ConN l Z n0 y bytes mL rt [] rm (argsL).toArray h Qc) (hd : Fet code pc pc' (.invokestatic i) 3) (hlen : ∀ sig, parseMethodDescriptor y.desc = some sig → argsL.length = sig.parameters.length) (hst : st = argsL.reverse ++ rest) (hsz : Ls.size = maxL) (hf : rm.frames + 1 ≤ R.frames) (hl : (rest.map fun v => v.category).sum + (mL + 11) + rm.locals ≤ R.locals)
    (ek : k + rm.cells = k') (en : n + rm.slots = n') (hc : k' ≤ R.cells) (hs : n' ≤ R.slots) (hr : ∀ h', Qc h' → Wp l R n0 K Q h' k' n' pc' Ls rest) : Wp l R n0 K Q h k n pc Ls st := by
  obtain ⟨p, e, s, m, args, below, meth, c⟩ := K
  obtain ⟨hx, hby, hZ, hown, hnm, hml, hret, hlk⟩ := ok
  obtain ⟨hd, rfl⟩ := hd
  intro T locs X hT hF
  subst hst ek en
  obtain ⟨v, _, ⟨T', L', k1, n1⟩, -, X', ⟨Lc, hQ, l1, y1, z1⟩, stp⟩ := Jvm.LawKit.callS X hx (y := y) hown (mvT hZ w1) (mvT hZ w2) (mvT hZ wz) (mvT hZ wc) hy (backOf (W := (rest.map fun v => v.category).sum) (Q := fun v h' L => (v = none ∧ Qc h') ∧ Fr n0 L) (as' := (argsL).toArray) (rm := rm) (bytes := bytes) (maxL := mL) (ret := rt) (h := h) (Z := Z) hM hZ wc wz hf hl) (g := mkF m pc Ls (argsL.reverse ++ rest)) rfl (hsz.trans hml.symm) (argsL := argsL) (rest := rest) hlen rfl (by show 2 * 0 + _ ≤ _; omega) (hb hby hd) (fun _ _ => ⟨rfl, hT, hc, hs⟩)
  dsimp only [Pt.U, Pt.locs, Pt.cells, Pt.slots] at X' l1 y1 z1 stp hQ
  subst l1 y1 z1

  obtain ⟨⟨rfl, hQ⟩, hFc⟩ := hQ
  obtain ⟨s₂, o, h1, h2⟩ := hr _ hQ T' _ X' rfl (Fr.app hF hFc)
  exact ⟨s₂, o, stp _ h1, h2⟩
theorem w_init (ok : Ok Z K code own nm maxL ret) {y : MethodName} {bytes : ByteArray} {mL i : Nat} {rt : Option FieldType} {rm : Room} {Qc : Heap → Prop} {argsL : List Value} {a : Addr} (hy1 : y.name = "<init>") (hrt : rt = none) (w1 : (Cond.methodLink own i y).before a0 Z = true) (w2 : (Cond.instanceMethod y).before a0 Z = true) (wz : (Cond.initialized y.cls).before a0 Z = true) (wc : (Cond.code y bytes mL rt).before a0 Z = true) (hy : y.cls ≠ "java/lang/invoke/MethodHandle" ∧ y.cls ≠ "java/lang/invoke/VarHandle")
    (hM : ConN l Z n0 y bytes mL rt [] rm (.ref a :: argsL).toArray h Qc) (hd : Fet code pc pc' (.invokespecial i) 3) (hlen : ∀ sig, parseMethodDescriptor y.desc = some sig → argsL.length = sig.parameters.length) (hst : st = argsL.reverse ++ .ref a :: rest) (hsz : Ls.size = maxL) (hf : rm.frames + 1 ≤ R.frames) (hl : (rest.map fun v => v.category).sum + (mL + 11) + rm.locals ≤ R.locals)
    (ek : k + rm.cells = k') (en : n + rm.slots = n') (hc : k' ≤ R.cells) (hs : n' ≤ R.slots) (hr : ∀ h', Qc h' → Wp l R n0 K Q h' k' n' pc' Ls rest) : Wp l R n0 K Q h k n pc Ls st := by
  obtain ⟨p, e, s, m, args, below, meth, c⟩ := K
  obtain ⟨hx, hby, hZ, hown, hnm, hml, hret, hlk⟩ := ok
  obtain ⟨hd, rfl⟩ := hd
  intro T locs X hT hF
  subst hst ek en
  subst hrt
  obtain ⟨v, _, ⟨T', L', k1, n1⟩, -, X', ⟨Lc, hQ, l1, y1, z1⟩, stp⟩ := X.specialBack hx (y := y) hy1 hown (mvT hZ w1) (mvT hZ w2) (mvT hZ wc) hy (backOf (W := (rest.map fun v => v.category).sum) (Q := fun v h' L => (v = none ∧ Qc h') ∧ Fr n0 L) (as' := (Value.ref a :: argsL).toArray) (rm := rm) (bytes := bytes) (maxL := mL) (ret := none) (h := h) (Z := Z) hM hZ wc wz hf hl) (g := mkF m pc Ls (argsL.reverse ++ .ref a :: rest)) rfl (hsz.trans hml.symm) (Steps.refl _) (a := a) (argsL := argsL) (rest := rest) hlen rfl (by show 2 * 0 + _ ≤ _; omega) (hb hby hd) (fun _ _ => ⟨rfl, hT, hc, hs⟩)
  dsimp only [Pt.U, Pt.locs, Pt.cells, Pt.slots] at X' l1 y1 z1 stp hQ
  subst l1 y1 z1

  obtain ⟨⟨rfl, hQ⟩, hFc⟩ := hQ
  obtain ⟨s₂, o, h1, h2⟩ := hr _ hQ T' _ X' rfl (Fr.app hF hFc)
  exact ⟨s₂, o, stp.trans h1, h2⟩
theorem w_virtV (ok : Ok Z K code own nm maxL ret) {y : MethodName} {bytes : ByteArray} {mL i : Nat} {rt : Option FieldType} {rm : Room} {Qc : Value → Heap → Prop} {argsL : List Value} {a : Addr} {C : String} (w1 : (Cond.methodLink own i y).before a0 Z = true) (w2 : (Cond.declares y).before a0 Z = true) (w3 : (Cond.selects C y y).before a0 Z = true) (w4 : (Cond.instanceMethod y).before a0 Z = true) (wz : (Cond.initialized y.cls).before a0 Z = true) (wc : (Cond.code y bytes mL rt).before a0 Z = true) (E : Exa Z h a C) (hy : y.cls ≠ "java/lang/invoke/MethodHandle" ∧ y.cls ≠ "java/lang/invoke/VarHandle")
    (hM : ConV l Z n0 y bytes mL rt [] rm (.ref a :: argsL).toArray h Qc) (hd : Fet code pc pc' (.invokevirtual i) 3) (hlen : ∀ sig, parseMethodDescriptor y.desc = some sig → argsL.length = sig.parameters.length) (hst : st = argsL.reverse ++ .ref a :: rest) (hsz : Ls.size = maxL) (hf : rm.frames + 1 ≤ R.frames) (hl : (rest.map fun v => v.category).sum + (mL + 11) + rm.locals ≤ R.locals)
    (ek : k + rm.cells = k') (en : n + rm.slots = n') (hc : k' ≤ R.cells) (hs : n' ≤ R.slots) (hr : ∀ w h', Qc w h' → Wp l R n0 K Q h' k' n' pc' Ls (w :: rest)) : Wp l R n0 K Q h k n pc Ls st := by
  obtain ⟨p, e, s, m, args, below, meth, c⟩ := K
  obtain ⟨hx, hby, hZ, hown, hnm, hml, hret, hlk⟩ := ok
  obtain ⟨hd, rfl⟩ := hd
  intro T locs X hT hF
  subst hst ek en
  obtain ⟨cB, kB, qa, qb, qc⟩ := isOf hZ hT E
  obtain ⟨v, _, ⟨T', L', k1, n1⟩, -, X', ⟨Lc, hQ, l1, y1, z1⟩, stp⟩ := X.virtualBack hx (y := y) (z := y) hown (mvT hZ w1) (mvT hZ w2) (notFace_of_selects (args := #[]) (mvT hZ w3)) (mvT hZ w3) (mvT hZ w4) hy (backOf (W := (rest.map fun v => v.category).sum) (Q := fun v h' L => (∃ w, v = some w ∧ Qc w h') ∧ Fr n0 L) (as' := (Value.ref a :: argsL).toArray) (rm := rm) (bytes := bytes) (maxL := mL) (ret := rt) (h := h) (Z := Z) hM hZ wc wz hf hl) qa qc (g := mkF m pc Ls (argsL.reverse ++ .ref a :: rest)) rfl (hsz.trans hml.symm) (Steps.refl _) (argsL := argsL) (rest := rest) hlen rfl (by show 2 * 0 + _ ≤ _; omega) (hb hby hd) (fun _ _ => ⟨rfl, hT, hc, hs⟩)
  dsimp only [Pt.U, Pt.locs, Pt.cells, Pt.slots] at X' l1 y1 z1 stp hQ
  subst l1 y1 z1

  obtain ⟨⟨w, rfl, hQ⟩, hFc⟩ := hQ
  obtain ⟨s₂, o, h1, h2⟩ := hr _ _ hQ T' _ X' rfl (Fr.app hF hFc)
  exact ⟨s₂, o, stp.trans h1, h2⟩
theorem w_virtN (ok : Ok Z K code own nm maxL ret) {y : MethodName} {bytes : ByteArray} {mL i : Nat} {rt : Option FieldType} {rm : Room} {Qc : Heap → Prop} {argsL : List Value} {a : Addr} {C : String} (w1 : (Cond.methodLink own i y).before a0 Z = true) (w2 : (Cond.declares y).before a0 Z = true) (w3 : (Cond.selects C y y).before a0 Z = true) (w4 : (Cond.instanceMethod y).before a0 Z = true) (wz : (Cond.initialized y.cls).before a0 Z = true) (wc : (Cond.code y bytes mL rt).before a0 Z = true) (E : Exa Z h a C) (hy : y.cls ≠ "java/lang/invoke/MethodHandle" ∧ y.cls ≠ "java/lang/invoke/VarHandle")
    (hM : ConN l Z n0 y bytes mL rt [] rm (.ref a :: argsL).toArray h Qc) (hd : Fet code pc pc' (.invokevirtual i) 3) (hlen : ∀ sig, parseMethodDescriptor y.desc = some sig → argsL.length = sig.parameters.length) (hst : st = argsL.reverse ++ .ref a :: rest) (hsz : Ls.size = maxL) (hf : rm.frames + 1 ≤ R.frames) (hl : (rest.map fun v => v.category).sum + (mL + 11) + rm.locals ≤ R.locals)
    (ek : k + rm.cells = k') (en : n + rm.slots = n') (hc : k' ≤ R.cells) (hs : n' ≤ R.slots) (hr : ∀ h', Qc h' → Wp l R n0 K Q h' k' n' pc' Ls rest) : Wp l R n0 K Q h k n pc Ls st := by
  obtain ⟨p, e, s, m, args, below, meth, c⟩ := K
  obtain ⟨hx, hby, hZ, hown, hnm, hml, hret, hlk⟩ := ok
  obtain ⟨hd, rfl⟩ := hd
  intro T locs X hT hF
  subst hst ek en
  obtain ⟨cB, kB, qa, qb, qc⟩ := isOf hZ hT E
  obtain ⟨v, _, ⟨T', L', k1, n1⟩, -, X', ⟨Lc, hQ, l1, y1, z1⟩, stp⟩ := X.virtualBack hx (y := y) (z := y) hown (mvT hZ w1) (mvT hZ w2) (notFace_of_selects (args := #[]) (mvT hZ w3)) (mvT hZ w3) (mvT hZ w4) hy (backOf (W := (rest.map fun v => v.category).sum) (Q := fun v h' L => (v = none ∧ Qc h') ∧ Fr n0 L) (as' := (Value.ref a :: argsL).toArray) (rm := rm) (bytes := bytes) (maxL := mL) (ret := rt) (h := h) (Z := Z) hM hZ wc wz hf hl) qa qc (g := mkF m pc Ls (argsL.reverse ++ .ref a :: rest)) rfl (hsz.trans hml.symm) (Steps.refl _) (argsL := argsL) (rest := rest) hlen rfl (by show 2 * 0 + _ ≤ _; omega) (hb hby hd) (fun _ _ => ⟨rfl, hT, hc, hs⟩)
  dsimp only [Pt.U, Pt.locs, Pt.cells, Pt.slots] at X' l1 y1 z1 stp hQ
  subst l1 y1 z1

  obtain ⟨⟨rfl, hQ⟩, hFc⟩ := hQ
  obtain ⟨s₂, o, h1, h2⟩ := hr _ hQ T' _ X' rfl (Fr.app hF hFc)
  exact ⟨s₂, o, stp.trans h1, h2⟩
end Rules
/-- an array of this kind with these values -/
def Ary (Z : State) (h : Heap) (a : Addr) (ty : FieldType) (vs : List Value) : Prop := ∃ c : Cell, Arr Z h a c ty ∧ c.slots.toList = vs
section AryFacts
variable {Z : State} {h h' : Heap} {a b : Addr} {ty : FieldType} {vs : List Value} {v : Value} {sl i : Nat} {ws : List Addr}
theorem Ary.lt (A : Ary Z h a ty vs) : a < h.size := by obtain ⟨c, A, -⟩ := A; exact A.lt
theorem Ary.ext (A : Ary Z h a ty vs) (E : Ext h h') : Ary Z h' a ty vs := by obtain ⟨c, A, r⟩ := A; exact ⟨c, A.ext E, r⟩
theorem Ary.other (A : Ary Z h b ty vs) (W : Wr h h' a sl v) (q : b ≠ a) : Ary Z h' b ty vs := by obtain ⟨c, A, r⟩ := A; exact ⟨c, A.other W q, r⟩
theorem Ary.keep (A : Ary Z h a ty vs) (K : Keep h h' ws) (q : a ∉ ws) : Ary Z h' a ty vs := by obtain ⟨c, A, r⟩ := A; exact ⟨c, ⟨K.2.1 a c A.1 q, A.2⟩, r⟩
theorem Ary.same (A : Ary Z h a ty vs) (W : Wr h h' a i v) : Ary Z h' a ty (vs.set i v) := by
  obtain ⟨c, A, r⟩ := A
  refine ⟨_, A.same W, ?_⟩
  rw [← r]
  simp [Cell.setSlot, Array.toList_setIfInBounds]
theorem Ary.cast {vs' : List Value} (A : Ary Z h a ty vs) (e : vs = vs') : Ary Z h a ty vs' := e ▸ A
theorem ary_new {cA : ClassId} {z : Int32} (A : Arr Z h a (newA cA ty z) ty) : Ary Z h a ty (List.replicate z.toNatClampNeg (defaultValue ty)) := ⟨_, A, by simp [newA]⟩
theorem idx_ok {i n : Nat} (hi : i < n) (hn : n < 2 ^ 31) : ¬ (Int32.ofNat i < 0 ∨ n ≤ (Int32.ofNat i).toNatClampNeg) := idx_in hi hn
theorem idx_nat {i : Nat} (hi : i < 2 ^ 31) : (Int32.ofNat i).toNatClampNeg = i := by
  have q : (Int32.ofNat i).toInt = i := Int32.toInt_ofNat_of_lt (by omega)
  simp only [Int32.toNatClampNeg, q]; omega
end AryFacts
section AryRules
variable {l : Launch} {R : Room} {n0 : Nat} {K : Cx} {Q : Option Value → Heap → Prop} {h : Heap} {k n k' n' : Nat} {pc pc' : Nat} {Ls Ls' : Array Slot} {st rest : List Value} {Z : State} {code : ByteArray} {own nm : String} {maxL : Nat} {ret : Option FieldType} {a0 : Array Value}
theorem w_arraylength (ok : Ok Z K code own nm maxL ret) {a : Addr} {ty : FieldType} {vs : List Value} (A : Ary Z h a ty vs) (hd : Fet code pc pc' .arraylength 1) (hr : Wp l R n0 K Q h k n pc' Ls (.int (Int32.ofNat vs.length) :: st)) : Wp l R n0 K Q h k n pc Ls (.ref a :: st) := by
  obtain ⟨p, e, s, m, args, below, meth, c⟩ := K
  obtain ⟨hx, hby, hZ, hown, hnm, hml, hret, hlk⟩ := ok
  obtain ⟨hd, rfl⟩ := hd
  intro T locs X hT hF
  obtain ⟨c, A, rfl⟩ := A
  obtain ⟨s₂, o, h1, h2⟩ := hr T locs X hT hF
  exact ⟨s₂, o, X.arraylength hx (by rw [hT]; exact A.1) (State.isArrayOf_alike hZ.alike A.2.1) (g := mkF m pc Ls (.ref a :: st)) rfl rfl (hb hby hd) _ (by rw [Array.length_toList] at h1; exact h1), h2⟩
theorem w_iaload (ok : Ok Z K code own nm maxL ret) {a : Addr} {i : Nat} {v : Value} {vs : List Value} (A : Ary Z h a .int vs) (hl : vs.length < 2 ^ 31) (hv : vs[i]? = some v) (hd : Fet code pc pc' .iaload 1) (hr : Wp l R n0 K Q h k n pc' Ls (v :: st)) : Wp l R n0 K Q h k n pc Ls (.int (Int32.ofNat i) :: .ref a :: st) := by
  obtain ⟨p, e, s, m, args, below, meth, c⟩ := K
  obtain ⟨hx, hby, hZ, hown, hnm, hml, hret, hlk⟩ := ok
  obtain ⟨hd, rfl⟩ := hd
  intro T locs X hT hF
  obtain ⟨c, A, rfl⟩ := A
  obtain ⟨s₂, o, h1, h2⟩ := hr T locs X hT hF
  have hi : i < c.slots.toList.length := (List.getElem?_eq_some_iff.mp hv).1
  rw [Array.length_toList] at hi hl
  exact ⟨s₂, o, X.iaload hx (j := Int32.ofNat i) (v := v) (by rw [hT]; exact A.1) (State.isArrayOf_alike hZ.alike A.2.1) A.2.2 (idx_ok hi hl) (by rw [idx_nat (Nat.lt_trans hi hl), ← hv, Array.getElem?_toList]) (g := mkF m pc Ls (.int (Int32.ofNat i) :: .ref a :: st)) rfl rfl (hb hby hd) _ h1, h2⟩
theorem w_laload (ok : Ok Z K code own nm maxL ret) {a : Addr} {i : Nat} {v : Value} {vs : List Value} (A : Ary Z h a .long vs) (hl : vs.length < 2 ^ 31) (hv : vs[i]? = some v) (hd : Fet code pc pc' .laload 1) (hr : Wp l R n0 K Q h k n pc' Ls (v :: st)) : Wp l R n0 K Q h k n pc Ls (.int (Int32.ofNat i) :: .ref a :: st) := by
  obtain ⟨p, e, s, m, args, below, meth, c⟩ := K
  obtain ⟨hx, hby, hZ, hown, hnm, hml, hret, hlk⟩ := ok
  obtain ⟨hd, rfl⟩ := hd
  intro T locs X hT hF
  obtain ⟨c, A, rfl⟩ := A
  obtain ⟨s₂, o, h1, h2⟩ := hr T locs X hT hF
  have hi : i < c.slots.toList.length := (List.getElem?_eq_some_iff.mp hv).1
  rw [Array.length_toList] at hi hl
  exact ⟨s₂, o, X.laload hx (j := Int32.ofNat i) (v := v) (by rw [hT]; exact A.1) (State.isArrayOf_alike hZ.alike A.2.1) A.2.2 (idx_ok hi hl) (by rw [idx_nat (Nat.lt_trans hi hl), ← hv, Array.getElem?_toList]) (g := mkF m pc Ls (.int (Int32.ofNat i) :: .ref a :: st)) rfl rfl (hb hby hd) _ h1, h2⟩
theorem w_baloadB (ok : Ok Z K code own nm maxL ret) {a : Addr} {i : Nat} {v : Value} {vs : List Value} (A : Ary Z h a .byte vs) (hl : vs.length < 2 ^ 31) (hv : vs[i]? = some v) (hd : Fet code pc pc' .baload 1) (hr : Wp l R n0 K Q h k n pc' Ls (v :: st)) : Wp l R n0 K Q h k n pc Ls (.int (Int32.ofNat i) :: .ref a :: st) := by
  obtain ⟨p, e, s, m, args, below, meth, c⟩ := K
  obtain ⟨hx, hby, hZ, hown, hnm, hml, hret, hlk⟩ := ok
  obtain ⟨hd, rfl⟩ := hd
  intro T locs X hT hF
  obtain ⟨c, A, rfl⟩ := A
  obtain ⟨s₂, o, h1, h2⟩ := hr T locs X hT hF
  have hi : i < c.slots.toList.length := (List.getElem?_eq_some_iff.mp hv).1
  rw [Array.length_toList] at hi hl
  exact ⟨s₂, o, X.baloadBytes hx (j := Int32.ofNat i) (v := v) (by rw [hT]; exact A.1) (State.isArrayOf_alike hZ.alike A.2.1) A.2.2 (idx_ok hi hl) (by rw [idx_nat (Nat.lt_trans hi hl), ← hv, Array.getElem?_toList]) (g := mkF m pc Ls (.int (Int32.ofNat i) :: .ref a :: st)) rfl rfl (hb hby hd) _ h1, h2⟩
theorem w_baloadZ (ok : Ok Z K code own nm maxL ret) {a : Addr} {i : Nat} {v : Value} {vs : List Value} (A : Ary Z h a .boolean vs) (hl : vs.length < 2 ^ 31) (hv : vs[i]? = some v) (hd : Fet code pc pc' .baload 1) (hr : Wp l R n0 K Q h k n pc' Ls (v :: st)) : Wp l R n0 K Q h k n pc Ls (.int (Int32.ofNat i) :: .ref a :: st) := by
  obtain ⟨p, e, s, m, args, below, meth, c⟩ := K
  obtain ⟨hx, hby, hZ, hown, hnm, hml, hret, hlk⟩ := ok
  obtain ⟨hd, rfl⟩ := hd
  intro T locs X hT hF
  obtain ⟨c, A, rfl⟩ := A
  obtain ⟨s₂, o, h1, h2⟩ := hr T locs X hT hF
  have hi : i < c.slots.toList.length := (List.getElem?_eq_some_iff.mp hv).1
  rw [Array.length_toList] at hi hl
  exact ⟨s₂, o, X.baloadBooleans hx (j := Int32.ofNat i) (v := v) (by rw [hT]; exact A.1) (State.isArrayOf_alike hZ.alike A.2.1) A.2.2 (idx_ok hi hl) (by rw [idx_nat (Nat.lt_trans hi hl), ← hv, Array.getElem?_toList]) (g := mkF m pc Ls (.int (Int32.ofNat i) :: .ref a :: st)) rfl rfl (hb hby hd) _ h1, h2⟩
theorem w_iastore' (ok : Ok Z K code own nm maxL ret) {a : Addr} {i : Nat} {x : Int32} {vs : List Value} (A : Ary Z h a .int vs) (hl : vs.length < 2 ^ 31) (hi : i < vs.length) (ha : n0 ≤ a) (hd : Fet code pc pc' .iastore 1)
    (hr : ∀ h', Wr h h' a i (.int x) → Ary Z h' a .int (vs.set i (.int x)) → Wp l R n0 K Q h' k n pc' Ls st) : Wp l R n0 K Q h k n pc Ls ((.int x) :: .int (Int32.ofNat i) :: .ref a :: st) := by
  have A0 := A
  obtain ⟨c, A, rfl⟩ := A
  rw [Array.length_toList] at hi hl
  refine w_iastore ok A (idx_ok hi hl) ha hd (fun h' W => ?_)
  rw [idx_nat (Nat.lt_trans hi hl)] at W
  exact hr h' W (A0.same W)
theorem w_lastore' (ok : Ok Z K code own nm maxL ret) {a : Addr} {i : Nat} {x : Int64} {vs : List Value} (A : Ary Z h a .long vs) (hl : vs.length < 2 ^ 31) (hi : i < vs.length) (ha : n0 ≤ a) (hd : Fet code pc pc' .lastore 1)
    (hr : ∀ h', Wr h h' a i (.long x) → Ary Z h' a .long (vs.set i (.long x)) → Wp l R n0 K Q h' k n pc' Ls st) : Wp l R n0 K Q h k n pc Ls ((.long x) :: .int (Int32.ofNat i) :: .ref a :: st) := by
  have A0 := A
  obtain ⟨c, A, rfl⟩ := A
  rw [Array.length_toList] at hi hl
  refine w_lastore ok A (idx_ok hi hl) ha hd (fun h' W => ?_)
  rw [idx_nat (Nat.lt_trans hi hl)] at W
  exact hr h' W (A0.same W)
theorem w_bastoreB' (ok : Ok Z K code own nm maxL ret) {a : Addr} {i : Nat} {x : Int32} {vs : List Value} (A : Ary Z h a .byte vs) (hl : vs.length < 2 ^ 31) (hi : i < vs.length) (ha : n0 ≤ a) (hd : Fet code pc pc' .bastore 1)
    (hr : ∀ h', Wr h h' a i (.int (nar .byte x)) → Ary Z h' a .byte (vs.set i (.int (nar .byte x))) → Wp l R n0 K Q h' k n pc' Ls st) : Wp l R n0 K Q h k n pc Ls ((.int x) :: .int (Int32.ofNat i) :: .ref a :: st) := by
  have A0 := A
  obtain ⟨c, A, rfl⟩ := A
  rw [Array.length_toList] at hi hl
  refine w_bastoreB ok A (idx_ok hi hl) ha hd (fun h' W => ?_)
  rw [idx_nat (Nat.lt_trans hi hl)] at W
  exact hr h' W (A0.same W)
theorem w_bastoreZ' (ok : Ok Z K code own nm maxL ret) {a : Addr} {i : Nat} {x : Int32} {vs : List Value} (A : Ary Z h a .boolean vs) (hl : vs.length < 2 ^ 31) (hi : i < vs.length) (ha : n0 ≤ a) (hd : Fet code pc pc' .bastore 1)
    (hr : ∀ h', Wr h h' a i (.int (nar .boolean x)) → Ary Z h' a .boolean (vs.set i (.int (nar .boolean x))) → Wp l R n0 K Q h' k n pc' Ls st) : Wp l R n0 K Q h k n pc Ls ((.int x) :: .int (Int32.ofNat i) :: .ref a :: st) := by
  have A0 := A
  obtain ⟨c, A, rfl⟩ := A
  rw [Array.length_toList] at hi hl
  refine w_bastoreZ ok A (idx_ok hi hl) ha hd (fun h' W => ?_)
  rw [idx_nat (Nat.lt_trans hi hl)] at W
  exact hr h' W (A0.same W)
end AryRules
end Jvm.WpK
namespace Jvm.Pilot.@@N@@
open Jvm Jvm.ClassFile Sem Op Lib Jvm.Free Jvm.Stand Jvm.LawKit Jvm.RoadKit Jvm.WpK Bundle Jvm.Pilot.@@N@@.Jvm.D
def own_of (c k : Int32) (aC aV aA : Addr) : Addr := if c = 0 then aA else if k = 0 then aV else aC
def own_com (a aC aV : Addr) : Int32 := if a = aC then 1 else if a = aV then 1 else 0
theorem dO_0 : Fet prog_60_method_5_code 0 1 (.iload_n 0) 1 := ⟨by decide +kernel, rfl⟩
theorem dO_1 : Brn prog_60_method_5_code 1 4 8 (.ifCond .ne 7) 7 := ⟨by decide +kernel, rfl, by decide, by decide⟩
theorem dO_4 : Fet prog_60_method_5_code 4 7 (.getstatic 10) 3 := ⟨by decide +kernel, rfl⟩
theorem dO_7 : Fet prog_60_method_5_code 7 8 (.areturn) 1 := ⟨by decide +kernel, rfl⟩
theorem dO_8 : Fet prog_60_method_5_code 8 9 (.iload_n 1) 1 := ⟨by decide +kernel, rfl⟩
theorem dO_9 : Brn prog_60_method_5_code 9 12 18 (.ifCond .eq 9) 9 := ⟨by decide +kernel, rfl, by decide, by decide⟩
theorem dO_18 : Fet prog_60_method_5_code 18 21 (.getstatic 7) 3 := ⟨by decide +kernel, rfl⟩
theorem dO_21 : Fet prog_60_method_5_code 21 22 (.areturn) 1 := ⟨by decide +kernel, rfl⟩
theorem dO_12 : Fet prog_60_method_5_code 12 15 (.getstatic 3) 3 := ⟨by decide +kernel, rfl⟩
theorem dO_15 : Brn prog_60_method_5_code 15 18 21 (.goto 6) 6 := ⟨by decide +kernel, rfl, by decide, by decide⟩
theorem pn_com_example_holdfast_holdfast_Workload_Outcome : plainName "com/example/holdfast/holdfast/Workload$Outcome" = true := by first | (simp [plainName, overriddenIn]; done) | decide +kernel
set_option maxRecDepth 65536 in
set_option maxHeartbeats 4000000 in
theorem rmO (l : Launch) (Z : State) (a0 : Array Value) (hw : ∀ d ∈ tables_1, d.before a0 Z = true) (n0 : Nat) (aC aV aA r : Addr) (c k : Int32) (h : Heap) (S_C : Sta Z h "com/example/holdfast/holdfast/Workload$Outcome" "COMMITTED" "Lcom/example/holdfast/holdfast/Workload$Outcome;" (.ref aC)) (S_V : Sta Z h "com/example/holdfast/holdfast/Workload$Outcome" "VIOLATED" "Lcom/example/holdfast/holdfast/Workload$Outcome;" (.ref aV)) (S_A : Sta Z h "com/example/holdfast/holdfast/Workload$Outcome" "ABORTED" "Lcom/example/holdfast/holdfast/Workload$Outcome;" (.ref aA)) (e : own_of c k aC aV aA = r) :
    ConV l Z n0 (⟨"com/example/holdfast/holdfast/Workload$Outcome", "of", "(ZZ)Lcom/example/holdfast/holdfast/Workload$Outcome;"⟩ : MethodName) prog_60_method_5_code 2 (some (.object "com/example/holdfast/holdfast/Workload$Outcome")) [] ({ frames := 0, cells := 0, slots := 0, locals := 0 } : Room) #[(.int c), (.int k)] h (fun w h' => w = .ref r ∧ h = h') := by
  refine con_of_wp (Ls := #[.val (.int c), .val (.int k)]) (plainFor_of_name pn_com_example_holdfast_holdfast_Workload_Outcome) (fun m => by first | rfl | (simp [entryFrame, mkF, argsToLocals, Value.category]; done)) ?_
  intro K ok
  replace ok : Ok Z K prog_60_method_5_code "com/example/holdfast/holdfast/Workload$Outcome" "of" 2 (some (.object "com/example/holdfast/holdfast/Workload$Outcome")) := ok
  show Wp l ({ frames := 0, cells := 0, slots := 0, locals := 0 } : Room) n0 K (fun v h' => ∃ w, v = some w ∧ w = .ref r ∧ h = h') h 0 0 0 #[.val (.int c), .val (.int k)] []
  refine w_iloadN ok dO_0 rfl ?_
  refine w_if_ne ok dO_1 (fun q1 => ?_) (fun q1 => ?_)
  · refine w_iloadN ok dO_8 rfl ?_
    refine w_if_eq ok dO_9 (fun q2 => ?_) (fun q2 => ?_)
    · refine w_getstatic ok (hw _ (List.mem_of_getElem? (i := 14) rfl)) Via.refl S_V dO_18 ?_
      refine w_areturn ok rfl rfl rfl dO_21 (Nat.le_of_ble_eq_true rfl) (Nat.le_of_ble_eq_true rfl) ?_
      exact ⟨_, rfl, by rw [← e]; simp [own_of, q1, q2], rfl⟩
    · refine w_getstatic ok (hw _ (List.mem_of_getElem? (i := 6) rfl)) Via.refl S_C dO_12 ?_
      refine w_goto ok dO_15 ?_
      refine w_areturn ok rfl rfl rfl dO_21 (Nat.le_of_ble_eq_true rfl) (Nat.le_of_ble_eq_true rfl) ?_
      exact ⟨_, rfl, by rw [← e]; simp [own_of, q1, q2], rfl⟩
  · refine w_getstatic ok (hw _ (List.mem_of_getElem? (i := 16) rfl)) Via.refl S_A dO_4 ?_
    refine w_areturn ok rfl rfl rfl dO_7 (Nat.le_of_ble_eq_true rfl) (Nat.le_of_ble_eq_true rfl) ?_
    exact ⟨_, rfl, by rw [← e]; simp [own_of, q1], rfl⟩
theorem dC_0 : Fet prog_60_method_4_code 0 1 (.aload_n 0) 1 := ⟨by decide +kernel, rfl⟩
theorem dC_1 : Fet prog_60_method_4_code 1 4 (.getstatic 3) 3 := ⟨by decide +kernel, rfl⟩
theorem dC_4 : Brn prog_60_method_4_code 4 7 14 (.if_acmp .eq 10) 10 := ⟨by decide +kernel, rfl, by decide, by decide⟩
theorem dC_14 : Fet prog_60_method_4_code 14 15 (.iconst 1) 1 := ⟨by decide +kernel, rfl⟩
theorem dC_15 : Brn prog_60_method_4_code 15 18 19 (.goto 4) 4 := ⟨by decide +kernel, rfl, by decide, by decide⟩
theorem dC_19 : Fet prog_60_method_4_code 19 20 (.ireturn) 1 := ⟨by decide +kernel, rfl⟩
theorem dC_7 : Fet prog_60_method_4_code 7 8 (.aload_n 0) 1 := ⟨by decide +kernel, rfl⟩
theorem dC_8 : Fet prog_60_method_4_code 8 11 (.getstatic 7) 3 := ⟨by decide +kernel, rfl⟩
theorem dC_11 : Brn prog_60_method_4_code 11 14 18 (.if_acmp .ne 7) 7 := ⟨by decide +kernel, rfl, by decide, by decide⟩
theorem dC_18 : Fet prog_60_method_4_code 18 19 (.iconst 0) 1 := ⟨by decide +kernel, rfl⟩
set_option maxRecDepth 65536 in
set_option maxHeartbeats 4000000 in
theorem rmC (l : Launch) (Z : State) (a0 : Array Value) (hw : ∀ d ∈ tables_1, d.before a0 Z = true) (n0 : Nat) (a aC aV : Addr) (r : Int32) (h : Heap) (S_C : Sta Z h "com/example/holdfast/holdfast/Workload$Outcome" "COMMITTED" "Lcom/example/holdfast/holdfast/Workload$Outcome;" (.ref aC)) (S_V : Sta Z h "com/example/holdfast/holdfast/Workload$Outcome" "VIOLATED" "Lcom/example/holdfast/holdfast/Workload$Outcome;" (.ref aV)) (e : own_com a aC aV = r) :
    ConV l Z n0 (⟨"com/example/holdfast/holdfast/Workload$Outcome", "committed", "()Z"⟩ : MethodName) prog_60_method_4_code 1 (some .boolean) [] ({ frames := 0, cells := 0, slots := 0, locals := 0 } : Room) #[(.ref a)] h (fun w h' => w = .int r ∧ h = h') := by
  refine con_of_wp (Ls := #[.val (.ref a)]) (plainFor_of_name pn_com_example_holdfast_holdfast_Workload_Outcome) (fun m => by first | rfl | (simp [entryFrame, mkF, argsToLocals, Value.category]; done)) ?_
  intro K ok
  replace ok : Ok Z K prog_60_method_4_code "com/example/holdfast/holdfast/Workload$Outcome" "committed" 1 (some .boolean) := ok
  show Wp l ({ frames := 0, cells := 0, slots := 0, locals := 0 } : Room) n0 K (fun v h' => ∃ w, v = some w ∧ w = .int r ∧ h = h') h 0 0 0 #[.val (.ref a)] []
  refine w_aloadN ok dC_0 rfl rfl ?_
  refine w_getstatic ok (hw _ (List.mem_of_getElem? (i := 6) rfl)) Via.refl S_C dC_1 ?_
  refine w_acmp_eq ok dC_4 rfl rfl (fun q1 => ?_) (fun q1 => ?_)
  · refine w_iconst ok (z := 1) dC_14 rfl ?_
    refine w_goto ok dC_15 ?_
    refine w_ireturnN ok (by simp) dC_19 (Nat.le_of_ble_eq_true rfl) (Nat.le_of_ble_eq_true rfl) ?_
    exact ⟨_, rfl, by rw [← e, show own_com a aC aV = 1 by simp [own_com, Value.ref.inj q1]]; rfl, rfl⟩
  · refine w_aloadN ok dC_7 rfl rfl ?_
    refine w_getstatic ok (hw _ (List.mem_of_getElem? (i := 14) rfl)) Via.refl S_V dC_8 ?_
    refine w_acmp_ne ok dC_11 rfl rfl (fun q2 => ?_) (fun q2 => ?_)
    · refine w_iconst ok (z := 0) dC_18 rfl ?_
      refine w_ireturnN ok (by simp) dC_19 (Nat.le_of_ble_eq_true rfl) (Nat.le_of_ble_eq_true rfl) ?_
      exact ⟨_, rfl, by rw [← e, show own_com a aC aV = 0 by simp [own_com, mt (congrArg Value.ref) q1, mt (congrArg Value.ref) q2]]; rfl, rfl⟩
    · refine w_iconst ok (z := 1) dC_14 rfl ?_
      refine w_goto ok dC_15 ?_
      refine w_ireturnN ok (by simp) dC_19 (Nat.le_of_ble_eq_true rfl) (Nat.le_of_ble_eq_true rfl) ?_
      exact ⟨_, rfl, by rw [← e, show own_com a aC aV = 1 by simp [own_com, Value.ref.inj q2]]; rfl, rfl⟩
theorem d0_0 : Fet code 0 1 (.iload_n 0) 1 := ⟨by decide +kernel, rfl⟩
theorem d0_1 : Fet code 1 2 (.iconst 3) 1 := ⟨by decide +kernel, rfl⟩
theorem d0_2 : Fet code 2 3 (.iand) 1 := ⟨by decide +kernel, rfl⟩
theorem d0_3 : Fet code 3 4 (.istore_n 2) 1 := ⟨by decide +kernel, rfl⟩
theorem d0_4 : Fet code 4 5 (.iload_n 2) 1 := ⟨by decide +kernel, rfl⟩
theorem d0_81 : Fet code 81 83 (.iload 5) 2 := ⟨by decide +kernel, rfl⟩
theorem d0_83 : Fet code 83 85 (.iload 6) 2 := ⟨by decide +kernel, rfl⟩
theorem d0_85 : Fet code 85 88 (.invokestatic 22) 3 := ⟨by decide +kernel, rfl⟩
theorem pd__ZZ_Lcom_example_holdfast_holdfast_Workload_Outcome_ : parseMethodDescriptor "(ZZ)Lcom/example/holdfast/holdfast/Workload$Outcome;" = some ⟨[.boolean, .boolean], some (.object "com/example/holdfast/holdfast/Workload$Outcome")⟩ := by decide +kernel
theorem d0_88 : Fet code 88 90 (.astore 7) 2 := ⟨by decide +kernel, rfl⟩
theorem d0_90 : Fet code 90 91 (.aload_n 3) 1 := ⟨by decide +kernel, rfl⟩
theorem d0_91 : Fet code 91 94 (.invokevirtual 26) 3 := ⟨by decide +kernel, rfl⟩
theorem pd___Z : parseMethodDescriptor "()Z" = some ⟨[], some .boolean⟩ := by decide +kernel
theorem d0_94 : Fet code 94 96 (.iload 4) 2 := ⟨by decide +kernel, rfl⟩
theorem d0_96 : Brn code 96 99 113 (.if_icmp .ne 17) 17 := ⟨by decide +kernel, rfl, by decide, by decide⟩
theorem d0_99 : Fet code 99 101 (.aload 7) 2 := ⟨by decide +kernel, rfl⟩
theorem d0_101 : Fet code 101 104 (.invokevirtual 26) 3 := ⟨by decide +kernel, rfl⟩
theorem d0_104 : Fet code 104 106 (.iload 5) 2 := ⟨by decide +kernel, rfl⟩
theorem d0_106 : Brn code 106 109 113 (.if_icmp .ne 7) 7 := ⟨by decide +kernel, rfl, by decide, by decide⟩
theorem d0_109 : Fet code 109 110 (.iconst 1) 1 := ⟨by decide +kernel, rfl⟩
theorem d0_110 : Brn code 110 113 114 (.goto 4) 4 := ⟨by decide +kernel, rfl, by decide, by decide⟩
theorem d0_114 : Fet code 114 115 (.ireturn) 1 := ⟨by decide +kernel, rfl⟩
theorem d0_55 : Fet code 55 56 (.iload_n 1) 1 := ⟨by decide +kernel, rfl⟩
theorem d0_56 : Fet code 56 57 (.iconst 1) 1 := ⟨by decide +kernel, rfl⟩
theorem d0_57 : Fet code 57 58 (.iand) 1 := ⟨by decide +kernel, rfl⟩
theorem d0_58 : Brn code 58 61 65 (.ifCond .eq 7) 7 := ⟨by decide +kernel, rfl, by decide, by decide⟩
theorem d0_65 : Fet code 65 66 (.iconst 0) 1 := ⟨by decide +kernel, rfl⟩
theorem d0_66 : Fet code 66 68 (.istore 5) 2 := ⟨by decide +kernel, rfl⟩
theorem d0_68 : Fet code 68 69 (.iload_n 1) 1 := ⟨by decide +kernel, rfl⟩
theorem d0_69 : Fet code 69 70 (.iconst 2) 1 := ⟨by decide +kernel, rfl⟩
theorem d0_70 : Fet code 70 71 (.iand) 1 := ⟨by decide +kernel, rfl⟩
theorem d0_71 : Brn code 71 74 78 (.ifCond .eq 7) 7 := ⟨by decide +kernel, rfl, by decide, by decide⟩
theorem d0_78 : Fet code 78 79 (.iconst 0) 1 := ⟨by decide +kernel, rfl⟩
theorem d0_79 : Fet code 79 81 (.istore 6) 2 := ⟨by decide +kernel, rfl⟩
theorem d0_74 : Fet code 74 75 (.iconst 1) 1 := ⟨by decide +kernel, rfl⟩
theorem d0_75 : Brn code 75 78 79 (.goto 4) 4 := ⟨by decide +kernel, rfl, by decide, by decide⟩
theorem d0_61 : Fet code 61 62 (.iconst 1) 1 := ⟨by decide +kernel, rfl⟩
theorem d0_62 : Brn code 62 65 66 (.goto 4) 4 := ⟨by decide +kernel, rfl, by decide, by decide⟩
theorem d0_5 : Brn code 5 8 18 (.ifCond .ne 13) 13 := ⟨by decide +kernel, rfl, by decide, by decide⟩
theorem d0_8 : Fet code 8 11 (.getstatic 7) 3 := ⟨by decide +kernel, rfl⟩
theorem d0_11 : Fet code 11 12 (.astore_n 3) 1 := ⟨by decide +kernel, rfl⟩
theorem d0_12 : Fet code 12 13 (.iconst 1) 1 := ⟨by decide +kernel, rfl⟩
theorem d0_13 : Fet code 13 15 (.istore 4) 2 := ⟨by decide +kernel, rfl⟩
theorem d0_15 : Brn code 15 18 55 (.goto 40) 40 := ⟨by decide +kernel, rfl, by decide, by decide⟩
theorem d0_18 : Fet code 18 19 (.iload_n 2) 1 := ⟨by decide +kernel, rfl⟩
theorem d0_19 : Fet code 19 20 (.iconst 1) 1 := ⟨by decide +kernel, rfl⟩
theorem d0_20 : Brn code 20 23 33 (.if_icmp .ne 13) 13 := ⟨by decide +kernel, rfl, by decide, by decide⟩
theorem d0_23 : Fet code 23 26 (.getstatic 13) 3 := ⟨by decide +kernel, rfl⟩
theorem d0_26 : Fet code 26 27 (.astore_n 3) 1 := ⟨by decide +kernel, rfl⟩
theorem d0_27 : Fet code 27 28 (.iconst 1) 1 := ⟨by decide +kernel, rfl⟩
theorem d0_28 : Fet code 28 30 (.istore 4) 2 := ⟨by decide +kernel, rfl⟩
theorem d0_30 : Brn code 30 33 55 (.goto 25) 25 := ⟨by decide +kernel, rfl, by decide, by decide⟩
theorem d0_33 : Fet code 33 34 (.iload_n 2) 1 := ⟨by decide +kernel, rfl⟩
theorem d0_34 : Fet code 34 35 (.iconst 2) 1 := ⟨by decide +kernel, rfl⟩
theorem d0_35 : Brn code 35 38 48 (.if_icmp .ne 13) 13 := ⟨by decide +kernel, rfl, by decide, by decide⟩
theorem d0_38 : Fet code 38 41 (.getstatic 16) 3 := ⟨by decide +kernel, rfl⟩
theorem d0_41 : Fet code 41 42 (.astore_n 3) 1 := ⟨by decide +kernel, rfl⟩
theorem d0_42 : Fet code 42 43 (.iconst 0) 1 := ⟨by decide +kernel, rfl⟩
theorem d0_43 : Fet code 43 45 (.istore 4) 2 := ⟨by decide +kernel, rfl⟩
theorem d0_45 : Brn code 45 48 55 (.goto 10) 10 := ⟨by decide +kernel, rfl, by decide, by decide⟩
theorem d0_48 : Fet code 48 51 (.getstatic 19) 3 := ⟨by decide +kernel, rfl⟩
theorem d0_51 : Fet code 51 52 (.astore_n 3) 1 := ⟨by decide +kernel, rfl⟩
theorem d0_52 : Fet code 52 53 (.iconst 0) 1 := ⟨by decide +kernel, rfl⟩
theorem d0_53 : Fet code 53 55 (.istore 4) 2 := ⟨by decide +kernel, rfl⟩
theorem pn_com_example_holdfast_holdfast_OutcomeCommittedPinLaw : plainName "com/example/holdfast/holdfast/OutcomeCommittedPinLaw" = true := by first | (simp [plainName, overriddenIn]; done) | decide +kernel
set_option maxRecDepth 65536 in
set_option maxHeartbeats 4000000 in
theorem rm0 (l : Launch) (Z : State) (a0 : Array Value) (hw : ∀ d ∈ tables_1, d.before a0 Z = true) (n0 : Nat) (p q0 : Int32) (h : Heap) (aC aV aA aR : Addr) (S_C : Sta Z h "com/example/holdfast/holdfast/Workload$Outcome" "COMMITTED" "Lcom/example/holdfast/holdfast/Workload$Outcome;" (.ref aC)) (S_V : Sta Z h "com/example/holdfast/holdfast/Workload$Outcome" "VIOLATED" "Lcom/example/holdfast/holdfast/Workload$Outcome;" (.ref aV)) (S_A : Sta Z h "com/example/holdfast/holdfast/Workload$Outcome" "ABORTED" "Lcom/example/holdfast/holdfast/Workload$Outcome;" (.ref aA)) (S_R : Sta Z h "com/example/holdfast/holdfast/Workload$Outcome" "RESTARTED" "Lcom/example/holdfast/holdfast/Workload$Outcome;" (.ref aR)) (E_C : Exa Z h aC "com/example/holdfast/holdfast/Workload$Outcome") (E_V : Exa Z h aV "com/example/holdfast/holdfast/Workload$Outcome") (E_A : Exa Z h aA "com/example/holdfast/holdfast/Workload$Outcome") (E_R : Exa Z h aR "com/example/holdfast/holdfast/Workload$Outcome") (nCV : aC ≠ aV) (nAC : aA ≠ aC) (nAV : aA ≠ aV) (nRC : aR ≠ aC) (nRV : aR ≠ aV) (nRA : aR ≠ aA) :
    ConV l Z n0 x code maxLocals ret tables_1 room_1 #[(.int p), (.int q0)] h (fun w h' => w = .int 1) := by
  refine con_of_wp (Ls := #[.val (.int p), .val (.int q0), .unset, .unset, .unset, .unset, .unset, .unset]) (plainFor_of_name pn_com_example_holdfast_holdfast_OutcomeCommittedPinLaw) (fun m => by first | rfl | (simp [entryFrame, mkF, argsToLocals, Value.category, maxLocals]; done)) ?_
  intro K ok
  replace ok : Ok Z K code "com/example/holdfast/holdfast/OutcomeCommittedPinLaw" "law" 8 (some .boolean) := ok
  show Wp l room_1 n0 K (fun v h' => ∃ w, v = some w ∧ w = .int 1) h 0 0 0 #[.val (.int p), .val (.int q0), .unset, .unset, .unset, .unset, .unset, .unset] []
  refine w_iloadN ok d0_0 rfl ?_
  refine w_iconst ok (z := 3) d0_1 rfl ?_
  refine w_iand ok d0_2 ?_
  refine w_istoreN ok (Ls' := #[.val (.int p), .val (.int q0), .val (.int (p &&& (3 : Int32))), .unset, .unset, .unset, .unset, .unset]) d0_3 rfl ?_
  refine w_iloadN ok d0_4 rfl ?_
  have J81 : ∀ (o : Addr) (x z y : Int32) (E_o : Exa Z h o "com/example/holdfast/holdfast/Workload$Outcome") (hx : own_com o aC aV = x) (hz : z = 0 ∨ z = 1) (hy : y = 0 ∨ y = 1), Wp l room_1 n0 K (fun v h' => ∃ w, v = some w ∧ w = .int 1) h 0 0 81 #[.val (.int p), .val (.int q0), .val (.int (p &&& (3 : Int32))), .val (.ref o), .val (.int x), .val (.int z), .val (.int y), .unset] [] := by
    intro o x z y E_o hx hz hy
    rcases hz with rfl | rfl
    · rcases hy with rfl | rfl
      · refine w_iload ok d0_81 rfl ?_
        refine w_iload ok d0_83 rfl ?_
        refine w_callSV ok (argsL := [(.int (0 : Int32)), (.int (0 : Int32))]) (rest := []) (hw _ (List.mem_of_getElem? (i := 3) rfl)) (hw _ (List.mem_of_getElem? (i := 4) rfl)) (hw _ (List.mem_of_getElem? (i := 1) rfl)) (hw _ (List.mem_of_getElem? (i := 5) rfl)) (by decide) (rmO l Z a0 hw n0 aC aV aA aA _ _ h S_C S_V S_A (by simp [own_of])) d0_85 (lenOf pd__ZZ_Lcom_example_holdfast_holdfast_Workload_Outcome_ rfl) rfl rfl (Nat.le_of_ble_eq_true rfl) (Nat.le_of_ble_eq_true rfl) (k' := 0) (n' := 0) rfl rfl (Nat.le_of_ble_eq_true rfl) (Nat.le_of_ble_eq_true rfl) ?_
        rintro _ _ ⟨rfl, rfl⟩
        refine w_astore ok (Ls' := #[.val (.int p), .val (.int q0), .val (.int (p &&& (3 : Int32))), .val (.ref o), .val (.int x), .val (.int (0 : Int32)), .val (.int (0 : Int32)), .val (.ref aA)]) d0_88 rfl rfl ?_
        refine w_aloadN ok d0_90 rfl rfl ?_
        refine w_virtV ok (argsL := []) (rest := []) (hw _ (List.mem_of_getElem? (i := 7) rfl)) (hw _ (List.mem_of_getElem? (i := 8) rfl)) (hw _ (List.mem_of_getElem? (i := 10) rfl)) (hw _ (List.mem_of_getElem? (i := 9) rfl)) (hw _ (List.mem_of_getElem? (i := 1) rfl)) (hw _ (List.mem_of_getElem? (i := 11) rfl)) E_o (by decide) (rmC l Z a0 hw n0 o aC aV x h S_C S_V hx) d0_91 (lenOf pd___Z rfl) rfl rfl (Nat.le_of_ble_eq_true rfl) (Nat.le_of_ble_eq_true rfl) (k' := 0) (n' := 0) rfl rfl (Nat.le_of_ble_eq_true rfl) (Nat.le_of_ble_eq_true rfl) ?_
        rintro _ _ ⟨rfl, rfl⟩
        refine w_iload ok d0_94 rfl ?_
        refine w_ic_ne ok d0_96 (fun q => ?_) (fun q => ?_)
        · exact absurd rfl q
        · refine w_aload ok d0_99 rfl rfl ?_
          refine w_virtV ok (argsL := []) (rest := []) (hw _ (List.mem_of_getElem? (i := 7) rfl)) (hw _ (List.mem_of_getElem? (i := 8) rfl)) (hw _ (List.mem_of_getElem? (i := 10) rfl)) (hw _ (List.mem_of_getElem? (i := 9) rfl)) (hw _ (List.mem_of_getElem? (i := 1) rfl)) (hw _ (List.mem_of_getElem? (i := 11) rfl)) E_A (by decide) (rmC l Z a0 hw n0 aA aC aV (0 : Int32) h S_C S_V (by simp [own_com, nCV, nCV.symm, nAC, nAV, nRC, nRV])) d0_101 (lenOf pd___Z rfl) rfl rfl (Nat.le_of_ble_eq_true rfl) (Nat.le_of_ble_eq_true rfl) (k' := 0) (n' := 0) rfl rfl (Nat.le_of_ble_eq_true rfl) (Nat.le_of_ble_eq_true rfl) ?_
          rintro _ _ ⟨rfl, rfl⟩
          refine w_iload ok d0_104 rfl ?_
          refine w_ic_ne ok d0_106 (fun q => absurd (by decide) q) (fun _ => ?_)
          refine w_iconst ok (z := 1) d0_109 rfl ?_
          refine w_goto ok d0_110 ?_
          refine w_ireturnN ok (by simp) d0_114 (Nat.le_of_ble_eq_true rfl) (Nat.le_of_ble_eq_true rfl) ?_
          exact ⟨_, rfl, rfl⟩
      · refine w_iload ok d0_81 rfl ?_
        refine w_iload ok d0_83 rfl ?_
        refine w_callSV ok (argsL := [(.int (0 : Int32)), (.int (1 : Int32))]) (rest := []) (hw _ (List.mem_of_getElem? (i := 3) rfl)) (hw _ (List.mem_of_getElem? (i := 4) rfl)) (hw _ (List.mem_of_getElem? (i := 1) rfl)) (hw _ (List.mem_of_getElem? (i := 5) rfl)) (by decide) (rmO l Z a0 hw n0 aC aV aA aA _ _ h S_C S_V S_A (by simp [own_of])) d0_85 (lenOf pd__ZZ_Lcom_example_holdfast_holdfast_Workload_Outcome_ rfl) rfl rfl (Nat.le_of_ble_eq_true rfl) (Nat.le_of_ble_eq_true rfl) (k' := 0) (n' := 0) rfl rfl (Nat.le_of_ble_eq_true rfl) (Nat.le_of_ble_eq_true rfl) ?_
        rintro _ _ ⟨rfl, rfl⟩
        refine w_astore ok (Ls' := #[.val (.int p), .val (.int q0), .val (.int (p &&& (3 : Int32))), .val (.ref o), .val (.int x), .val (.int (0 : Int32)), .val (.int (1 : Int32)), .val (.ref aA)]) d0_88 rfl rfl ?_
        refine w_aloadN ok d0_90 rfl rfl ?_
        refine w_virtV ok (argsL := []) (rest := []) (hw _ (List.mem_of_getElem? (i := 7) rfl)) (hw _ (List.mem_of_getElem? (i := 8) rfl)) (hw _ (List.mem_of_getElem? (i := 10) rfl)) (hw _ (List.mem_of_getElem? (i := 9) rfl)) (hw _ (List.mem_of_getElem? (i := 1) rfl)) (hw _ (List.mem_of_getElem? (i := 11) rfl)) E_o (by decide) (rmC l Z a0 hw n0 o aC aV x h S_C S_V hx) d0_91 (lenOf pd___Z rfl) rfl rfl (Nat.le_of_ble_eq_true rfl) (Nat.le_of_ble_eq_true rfl) (k' := 0) (n' := 0) rfl rfl (Nat.le_of_ble_eq_true rfl) (Nat.le_of_ble_eq_true rfl) ?_
        rintro _ _ ⟨rfl, rfl⟩
        refine w_iload ok d0_94 rfl ?_
        refine w_ic_ne ok d0_96 (fun q => ?_) (fun q => ?_)
        · exact absurd rfl q
        · refine w_aload ok d0_99 rfl rfl ?_
          refine w_virtV ok (argsL := []) (rest := []) (hw _ (List.mem_of_getElem? (i := 7) rfl)) (hw _ (List.mem_of_getElem? (i := 8) rfl)) (hw _ (List.mem_of_getElem? (i := 10) rfl)) (hw _ (List.mem_of_getElem? (i := 9) rfl)) (hw _ (List.mem_of_getElem? (i := 1) rfl)) (hw _ (List.mem_of_getElem? (i := 11) rfl)) E_A (by decide) (rmC l Z a0 hw n0 aA aC aV (0 : Int32) h S_C S_V (by simp [own_com, nCV, nCV.symm, nAC, nAV, nRC, nRV])) d0_101 (lenOf pd___Z rfl) rfl rfl (Nat.le_of_ble_eq_true rfl) (Nat.le_of_ble_eq_true rfl) (k' := 0) (n' := 0) rfl rfl (Nat.le_of_ble_eq_true rfl) (Nat.le_of_ble_eq_true rfl) ?_
          rintro _ _ ⟨rfl, rfl⟩
          refine w_iload ok d0_104 rfl ?_
          refine w_ic_ne ok d0_106 (fun q => absurd (by decide) q) (fun _ => ?_)
          refine w_iconst ok (z := 1) d0_109 rfl ?_
          refine w_goto ok d0_110 ?_
          refine w_ireturnN ok (by simp) d0_114 (Nat.le_of_ble_eq_true rfl) (Nat.le_of_ble_eq_true rfl) ?_
          exact ⟨_, rfl, rfl⟩
    · rcases hy with rfl | rfl
      · refine w_iload ok d0_81 rfl ?_
        refine w_iload ok d0_83 rfl ?_
        refine w_callSV ok (argsL := [(.int (1 : Int32)), (.int (0 : Int32))]) (rest := []) (hw _ (List.mem_of_getElem? (i := 3) rfl)) (hw _ (List.mem_of_getElem? (i := 4) rfl)) (hw _ (List.mem_of_getElem? (i := 1) rfl)) (hw _ (List.mem_of_getElem? (i := 5) rfl)) (by decide) (rmO l Z a0 hw n0 aC aV aA aV _ _ h S_C S_V S_A (by simp [own_of])) d0_85 (lenOf pd__ZZ_Lcom_example_holdfast_holdfast_Workload_Outcome_ rfl) rfl rfl (Nat.le_of_ble_eq_true rfl) (Nat.le_of_ble_eq_true rfl) (k' := 0) (n' := 0) rfl rfl (Nat.le_of_ble_eq_true rfl) (Nat.le_of_ble_eq_true rfl) ?_
        rintro _ _ ⟨rfl, rfl⟩
        refine w_astore ok (Ls' := #[.val (.int p), .val (.int q0), .val (.int (p &&& (3 : Int32))), .val (.ref o), .val (.int x), .val (.int (1 : Int32)), .val (.int (0 : Int32)), .val (.ref aV)]) d0_88 rfl rfl ?_
        refine w_aloadN ok d0_90 rfl rfl ?_
        refine w_virtV ok (argsL := []) (rest := []) (hw _ (List.mem_of_getElem? (i := 7) rfl)) (hw _ (List.mem_of_getElem? (i := 8) rfl)) (hw _ (List.mem_of_getElem? (i := 10) rfl)) (hw _ (List.mem_of_getElem? (i := 9) rfl)) (hw _ (List.mem_of_getElem? (i := 1) rfl)) (hw _ (List.mem_of_getElem? (i := 11) rfl)) E_o (by decide) (rmC l Z a0 hw n0 o aC aV x h S_C S_V hx) d0_91 (lenOf pd___Z rfl) rfl rfl (Nat.le_of_ble_eq_true rfl) (Nat.le_of_ble_eq_true rfl) (k' := 0) (n' := 0) rfl rfl (Nat.le_of_ble_eq_true rfl) (Nat.le_of_ble_eq_true rfl) ?_
        rintro _ _ ⟨rfl, rfl⟩
        refine w_iload ok d0_94 rfl ?_
        refine w_ic_ne ok d0_96 (fun q => ?_) (fun q => ?_)
        · exact absurd rfl q
        · refine w_aload ok d0_99 rfl rfl ?_
          refine w_virtV ok (argsL := []) (rest := []) (hw _ (List.mem_of_getElem? (i := 7) rfl)) (hw _ (List.mem_of_getElem? (i := 8) rfl)) (hw _ (List.mem_of_getElem? (i := 10) rfl)) (hw _ (List.mem_of_getElem? (i := 9) rfl)) (hw _ (List.mem_of_getElem? (i := 1) rfl)) (hw _ (List.mem_of_getElem? (i := 11) rfl)) E_V (by decide) (rmC l Z a0 hw n0 aV aC aV (1 : Int32) h S_C S_V (by simp [own_com, nCV, nCV.symm, nAC, nAV, nRC, nRV])) d0_101 (lenOf pd___Z rfl) rfl rfl (Nat.le_of_ble_eq_true rfl) (Nat.le_of_ble_eq_true rfl) (k' := 0) (n' := 0) rfl rfl (Nat.le_of_ble_eq_true rfl) (Nat.le_of_ble_eq_true rfl) ?_
          rintro _ _ ⟨rfl, rfl⟩
          refine w_iload ok d0_104 rfl ?_
          refine w_ic_ne ok d0_106 (fun q => absurd (by decide) q) (fun _ => ?_)
          refine w_iconst ok (z := 1) d0_109 rfl ?_
          refine w_goto ok d0_110 ?_
          refine w_ireturnN ok (by simp) d0_114 (Nat.le_of_ble_eq_true rfl) (Nat.le_of_ble_eq_true rfl) ?_
          exact ⟨_, rfl, rfl⟩
      · refine w_iload ok d0_81 rfl ?_
        refine w_iload ok d0_83 rfl ?_
        refine w_callSV ok (argsL := [(.int (1 : Int32)), (.int (1 : Int32))]) (rest := []) (hw _ (List.mem_of_getElem? (i := 3) rfl)) (hw _ (List.mem_of_getElem? (i := 4) rfl)) (hw _ (List.mem_of_getElem? (i := 1) rfl)) (hw _ (List.mem_of_getElem? (i := 5) rfl)) (by decide) (rmO l Z a0 hw n0 aC aV aA aC _ _ h S_C S_V S_A (by simp [own_of])) d0_85 (lenOf pd__ZZ_Lcom_example_holdfast_holdfast_Workload_Outcome_ rfl) rfl rfl (Nat.le_of_ble_eq_true rfl) (Nat.le_of_ble_eq_true rfl) (k' := 0) (n' := 0) rfl rfl (Nat.le_of_ble_eq_true rfl) (Nat.le_of_ble_eq_true rfl) ?_
        rintro _ _ ⟨rfl, rfl⟩
        refine w_astore ok (Ls' := #[.val (.int p), .val (.int q0), .val (.int (p &&& (3 : Int32))), .val (.ref o), .val (.int x), .val (.int (1 : Int32)), .val (.int (1 : Int32)), .val (.ref aC)]) d0_88 rfl rfl ?_
        refine w_aloadN ok d0_90 rfl rfl ?_
        refine w_virtV ok (argsL := []) (rest := []) (hw _ (List.mem_of_getElem? (i := 7) rfl)) (hw _ (List.mem_of_getElem? (i := 8) rfl)) (hw _ (List.mem_of_getElem? (i := 10) rfl)) (hw _ (List.mem_of_getElem? (i := 9) rfl)) (hw _ (List.mem_of_getElem? (i := 1) rfl)) (hw _ (List.mem_of_getElem? (i := 11) rfl)) E_o (by decide) (rmC l Z a0 hw n0 o aC aV x h S_C S_V hx) d0_91 (lenOf pd___Z rfl) rfl rfl (Nat.le_of_ble_eq_true rfl) (Nat.le_of_ble_eq_true rfl) (k' := 0) (n' := 0) rfl rfl (Nat.le_of_ble_eq_true rfl) (Nat.le_of_ble_eq_true rfl) ?_
        rintro _ _ ⟨rfl, rfl⟩
        refine w_iload ok d0_94 rfl ?_
        refine w_ic_ne ok d0_96 (fun q => ?_) (fun q => ?_)
        · exact absurd rfl q
        · refine w_aload ok d0_99 rfl rfl ?_
          refine w_virtV ok (argsL := []) (rest := []) (hw _ (List.mem_of_getElem? (i := 7) rfl)) (hw _ (List.mem_of_getElem? (i := 8) rfl)) (hw _ (List.mem_of_getElem? (i := 10) rfl)) (hw _ (List.mem_of_getElem? (i := 9) rfl)) (hw _ (List.mem_of_getElem? (i := 1) rfl)) (hw _ (List.mem_of_getElem? (i := 11) rfl)) E_C (by decide) (rmC l Z a0 hw n0 aC aC aV (1 : Int32) h S_C S_V (by simp [own_com, nCV, nCV.symm, nAC, nAV, nRC, nRV])) d0_101 (lenOf pd___Z rfl) rfl rfl (Nat.le_of_ble_eq_true rfl) (Nat.le_of_ble_eq_true rfl) (k' := 0) (n' := 0) rfl rfl (Nat.le_of_ble_eq_true rfl) (Nat.le_of_ble_eq_true rfl) ?_
          rintro _ _ ⟨rfl, rfl⟩
          refine w_iload ok d0_104 rfl ?_
          refine w_ic_ne ok d0_106 (fun q => absurd (by decide) q) (fun _ => ?_)
          refine w_iconst ok (z := 1) d0_109 rfl ?_
          refine w_goto ok d0_110 ?_
          refine w_ireturnN ok (by simp) d0_114 (Nat.le_of_ble_eq_true rfl) (Nat.le_of_ble_eq_true rfl) ?_
          exact ⟨_, rfl, rfl⟩
  have J55 : ∀ (o : Addr) (x : Int32) (E_o : Exa Z h o "com/example/holdfast/holdfast/Workload$Outcome") (hx : own_com o aC aV = x), Wp l room_1 n0 K (fun v h' => ∃ w, v = some w ∧ w = .int 1) h 0 0 55 #[.val (.int p), .val (.int q0), .val (.int (p &&& (3 : Int32))), .val (.ref o), .val (.int x), .unset, .unset, .unset] [] := by
    intro o x E_o hx
    refine w_iloadN ok d0_55 rfl ?_
    refine w_iconst ok (z := 1) d0_56 rfl ?_
    refine w_iand ok d0_57 ?_
    refine w_if_eq ok d0_58 (fun q => ?_) (fun q => ?_)
    · refine w_iconst ok (z := 0) d0_65 rfl ?_
      refine w_istore ok (Ls' := #[.val (.int p), .val (.int q0), .val (.int (p &&& (3 : Int32))), .val (.ref o), .val (.int x), .val (.int (0 : Int32)), .unset, .unset]) d0_66 rfl ?_
      refine w_iloadN ok d0_68 rfl ?_
      refine w_iconst ok (z := 2) d0_69 rfl ?_
      refine w_iand ok d0_70 ?_
      refine w_if_eq ok d0_71 (fun q1 => ?_) (fun q1 => ?_)
      · refine w_iconst ok (z := 0) d0_78 rfl ?_
        refine w_istore ok (Ls' := #[.val (.int p), .val (.int q0), .val (.int (p &&& (3 : Int32))), .val (.ref o), .val (.int x), .val (.int (0 : Int32)), .val (.int (0 : Int32)), .unset]) d0_79 rfl ?_
        exact J81 _ _ _ _ E_o hx (Or.inl rfl) (Or.inl rfl)
      · refine w_iconst ok (z := 1) d0_74 rfl ?_
        refine w_goto ok d0_75 ?_
        refine w_istore ok (Ls' := #[.val (.int p), .val (.int q0), .val (.int (p &&& (3 : Int32))), .val (.ref o), .val (.int x), .val (.int (0 : Int32)), .val (.int (1 : Int32)), .unset]) d0_79 rfl ?_
        exact J81 _ _ _ _ E_o hx (Or.inl rfl) (Or.inr rfl)
    · refine w_iconst ok (z := 1) d0_61 rfl ?_
      refine w_goto ok d0_62 ?_
      refine w_istore ok (Ls' := #[.val (.int p), .val (.int q0), .val (.int (p &&& (3 : Int32))), .val (.ref o), .val (.int x), .val (.int (1 : Int32)), .unset, .unset]) d0_66 rfl ?_
      refine w_iloadN ok d0_68 rfl ?_
      refine w_iconst ok (z := 2) d0_69 rfl ?_
      refine w_iand ok d0_70 ?_
      refine w_if_eq ok d0_71 (fun q1 => ?_) (fun q1 => ?_)
      · refine w_iconst ok (z := 0) d0_78 rfl ?_
        refine w_istore ok (Ls' := #[.val (.int p), .val (.int q0), .val (.int (p &&& (3 : Int32))), .val (.ref o), .val (.int x), .val (.int (1 : Int32)), .val (.int (0 : Int32)), .unset]) d0_79 rfl ?_
        exact J81 _ _ _ _ E_o hx (Or.inr rfl) (Or.inl rfl)
      · refine w_iconst ok (z := 1) d0_74 rfl ?_
        refine w_goto ok d0_75 ?_
        refine w_istore ok (Ls' := #[.val (.int p), .val (.int q0), .val (.int (p &&& (3 : Int32))), .val (.ref o), .val (.int x), .val (.int (1 : Int32)), .val (.int (1 : Int32)), .unset]) d0_79 rfl ?_
        exact J81 _ _ _ _ E_o hx (Or.inr rfl) (Or.inr rfl)
  refine w_if_ne ok d0_5 (fun qC => ?_) (fun qC => ?_)
  · refine w_iloadN ok d0_18 rfl ?_
    refine w_iconst ok (z := 1) d0_19 rfl ?_
    refine w_ic_ne ok d0_20 (fun qV => ?_) (fun qV => ?_)
    · refine w_iloadN ok d0_33 rfl ?_
      refine w_iconst ok (z := 2) d0_34 rfl ?_
      refine w_ic_ne ok d0_35 (fun qA => ?_) (fun qA => ?_)
      · refine w_getstatic ok (hw _ (List.mem_of_getElem? (i := 18) rfl)) Via.refl S_R d0_48 ?_
        refine w_astoreN ok (Ls' := #[.val (.int p), .val (.int q0), .val (.int (p &&& (3 : Int32))), .val (.ref aR), .unset, .unset, .unset, .unset]) d0_51 rfl rfl ?_
        refine w_iconst ok (z := 0) d0_52 rfl ?_
        refine w_istore ok (Ls' := #[.val (.int p), .val (.int q0), .val (.int (p &&& (3 : Int32))), .val (.ref aR), .val (.int (0 : Int32)), .unset, .unset, .unset]) d0_53 rfl ?_
        exact J55 _ _ E_R (by simp [own_com, nCV, nCV.symm, nAC, nAV, nRC, nRV])
      · refine w_getstatic ok (hw _ (List.mem_of_getElem? (i := 12) rfl)) Via.refl S_A d0_38 ?_
        refine w_astoreN ok (Ls' := #[.val (.int p), .val (.int q0), .val (.int (p &&& (3 : Int32))), .val (.ref aA), .unset, .unset, .unset, .unset]) d0_41 rfl rfl ?_
        refine w_iconst ok (z := 0) d0_42 rfl ?_
        refine w_istore ok (Ls' := #[.val (.int p), .val (.int q0), .val (.int (p &&& (3 : Int32))), .val (.ref aA), .val (.int (0 : Int32)), .unset, .unset, .unset]) d0_43 rfl ?_
        refine w_goto ok d0_45 ?_
        exact J55 _ _ E_A (by simp [own_com, nCV, nCV.symm, nAC, nAV, nRC, nRV])
    · refine w_getstatic ok (hw _ (List.mem_of_getElem? (i := 17) rfl)) Via.refl S_V d0_23 ?_
      refine w_astoreN ok (Ls' := #[.val (.int p), .val (.int q0), .val (.int (p &&& (3 : Int32))), .val (.ref aV), .unset, .unset, .unset, .unset]) d0_26 rfl rfl ?_
      refine w_iconst ok (z := 1) d0_27 rfl ?_
      refine w_istore ok (Ls' := #[.val (.int p), .val (.int q0), .val (.int (p &&& (3 : Int32))), .val (.ref aV), .val (.int (1 : Int32)), .unset, .unset, .unset]) d0_28 rfl ?_
      refine w_goto ok d0_30 ?_
      exact J55 _ _ E_V (by simp [own_com, nCV, nCV.symm, nAC, nAV, nRC, nRV])
  · refine w_getstatic ok (hw _ (List.mem_of_getElem? (i := 0) rfl)) Via.refl S_C d0_8 ?_
    refine w_astoreN ok (Ls' := #[.val (.int p), .val (.int q0), .val (.int (p &&& (3 : Int32))), .val (.ref aC), .unset, .unset, .unset, .unset]) d0_11 rfl rfl ?_
    refine w_iconst ok (z := 1) d0_12 rfl ?_
    refine w_istore ok (Ls' := #[.val (.int p), .val (.int q0), .val (.int (p &&& (3 : Int32))), .val (.ref aC), .val (.int (1 : Int32)), .unset, .unset, .unset]) d0_13 rfl ?_
    refine w_goto ok d0_15 ?_
    exact J55 _ _ E_C (by simp [own_com, nCV, nCV.symm, nAC, nAV, nRC, nRV])
set_option maxRecDepth 65536 in
set_option maxHeartbeats 4000000 in
theorem comes_1 {Post : Tables → Env → Array Value → State → Outcome → State → Prop} (hpost : ∀ tb e args s v u, (limb_1_1.after args s (.returned v) u = true ∧ limb_1_2.after args s (.returned v) u = true ∧ True) → FrameEnd s (.returned v) u (Jvm.fieldLocs frame_1_writes args s ++ Jvm.arrayLocs frame_1_arrays args s ++ Jvm.staticLocs frame_1_statics s) 0 0 → Post tb e args s (.returned v) u) :
    ArmFor flags0 classFile x code maxLocals ret World_1 tables_1 room_1 Calls_1 rest_1 Pre_1 Post := by
  intro l hfl _ _ p e ha hc hk s m args below hf hA hF happ hP
  obtain ⟨hcalls, hrest, hpre⟩ := hP
  obtain ⟨-, -, -, hnamed, -, -, -, hat⟩ := (Spec.applies_iff hf).mp happ
  obtain ⟨hg, hn⟩ := and_e (Cond.before_iff.mp (show (Jvm.Cond.and given_1 narrow_1).before args s = true from hpre))
  obtain ⟨hct, hg0⟩ := and_e hg
  obtain ⟨hk0, hg1⟩ := and_e hg0
  have hk1 := hg1
  obtain ⟨w0, w1, rfl⟩ : ∃ w0 w1 : Value, args = #[w0, w1] := by
    have hs : args.size = 2 := by simpa [Cond.value, given_1] using hct
    obtain ⟨L⟩ := args
    match L, hs with
    | [w0, w1], _ => exact ⟨w0, w1, rfl⟩
  have hw := fun d (hd : d ∈ tables_1) => atoms_spec (ws := Jvm.Cond.code x code maxLocals ret :: tables_1) hat d (List.mem_cons_of_mem _ hd)
  obtain ⟨i0, ei0⟩ := is_v hk0
  obtain rfl : w0 = (.int i0) := Option.some.inj ei0
  obtain ⟨i1, ei1⟩ := is_v hk1
  obtain rfl : w1 = (.int i1) := Option.some.inj ei1
  obtain ⟨m0, hn⟩ := and_e hn
  obtain ⟨m1, hn⟩ := and_e hn
  obtain ⟨m2, hn⟩ := and_e hn
  obtain ⟨m3, hn⟩ := and_e hn
  obtain ⟨m4, hn⟩ := and_e hn
  obtain ⟨m5, hn⟩ := and_e hn
  obtain ⟨m6, hn⟩ := and_e hn
  have m7 := hn
  obtain ⟨aC, evC⟩ := exa_v m0
  have E_C := Exa.start evC m0
  have S_C := Sta.start evC (Or.inr ⟨(hw _ (List.mem_of_getElem? (i := 1) rfl)), (hw _ (List.mem_of_getElem? (i := 2) rfl))⟩)
  obtain ⟨aA, evA⟩ := exa_v m1
  have E_A := Exa.start evA m1
  have S_A := Sta.start evA (Or.inr ⟨(hw _ (List.mem_of_getElem? (i := 1) rfl)), (hw _ (List.mem_of_getElem? (i := 13) rfl))⟩)
  obtain ⟨aV, evV⟩ := exa_v m2
  have E_V := Exa.start evV m2
  have S_V := Sta.start evV (Or.inr ⟨(hw _ (List.mem_of_getElem? (i := 1) rfl)), (hw _ (List.mem_of_getElem? (i := 15) rfl))⟩)
  obtain ⟨aR, evR⟩ := exa_v m6
  have E_R := Exa.start evR m6
  have S_R := Sta.start evR (Or.inr ⟨(hw _ (List.mem_of_getElem? (i := 1) rfl)), (hw _ (List.mem_of_getElem? (i := 19) rfl))⟩)
  have O_A := Fld.start ((fld_at evA).symm.trans (eqv_i (Term.int_eval _) m3))
  have O_C := Fld.start ((fld_at evC).symm.trans (eqv_i (Term.int_eval _) m4))
  have O_V := Fld.start ((fld_at evV).symm.trans (eqv_i (Term.int_eval _) m5))
  have O_R := Fld.start ((fld_at evR).symm.trans (eqv_i (Term.int_eval _) m7))
  have nCV := Fld.ne O_C O_V (by decide)
  have nAC := Fld.ne O_A O_C (by decide)
  have nAV := Fld.ne O_A O_V (by decide)
  have nRC := Fld.ne O_R O_C (by decide)
  have nRV := Fld.ne O_R O_V (by decide)
  have nRA := Fld.ne O_R O_A (by decide)
  obtain ⟨n, o, h1, h2, h3, _, L, rfl, ⟨⟨_, rfl, rfl⟩, N⟩, hq⟩ := rm0 l s _ hw s.heap.size i0 i1 s.heap aC aV aA aR S_C S_V S_A S_R E_C E_V E_A E_R nCV nAC nAV nRC nRV nRA p e ha hc hk s m _ below hf ((Spec.applies_iff_loose hf).mp happ).1 ⟨rfl, State.Warmed39.refl s, rfl⟩ trivial
  refine ⟨n, _, h1, h2, h3, hpost _ _ _ _ _ _ ⟨Cond.after_iff.mpr rfl, Cond.after_iff.mpr (eq_i res_at (Term.int_eval (1)) rfl), trivial⟩ ⟨hq.1, hq.2.1, (hq.2.2.sift fun y hy => Or.inr (N y hy)).mono (by decide) (by decide)⟩⟩
theorem main_1_1 : Claimed_1_1 := comes_1 fun _ _ _ _ _ _ h hF => ⟨h.1, hF⟩
theorem main_1_2 : Claimed_1_2 := comes_1 fun _ _ _ _ _ _ h hF => ⟨h.2.1, hF⟩
end Jvm.Pilot.@@N@@
namespace Jvm.Pilot.@@N@@
open Jvm Jvm.ClassFile Sem Op Lib Jvm.Free Jvm.Stand Jvm.Pilot.@@N@@.Jvm.D
/-! MADE BY PROGRAM (witnessworld.py) out of the Statement's table words and the real class files: 12 classes; the members and pool entries that the words name. The judged class is class 1, her method 1. -/
namespace start1
open Jvm.ClassFile
def u (s : String) : CpInfo := .utf8 (stringToUtf16 s)
/-- a pool by its gaps: so many unusable entries, then the entry; so many at the end -/
def gap : Nat → List CpInfo → List CpInfo
  | 0, r => r
  | n + 1, r => .unusable :: gap n r
def poolList (es : List (Nat × CpInfo)) (last : Nat) : List CpInfo := es.foldr (fun e r => gap e.1 (e.2 :: r)) (gap last [])
def pool (es : List (Nat × CpInfo)) (last : Nat) : Array CpInfo := ⟨poolList es last⟩
def fileOf (pool : Array CpInfo) (this : Nat) (attrs : Array Attribute := #[]) (ms : Array MethodInfo := #[]) (fl : Nat := 33) (sup : Nat := 0) (ifs : Array Nat := #[]) (fds : Array FieldInfo := #[]) : ClassFile where
  minorVersion := 0
  majorVersion := 65
  constantPool := pool
  accessFlags := fl
  thisClass := this
  superClass := sup
  interfaces := ifs
  fields := fds
  methods := ms
  attributes := attrs
def plain (name : String) (sup : Option ClassId) : Class where
  name := name
  kind := .ordinary
  loader := none
  accessFlags := 33
  super := sup
  interfaces := #[]
  cf := none
  fields := #[]
  methods := #[]
  instanceTypes := #[]
  staticTypes := #[]
  resolved := #[]
  callSites := []
  init := .initialized
  statics := none
  mirror := none

def pool0 : Array CpInfo := pool [(5, u "<init>"), (0, u "()V"), (1, .class_ 10), (1, u "java/lang/Object")] 113

def k0m0 : Method := { name := "<init>", desc := "()V", sig := { parameters := [], returnType := none }, accessFlags := 1, code := none }
/-- java/lang/Object -/
def k0 : Class := { plain "java/lang/Object" none with
  accessFlags := 33
  interfaces := #[]
  cf := some (fileOf pool0 8 #[] #[{ accessFlags := 1, nameIndex := 5, descriptorIndex := 6, attributes := #[] }] 33 0 #[] #[])
  fields := #[]
  methods := #[k0m0]
  instanceTypes := #[]
  staticTypes := #[]
  resolved := Array.replicate 124 none
  statics := none }

def pool1 : Array CpInfo := pool [(2, .class_ 4), (1, u "java/lang/Object"), (0, u "<init>"), (0, u "()V"), (0, .fieldref 8 9), (0, .class_ 10), (0, .nameAndType 11 12), (0, u "com/example/holdfast/holdfast/Workload$Outcome"), (0, u "COMMITTED"), (0, u "Lcom/example/holdfast/holdfast/Workload$Outcome;"), (0, .fieldref 8 14), (0, .nameAndType 15 12), (0, u "VIOLATED"), (0, .fieldref 8 17), (0, .nameAndType 18 12), (0, u "ABORTED"), (0, .fieldref 8 20), (0, .nameAndType 21 12), (0, u "RESTARTED"), (0, .methodref 8 23), (0, .nameAndType 24 25), (0, u "of"), (0, u "(ZZ)Lcom/example/holdfast/holdfast/Workload$Outcome;"), (0, .methodref 8 27), (0, .nameAndType 28 29), (0, u "committed"), (0, u "()Z"), (0, .class_ 31), (0, u "com/example/holdfast/holdfast/OutcomeCommittedPinLaw"), (2, u "law"), (0, u "(II)Z")] 7

def k1m0 : Method := { name := "<init>", desc := "()V", sig := { parameters := [], returnType := none }, accessFlags := 2, code := none }
def k1c1 : Code := { maxStack := 2, maxLocals := 8, code := code, exceptionTable := #[], attributes := #[] }
def k1m1 : Method := { name := "law", desc := "(II)Z", sig := { parameters := [.int, .int], returnType := some .boolean }, accessFlags := 9, code := some k1c1 }
/-- com/example/holdfast/holdfast/OutcomeCommittedPinLaw -/
def k1 : Class := { plain "com/example/holdfast/holdfast/OutcomeCommittedPinLaw" (some 0) with
  accessFlags := 49
  interfaces := #[]
  cf := some (fileOf pool1 30 #[] #[{ accessFlags := 2, nameIndex := 5, descriptorIndex := 6, attributes := #[] }, { accessFlags := 9, nameIndex := 34, descriptorIndex := 35, attributes := #[] }] 49 2 #[] #[])
  fields := #[]
  methods := #[k1m0, k1m1]
  instanceTypes := #[]
  staticTypes := #[]
  resolved := Array.replicate 43 none
  statics := none }

def pool2 : Array CpInfo := pool [(1, .class_ 2), (0, u "java/lang/constant/Constable"), (0, .class_ 4), (0, u "java/lang/Object")] 6

/-- java/lang/constant/Constable -/
def k2 : Class := { plain "java/lang/constant/Constable" (some 0) with
  accessFlags := 1537
  interfaces := #[]
  cf := some (fileOf pool2 1 #[] #[] 1537 3 #[] #[])
  fields := #[]
  methods := #[]
  instanceTypes := #[]
  staticTypes := #[]
  resolved := Array.replicate 11 none
  statics := none }

def pool3 : Array CpInfo := pool [(1, .class_ 2), (0, u "java/lang/Comparable"), (0, .class_ 4), (0, u "java/lang/Object")] 7

/-- java/lang/Comparable -/
def k3 : Class := { plain "java/lang/Comparable" (some 0) with
  accessFlags := 1537
  interfaces := #[]
  cf := some (fileOf pool3 1 #[] #[] 1537 3 #[] #[])
  fields := #[]
  methods := #[]
  instanceTypes := #[]
  staticTypes := #[]
  resolved := Array.replicate 12 none
  statics := none }

def pool4 : Array CpInfo := pool [(1, .class_ 2), (0, u "java/io/Serializable"), (0, .class_ 4), (0, u "java/lang/Object")] 2

/-- java/io/Serializable -/
def k4 : Class := { plain "java/io/Serializable" (some 0) with
  accessFlags := 1537
  interfaces := #[]
  cf := some (fileOf pool4 1 #[] #[] 1537 3 #[] #[])
  fields := #[]
  methods := #[]
  instanceTypes := #[]
  staticTypes := #[]
  resolved := Array.replicate 7 none
  statics := none }

def pool5 : Array CpInfo := pool [(2, .class_ 4), (1, u "java/lang/Enum"), (0, u "name"), (0, u "Ljava/lang/String;"), (2, u "ordinal"), (0, u "I"), (1, .class_ 14), (1, u "java/lang/Object"), (4, u "hash"), (86, .class_ 108), (1, u "java/lang/Enum$EnumDesc"), (2, .class_ 112), (0, u "java/lang/constant/Constable"), (0, .class_ 114), (0, u "java/lang/Comparable"), (0, .class_ 116), (0, u "java/io/Serializable")] 87

/-- java/lang/Enum -/
def k5 : Class := { plain "java/lang/Enum" (some 0) with
  accessFlags := 1057
  interfaces := #[2, 3, 4]
  cf := some (fileOf pool5 2 #[.nestMembers #[106]] #[] 1057 12 #[111, 113, 115] #[{ accessFlags := 18, nameIndex := 5, descriptorIndex := 6, attributes := #[] }, { accessFlags := 18, nameIndex := 9, descriptorIndex := 10, attributes := #[] }, { accessFlags := 2, nameIndex := 19, descriptorIndex := 10, attributes := #[] }])
  fields := #[{ name := "name", type := (.object "java/lang/String"), accessFlags := 18, slot := 0, constantValue := 0 }, { name := "ordinal", type := .int, accessFlags := 18, slot := 1, constantValue := 0 }, { name := "hash", type := .int, accessFlags := 2, slot := 2, constantValue := 0 }]
  methods := #[]
  instanceTypes := #[(.object "java/lang/String"), .int, .int]
  staticTypes := #[]
  resolved := Array.replicate 204 none
  statics := none }

def pool6 : Array CpInfo := pool [(1, .class_ 2), (0, u "com/example/holdfast/holdfast/Workload$Outcome"), (0, .fieldref 1 4), (0, .nameAndType 5 6), (0, u "COMMITTED"), (0, u "Lcom/example/holdfast/holdfast/Workload$Outcome;"), (0, .fieldref 1 8), (0, .nameAndType 9 6), (0, u "VIOLATED"), (0, .fieldref 1 11), (0, .nameAndType 12 6), (0, u "ABORTED"), (2, u "RESTARTED"), (2, u "$VALUES"), (0, u "[Lcom/example/holdfast/holdfast/Workload$Outcome;"), (6, .class_ 28), (1, u "java/lang/Enum"), (22, u "committed"), (0, u "()Z"), (1, u "of"), (0, u "(ZZ)Lcom/example/holdfast/holdfast/Workload$Outcome;"), (5, .class_ 62), (0, u "com/example/holdfast/holdfast/Workload")] 2

def k6c0 : Code := { maxStack := 2, maxLocals := 1, code := prog_60_method_4_code, exceptionTable := #[], attributes := #[] }
def k6m0 : Method := { name := "committed", desc := "()Z", sig := { parameters := [], returnType := some .boolean }, accessFlags := 0, code := some k6c0 }
def k6c1 : Code := { maxStack := 1, maxLocals := 2, code := prog_60_method_5_code, exceptionTable := #[], attributes := #[] }
def k6m1 : Method := { name := "of", desc := "(ZZ)Lcom/example/holdfast/holdfast/Workload$Outcome;", sig := { parameters := [.boolean, .boolean], returnType := some (.object "com/example/holdfast/holdfast/Workload$Outcome") }, accessFlags := 8, code := some k6c1 }
/-- com/example/holdfast/holdfast/Workload$Outcome -/
def k6 : Class := { plain "com/example/holdfast/holdfast/Workload$Outcome" (some 5) with
  accessFlags := 16433
  interfaces := #[]
  cf := some (fileOf pool6 1 #[.nestHost 61] #[{ accessFlags := 0, nameIndex := 51, descriptorIndex := 52, attributes := #[] }, { accessFlags := 8, nameIndex := 54, descriptorIndex := 55, attributes := #[] }] 16433 26 #[] #[{ accessFlags := 16409, nameIndex := 5, descriptorIndex := 6, attributes := #[] }, { accessFlags := 16409, nameIndex := 9, descriptorIndex := 6, attributes := #[] }, { accessFlags := 16409, nameIndex := 12, descriptorIndex := 6, attributes := #[] }, { accessFlags := 16409, nameIndex := 15, descriptorIndex := 6, attributes := #[] }, { accessFlags := 4122, nameIndex := 18, descriptorIndex := 19, attributes := #[] }])
  fields := #[{ name := "COMMITTED", type := (.object "com/example/holdfast/holdfast/Workload$Outcome"), accessFlags := 16409, slot := 0, constantValue := 0 }, { name := "VIOLATED", type := (.object "com/example/holdfast/holdfast/Workload$Outcome"), accessFlags := 16409, slot := 1, constantValue := 0 }, { name := "ABORTED", type := (.object "com/example/holdfast/holdfast/Workload$Outcome"), accessFlags := 16409, slot := 2, constantValue := 0 }, { name := "RESTARTED", type := (.object "com/example/holdfast/holdfast/Workload$Outcome"), accessFlags := 16409, slot := 3, constantValue := 0 }, { name := "$VALUES", type := (.array (.object "com/example/holdfast/holdfast/Workload$Outcome")), accessFlags := 4122, slot := 4, constantValue := 0 }]
  methods := #[k6m0, k6m1]
  instanceTypes := #[(.object "java/lang/String"), .int, .int]
  staticTypes := #[(.object "com/example/holdfast/holdfast/Workload$Outcome"), (.object "com/example/holdfast/holdfast/Workload$Outcome"), (.object "com/example/holdfast/holdfast/Workload$Outcome"), (.object "com/example/holdfast/holdfast/Workload$Outcome"), (.array (.object "com/example/holdfast/holdfast/Workload$Outcome"))]
  resolved := Array.replicate 65 none
  statics := some 0 }

def pool7 : Array CpInfo := pool [(1, u "java/lang/Cloneable"), (0, .class_ 1), (0, u "java/lang/Object"), (0, .class_ 3)] 3

/-- java/lang/Cloneable -/
def k7 : Class := { plain "java/lang/Cloneable" (some 0) with
  accessFlags := 1537
  interfaces := #[]
  cf := some (fileOf pool7 2 #[] #[] 1537 4 #[] #[])
  fields := #[]
  methods := #[]
  instanceTypes := #[]
  staticTypes := #[]
  resolved := Array.replicate 8 none
  statics := none }

/-- the primitive byte -/
def k8 : Class := { plain "byte" none with kind := .primitive 'B', accessFlags := 0x411 }
/-- [B -/
def k9 : Class := { plain "[B" (some 0) with kind := .array 8 .byte, interfaces := #[7, 4], accessFlags := 1041 }

/-- the primitive int -/
def k10 : Class := { plain "int" none with kind := .primitive 'I', accessFlags := 0x411 }
/-- [I -/
def k11 : Class := { plain "[I" (some 0) with kind := .array 10 .int, interfaces := #[7, 4], accessFlags := 1041 }

def heap : Heap := #[{ cls := 6, slots := #[.ref 1, .ref 2, .ref 3, .ref 4, .null], vm := .statics 6 },
  { cls := 6, slots := #[.null, .int 0, .int 0], vm := .none },
  { cls := 6, slots := #[.null, .int 1, .int 0], vm := .none },
  { cls := 6, slots := #[.null, .int 2, .int 0], vm := .none },
  { cls := 6, slots := #[.null, .int 3, .int 0], vm := .none }]
def classes : Array Class := #[k0, k1, k2, k3, k4, k5, k6, k7, k8, k9, k10, k11]
def interned : List (Array UInt16 × Addr) := []
def slotsUsed : Nat := 17
def theMethod : MethodId := ⟨1, 1⟩
def args0 : Array Value := #[.int 2, .int 3]
def aboutOver (below : List Frame) : State where
  vm := { classes := classes, interned := interned.toArray }
  heap := heap
  slotsUsed := slotsUsed
  threads := #[{ frames := .invoking theMethod args0 :: below }]
def below0 : List Frame := [.native { method := ⟨0, 0⟩, args := #[] }]
def about1 : State := aboutOver below0
def p0 : Program := .bare "" "" ""
def e0 : Env := launch0.env 0 0 0
theorem w_frames : about1.frames = Frame.invoking theMethod args0 :: below0 := rfl
set_option maxRecDepth 65536 in
theorem w_args : argsFit about1.vm theMethod args0 = true := by decide +kernel
set_option maxRecDepth 65536 in
theorem w_heap : heapFits about1 = true := by decide +kernel
set_option maxRecDepth 65536 in
theorem w_runnable : about1.curStatus? = some .runnable := by decide +kernel
set_option maxRecDepth 65536 in
theorem w_alone : about1.alone = true := by decide +kernel
set_option maxRecDepth 65536 in
theorem w_named : about1.methodNamed? x = some theMethod := by decide +kernel
set_option maxRecDepth 65536 in
theorem w_hears : about1.hears theMethod below0 = true := by decide +kernel
set_option maxRecDepth 65536 in
theorem w_ripe : about1.ripe theMethod args0 below0 = true := by decide +kernel
theorem w_running : about1.status = .running := rfl
set_option maxRecDepth 65536 in
theorem w_room : about1.hasRoom e0.platform room_1 = true :=
  launch0.hasRoom_least _ room_1 (by decide +kernel) (by decide +kernel) (by decide +kernel) (by decide +kernel) (by decide +kernel) (by decide +kernel)
theorem allAtoms_all (ts : List Jvm.Cond) (a : Array Jvm.Value) (st : Jvm.State) : (allAtoms ts).before a st = ts.all (fun c => c.before a st) := by
  induction ts with
  | nil => rfl
  | cons c t ih =>
    show (Jvm.Cond.and c (allAtoms t)).before a st = _
    rw [Jvm.Cond.before_and, ih, List.all_cons]
def words1 : List Jvm.Cond := Jvm.Cond.code x code maxLocals ret :: tables_1
/-- a 'code' word, met by the world's own term for the bytes: nothing is compared byte by byte -/
theorem code_word {y : MethodName} {bytes : ByteArray} {mx : Nat} {rt : Option FieldType} {a : Array Value} {s : State} {m : MethodId} {meth : Method} {c : Code} (h1 : s.methodNamed? y = some m) (h2 : s.vm.method? m = some meth) (h3 : meth.code = some c) (h4 : c.code = bytes)
    (h5 : (c.maxLocals == mx && c.exceptionTable.isEmpty && decide (c.maxStack ≤ mostOperands) && decide (meth.sig.returnType = rt) && !meth.locks && decide (parseMethodDescriptor y.desc = some meth.sig)) = true) : (Jvm.Cond.code y bytes mx rt).before a s = true := by
  simp only [Bool.and_eq_true, beq_iff_eq, Bool.not_eq_true', decide_eq_true_eq] at h5
  obtain ⟨⟨⟨⟨⟨g1, g2⟩, g3⟩, g4⟩, g5⟩, g6⟩ := h5
  simp [Cond.before, Cond.holds, Cond.value, h1, h2, h3, h4, g1, g2, g3, g4, g5, g6]
def isCode : Jvm.Cond → Bool
  | .code _ _ _ _ => true
  | _ => false
theorem all_split {L : List Jvm.Cond} {P : Jvm.Cond → Bool} (h1 : L.all (fun c => isCode c || P c) = true) (h2 : ∀ c ∈ L.filter isCode, P c = true) : L.all P = true := by
  refine List.all_eq_true.mpr fun c hc => ?_
  have h := List.all_eq_true.mp h1 c hc
  rcases Bool.eq_false_or_eq_true (isCode c) with hi | hi
  · exact h2 c (List.mem_filter.mpr ⟨hc, hi⟩)
  · simpa [hi] using h
set_option maxRecDepth 65536 in
theorem w_c0 : (Jvm.Cond.code x code maxLocals ret).before args0 about1 = true := code_word (m := ⟨1, 1⟩) (meth := k1m1) (c := k1c1) (by decide +kernel) rfl rfl rfl (by decide +kernel)
set_option maxRecDepth 65536 in
theorem w_c1 : (Jvm.Cond.code ({ cls := "com/example/holdfast/holdfast/Workload$Outcome", name := "of", desc := "(ZZ)Lcom/example/holdfast/holdfast/Workload$Outcome;" } : Jvm.MethodName) prog_60_method_5_code (2 : Nat) (Option.some (Jvm.ClassFile.FieldType.object "com/example/holdfast/holdfast/Workload$Outcome"))).before args0 about1 = true := code_word (m := ⟨6, 1⟩) (meth := k6m1) (c := k6c1) (by decide +kernel) rfl rfl rfl (by decide +kernel)
set_option maxRecDepth 65536 in
theorem w_c2 : (Jvm.Cond.code ({ cls := "com/example/holdfast/holdfast/Workload$Outcome", name := "committed", desc := "()Z" } : Jvm.MethodName) prog_60_method_4_code (1 : Nat) (Option.some Jvm.ClassFile.FieldType.boolean)).before args0 about1 = true := code_word (m := ⟨6, 0⟩) (meth := k6m0) (c := k6c0) (by decide +kernel) rfl rfl rfl (by decide +kernel)
def codes1 : List Jvm.Cond := [Jvm.Cond.code x code maxLocals ret, Jvm.Cond.code ({ cls := "com/example/holdfast/holdfast/Workload$Outcome", name := "of", desc := "(ZZ)Lcom/example/holdfast/holdfast/Workload$Outcome;" } : Jvm.MethodName) prog_60_method_5_code (2 : Nat) (Option.some (Jvm.ClassFile.FieldType.object "com/example/holdfast/holdfast/Workload$Outcome")), Jvm.Cond.code ({ cls := "com/example/holdfast/holdfast/Workload$Outcome", name := "committed", desc := "()Z" } : Jvm.MethodName) prog_60_method_4_code (1 : Nat) (Option.some Jvm.ClassFile.FieldType.boolean)]
set_option maxRecDepth 65536 in
theorem codes_eq : words1.filter isCode = codes1 := rfl
theorem w_codes : ∀ c ∈ words1.filter isCode, c.before args0 about1 = true := by
  rw [codes_eq]
  intro c hc
  simp only [codes1, List.mem_cons, List.not_mem_nil, or_false] at hc
  rcases hc with rfl | rfl | rfl
  · exact w_c0
  · exact w_c1
  · exact w_c2
set_option maxRecDepth 65536 in
theorem w_t1 : words1.all (fun c => isCode c || c.before args0 about1) = true := by decide +kernel
theorem w_tables : (allAtoms (Jvm.Cond.code x code maxLocals ret :: tables_1)).before args0 about1 = true := by
  rw [allAtoms_all]
  show words1.all (fun c => c.before args0 about1) = true
  refine all_split ?_ w_codes
  rw [w_t1]
set_option maxRecDepth 65536 in
theorem w_case : (Jvm.Cond.and given_1 narrow_1).before args0 about1 = true := by decide +kernel
theorem w_applies : (headSpec (Jvm.Cond.code x code maxLocals ret :: tables_1) room_1).applies x e0.platform about1 = true :=
  (Spec.applies_iff w_frames).mpr ⟨w_running, w_runnable, w_alone, w_named, w_hears, w_ripe, w_room, w_tables⟩
theorem atStart : AtStart classFile x code maxLocals ret World_1 tables_1 room_1 Calls_1 rest_1 Pre_1 launch0 p0 e0 about1 theMethod args0 below0 :=
  ⟨lists_1, trivial, launch0.admits_env _ _ _, launch0.least_env, fairChoices_fair.cas, fairChoices_fair.clock, w_frames, w_args, w_heap, w_applies, trivial, trivial, w_case⟩
end start1
theorem witness_1 : WitnessClaimed_1 := ⟨start1.p0, start1.e0, start1.about1, start1.theMethod, start1.args0, start1.below0, start1.atStart⟩
end Jvm.Pilot.@@N@@
