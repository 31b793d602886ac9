import JvmDerived
import JvmDerived.Pilot.@@N@@Statement
import JvmDerived.Pilot.@@N@@Code
set_option linter.unusedVariables false
set_option linter.unusedSimpArgs false
namespace Jvm.WpK
open Sem ClassFile Op Lib Jvm.Stand Jvm.Free Jvm.LawKit Jvm.RoadKit
/-- the run's own unknowns: program, environment, the invocation's state, method, arguments, frames below, the method's record, its code -/
abbrev Cx : Type := Program × Env × State × MethodId × Array Value × List Frame × Method × Code
/-- a decoded instruction and the pc behind it -/
def Fet (code : ByteArray) (pc pc' : Nat) (i : Instr) (len : Nat) : Prop := decode code pc = .ok (i, len) ∧ pc + len = pc'
/-- a decoded branch: the pc behind it and its target -/
def Brn (code : ByteArray) (pc pcN pcT : Nat) (i : Instr) (o : Int) : Prop := decode code pc = .ok (i, 3) ∧ pc + 3 = pcN ∧ 0 ≤ (pc : Int) + o ∧ ((pc : Int) + o).toNat = pcT
/-- what is known of the body that is walked -/
def Ok (Z : State) (K : Cx) (code : ByteArray) (own nm : String) (maxL : Nat) (ret : Option FieldType) : Prop :=
  match K with
  | (p, _, s, m, _, _, meth, c) => p.tables.exec = Jvm.exec ∧ c.code = code ∧ Z.Warmed39 s.vm ∧ s.vm.findClass own = some m.cls ∧ meth.name = nm ∧ c.maxLocals = maxL ∧ meth.sig.returnType = ret ∧ meth.locks = false
/-- from this point (heap h, k cells and n slots made so far) the body ends in Q, having written nothing below n0 -/
def Wp (l : Launch) (R : Room) (n0 : Nat) (K : Cx) (Q : Option Value → Heap → Prop) (h : Heap) (k n : Nat) (pc : Nat) (Ls : Array Slot) (st : List Value) : Prop :=
  match K with
  | (p, e, s, m, args, below, meth, c) => ∀ (T : State) (locs : List Loc), Stand p l e R s m args below meth c T locs k n → T.heap = h → Fr n0 locs →
      ∃ s₂ o, Steps p.tables e below (T.setTop (mkF m pc Ls st)) s₂ ∧ s₂.status = .running ∧ Ended s₂ below o ∧ ∃ v L, o = .returned v ∧ (Q v s₂.heap ∧ Fr n0 L) ∧ FrameEnd s o s₂ L R.cells R.slots
/-- a body's contract at one call -/
def Con (l : Launch) (Z : State) (n0 : Nat) (y : MethodName) (bytes : ByteArray) (maxL : Nat) (ret : Option FieldType) (ws : List Cond) (rm : Room) (as : Array Value) (h : Heap) (Q : Option Value → Heap → Prop) : Prop :=
  MetFree l y (head1 (Cond.code y bytes maxL ret :: ws) rm) (fun a U => a = as ∧ Z.Warmed39 U.vm ∧ U.heap = h) (fun _ _ _ _ _ => True) (fun _ U o U' => ∃ v L, o = .returned v ∧ (Q v U'.heap ∧ Fr n0 L) ∧ FrameEnd U o U' L rm.cells rm.slots)
abbrev ConV (l : Launch) (Z : State) (n0 : Nat) (y : MethodName) (bytes : ByteArray) (maxL : Nat) (ret : Option FieldType) (ws : List Cond) (rm : Room) (as : Array Value) (h : Heap) (Q : Value → Heap → Prop) : Prop :=
  Con l Z n0 y bytes maxL ret ws rm as h (fun v h' => ∃ w, v = some w ∧ Q w h')
abbrev ConN (l : Launch) (Z : State) (n0 : Nat) (y : MethodName) (bytes : ByteArray) (maxL : Nat) (ret : Option FieldType) (ws : List Cond) (rm : Room) (as : Array Value) (h : Heap) (Q : Heap → Prop) : Prop :=
  Con l Z n0 y bytes maxL ret ws rm as h (fun v h' => v = none ∧ Q h')
theorem con_of_wp {l : Launch} {Z : State} {n0 : Nat} {y : MethodName} {bytes : ByteArray} {maxL : Nat} {ret : Option FieldType} {ws : List Cond} {rm : Room} {as : Array Value} {h : Heap} {Q : Option Value → Heap → Prop} {Ls : Array Slot}
    (hpl : plainFor y = true) (hef : ∀ m, entryFrame m as maxL = mkF m 0 Ls []) (H : ∀ K, Ok Z K bytes y.cls y.name maxL ret → Wp l rm n0 K Q h 0 0 0 Ls []) : Con l Z n0 y bytes maxL ret ws rm as h Q := by
  refine MetFree.of_bodySF hpl hisR ?_
  intro p e s m args below meth c s₁ Bd hml0 hP hK
  obtain ⟨rfl, hZ, hh⟩ := hP
  have X0 : Stand p l e rm s m args below meth c s₁ [] 0 0 := Stand.of_body Bd
  have e0 : s₁.heap = h := by rw [← hh, Bd.state]; rfl
  obtain ⟨s₂, o, h1, h2, h3, h4⟩ := H (p, e, s, m, args, below, meth, c) ⟨Bd.exec, Bd.bytes, hZ, findClass_of_methodNamed Bd.named, (name_of_methodNamed Bd.named Bd.method).1, hml0, Bd.returns, Bd.notSynchronized⟩ s₁ [] X0 e0 (Fr.nil n0)
  exact ⟨s₂, o, castTop (hef m) h1, h2, h3, h4⟩
section Rules
variable {l : Launch} {R : Room} {n0 : Nat} {K : Cx} {Q : Option Value → Heap → Prop} {h : Heap} {k n k' n' : Nat} {pc pc' : Nat} {Ls Ls' : Array Slot} {st rest : List Value} {Z : State} {code : ByteArray} {own nm : String} {maxL : Nat} {ret : Option FieldType} {a0 : Array Value}
theorem w_cast {pc1 : Nat} {L1 : Array Slot} {s1 : List Value} (hr : Wp l R n0 K Q h k n pc1 L1 s1) (q1 : pc1 = pc) (q2 : L1 = Ls) (q3 : s1 = st) : Wp l R n0 K Q h k n pc Ls st := by
  subst q1 q2 q3; exact hr
theorem w_mono {Q' : Option Value → Heap → Prop} (hr : Wp l R n0 K Q' h k n pc Ls st) (hq : ∀ v h', Q' v h' → Q v h') : Wp l R n0 K Q h k n pc Ls st := by
  obtain ⟨p, e, s, m, args, below, meth, c⟩ := K
  intro T locs X hT hF
  obtain ⟨s₂, o, h1, h2, h3, v, L, h4, ⟨h5, h6⟩, h7⟩ := hr T locs X hT hF
  exact ⟨s₂, o, h1, h2, h3, v, L, h4, ⟨hq _ _ h5, h6⟩, h7⟩
theorem w_int {a b : Int32} (e : a = b) (hr : Wp l R n0 K Q h k n pc Ls (.int b :: st)) : Wp l R n0 K Q h k n pc Ls (.int a :: st) := e ▸ hr
theorem w_long {a b : Int64} (e : a = b) (hr : Wp l R n0 K Q h k n pc Ls (.long b :: st)) : Wp l R n0 K Q h k n pc Ls (.long a :: st) := e ▸ hr
/-- more cells or slots may be booked -/
theorem w_more {k1 n1 : Nat} (hr : Wp l R n0 K Q h k1 n1 pc Ls st) (hk : k ≤ k1) (hn : n ≤ n1) : Wp l R n0 K Q h k n pc Ls st := by
  obtain ⟨p, e, s, m, args, below, meth, c⟩ := K
  intro T locs X hT hF
  exact hr T locs (X.more hk hn) hT hF

theorem w_iloadN (ok : Ok Z K code own nm maxL ret) {j : Fin 4} {x : Int32} (hd : Fet code pc pc' (.iload_n j) 1) (hl : Ls[j.val]? = some (.val (.int x))) (hr : Wp l R n0 K Q h k n pc' Ls (.int x :: st)) : Wp l R n0 K Q h k n pc Ls st := by
  obtain ⟨p, e, s, m, args, below, meth, c⟩ := K
  obtain ⟨hx, hby, hZ, hown, hnm, hml, hret, hlk⟩ := ok
  obtain ⟨hd, rfl⟩ := hd
  intro T locs X hT hF
  obtain ⟨s₂, o, h1, h2⟩ := hr T locs X hT hF
  exact ⟨s₂, o, XS.iloadN X.here hx rfl (hb hby hd) hl h1, h2⟩
theorem w_iload (ok : Ok Z K code own nm maxL ret) {j : Nat} {x : Int32} (hd : Fet code pc pc' (.iload j) 2) (hl : Ls[j]? = some (.val (.int x))) (hr : Wp l R n0 K Q h k n pc' Ls (.int x :: st)) : Wp l R n0 K Q h k n pc Ls st := by
  obtain ⟨p, e, s, m, args, below, meth, c⟩ := K
  obtain ⟨hx, hby, hZ, hown, hnm, hml, hret, hlk⟩ := ok
  obtain ⟨hd, rfl⟩ := hd
  intro T locs X hT hF
  obtain ⟨s₂, o, h1, h2⟩ := hr T locs X hT hF
  exact ⟨s₂, o, XS.iload X.here hx rfl (hb hby hd) hl h1, h2⟩
theorem w_lloadN (ok : Ok Z K code own nm maxL ret) {j : Fin 4} {x : Int64} (hd : Fet code pc pc' (.lload_n j) 1) (hl : Ls[j.val]? = some (.val (.long x))) (hr : Wp l R n0 K Q h k n pc' Ls (.long x :: st)) : Wp l R n0 K Q h k n pc Ls st := by
  obtain ⟨p, e, s, m, args, below, meth, c⟩ := K
  obtain ⟨hx, hby, hZ, hown, hnm, hml, hret, hlk⟩ := ok
  obtain ⟨hd, rfl⟩ := hd
  intro T locs X hT hF
  obtain ⟨s₂, o, h1, h2⟩ := hr T locs X hT hF
  exact ⟨s₂, o, XS.lloadN X.here hx rfl (hb hby hd) hl h1, h2⟩
theorem w_lload (ok : Ok Z K code own nm maxL ret) {j : Nat} {x : Int64} (hd : Fet code pc pc' (.lload j) 2) (hl : Ls[j]? = some (.val (.long x))) (hr : Wp l R n0 K Q h k n pc' Ls (.long x :: st)) : Wp l R n0 K Q h k n pc Ls st := by
  obtain ⟨p, e, s, m, args, below, meth, c⟩ := K
  obtain ⟨hx, hby, hZ, hown, hnm, hml, hret, hlk⟩ := ok
  obtain ⟨hd, rfl⟩ := hd
  intro T locs X hT hF
  obtain ⟨s₂, o, h1, h2⟩ := hr T locs X hT hF
  exact ⟨s₂, o, XS.lload X.here hx rfl (hb hby hd) hl h1, h2⟩
theorem w_aloadN (ok : Ok Z K code own nm maxL ret) {j : Fin 4} {x : Value} (hd : Fet code pc pc' (.aload_n j) 1) (hl : Ls[j.val]? = some (.val x)) (hv : x.isRef = true) (hr : Wp l R n0 K Q h k n pc' Ls (x :: st)) : Wp l R n0 K Q h k n pc Ls st := by
  obtain ⟨p, e, s, m, args, below, meth, c⟩ := K
  obtain ⟨hx, hby, hZ, hown, hnm, hml, hret, hlk⟩ := ok
  obtain ⟨hd, rfl⟩ := hd
  intro T locs X hT hF
  obtain ⟨s₂, o, h1, h2⟩ := hr T locs X hT hF
  exact ⟨s₂, o, XS.aloadN X.here hx rfl (hb hby hd) hl hv h1, h2⟩
theorem w_aload (ok : Ok Z K code own nm maxL ret) {j : Nat} {x : Value} (hd : Fet code pc pc' (.aload j) 2) (hl : Ls[j]? = some (.val x)) (hv : x.isRef = true) (hr : Wp l R n0 K Q h k n pc' Ls (x :: st)) : Wp l R n0 K Q h k n pc Ls st := by
  obtain ⟨p, e, s, m, args, below, meth, c⟩ := K
  obtain ⟨hx, hby, hZ, hown, hnm, hml, hret, hlk⟩ := ok
  obtain ⟨hd, rfl⟩ := hd
  intro T locs X hT hF
  obtain ⟨s₂, o, h1, h2⟩ := hr T locs X hT hF
  exact ⟨s₂, o, XS.aload X.here hx rfl (hb hby hd) hl hv h1, h2⟩
theorem w_istoreN (ok : Ok Z K code own nm maxL ret) {j : Fin 4} {x : Int32} (hd : Fet code pc pc' (.istore_n j) 1) (hl : storeLocals Ls j.val (.int x) = some Ls') (hr : Wp l R n0 K Q h k n pc' Ls' st) : Wp l R n0 K Q h k n pc Ls (.int x :: st) := by
  obtain ⟨p, e, s, m, args, below, meth, c⟩ := K
  obtain ⟨hx, hby, hZ, hown, hnm, hml, hret, hlk⟩ := ok
  obtain ⟨hd, rfl⟩ := hd
  intro T locs X hT hF
  obtain ⟨s₂, o, h1, h2⟩ := hr T locs X hT hF
  exact ⟨s₂, o, XS.istoreN X.here hx rfl (hb hby hd) rfl hl h1, h2⟩
theorem w_istore (ok : Ok Z K code own nm maxL ret) {j : Nat} {x : Int32} (hd : Fet code pc pc' (.istore j) 2) (hl : storeLocals Ls j (.int x) = some Ls') (hr : Wp l R n0 K Q h k n pc' Ls' st) : Wp l R n0 K Q h k n pc Ls (.int x :: st) := by
  obtain ⟨p, e, s, m, args, below, meth, c⟩ := K
  obtain ⟨hx, hby, hZ, hown, hnm, hml, hret, hlk⟩ := ok
  obtain ⟨hd, rfl⟩ := hd
  intro T locs X hT hF
  obtain ⟨s₂, o, h1, h2⟩ := hr T locs X hT hF
  exact ⟨s₂, o, XS.istore X.here hx rfl (hb hby hd) rfl hl h1, h2⟩
theorem w_lstoreN (ok : Ok Z K code own nm maxL ret) {j : Fin 4} {x : Int64} (hd : Fet code pc pc' (.lstore_n j) 1) (hl : storeLocals Ls j.val (.long x) = some Ls') (hr : Wp l R n0 K Q h k n pc' Ls' st) : Wp l R n0 K Q h k n pc Ls (.long x :: st) := by
  obtain ⟨p, e, s, m, args, below, meth, c⟩ := K
  obtain ⟨hx, hby, hZ, hown, hnm, hml, hret, hlk⟩ := ok
  obtain ⟨hd, rfl⟩ := hd
  intro T locs X hT hF
  obtain ⟨s₂, o, h1, h2⟩ := hr T locs X hT hF
  exact ⟨s₂, o, XS.lstoreN X.here hx rfl (hb hby hd) rfl hl h1, h2⟩
theorem w_lstore (ok : Ok Z K code own nm maxL ret) {j : Nat} {x : Int64} (hd : Fet code pc pc' (.lstore j) 2) (hl : storeLocals Ls j (.long x) = some Ls') (hr : Wp l R n0 K Q h k n pc' Ls' st) : Wp l R n0 K Q h k n pc Ls (.long x :: st) := by
  obtain ⟨p, e, s, m, args, below, meth, c⟩ := K
  obtain ⟨hx, hby, hZ, hown, hnm, hml, hret, hlk⟩ := ok
  obtain ⟨hd, rfl⟩ := hd
  intro T locs X hT hF
  obtain ⟨s₂, o, h1, h2⟩ := hr T locs X hT hF
  exact ⟨s₂, o, XS.lstore X.here hx rfl (hb hby hd) rfl hl h1, h2⟩
theorem w_astoreN (ok : Ok Z K code own nm maxL ret) {j : Fin 4} {x : Value} (hd : Fet code pc pc' (.astore_n j) 1) (hl : storeLocals Ls j.val x = some Ls') (hv : x.isRef = true) (hr : Wp l R n0 K Q h k n pc' Ls' st) : Wp l R n0 K Q h k n pc Ls (x :: st) := by
  obtain ⟨p, e, s, m, args, below, meth, c⟩ := K
  obtain ⟨hx, hby, hZ, hown, hnm, hml, hret, hlk⟩ := ok
  obtain ⟨hd, rfl⟩ := hd
  intro T locs X hT hF
  obtain ⟨s₂, o, h1, h2⟩ := hr T locs X hT hF
  exact ⟨s₂, o, XS.astoreN X.here hx rfl (hb hby hd) rfl hv hl h1, h2⟩
theorem w_astore (ok : Ok Z K code own nm maxL ret) {j : Nat} {x : Value} (hd : Fet code pc pc' (.astore j) 2) (hl : storeLocals Ls j x = some Ls') (hv : x.isRef = true) (hr : Wp l R n0 K Q h k n pc' Ls' st) : Wp l R n0 K Q h k n pc Ls (x :: st) := by
  obtain ⟨p, e, s, m, args, below, meth, c⟩ := K
  obtain ⟨hx, hby, hZ, hown, hnm, hml, hret, hlk⟩ := ok
  obtain ⟨hd, rfl⟩ := hd
  intro T locs X hT hF
  obtain ⟨s₂, o, h1, h2⟩ := hr T locs X hT hF
  exact ⟨s₂, o, XS.astore X.here hx rfl (hb hby hd) rfl hv hl h1, h2⟩
theorem w_iinc (ok : Ok Z K code own nm maxL ret) {j : Nat} {cst : Int} {x : Int32} (hd : Fet code pc pc' (.iinc j cst) 3) (hl : Ls[j]? = some (.val (.int x))) (hl' : storeLocals Ls j (.int (x + Int32.ofInt cst)) = some Ls') (hr : Wp l R n0 K Q h k n pc' Ls' st) : Wp l R n0 K Q h k n pc Ls st := by
  obtain ⟨p, e, s, m, args, below, meth, c⟩ := K
  obtain ⟨hx, hby, hZ, hown, hnm, hml, hret, hlk⟩ := ok
  obtain ⟨hd, rfl⟩ := hd
  intro T locs X hT hF
  obtain ⟨s₂, o, h1, h2⟩ := hr T locs X hT hF
  exact ⟨s₂, o, XS.iinc X.here hx rfl (hb hby hd) hl hl' h1, h2⟩
theorem w_iconst (ok : Ok Z K code own nm maxL ret) {i : Int} {z : Int32} (hd : Fet code pc pc' (.iconst i) 1) (hz : Int32.ofInt i = z) (hr : Wp l R n0 K Q h k n pc' Ls (.int z :: st)) : Wp l R n0 K Q h k n pc Ls st := by
  obtain ⟨p, e, s, m, args, below, meth, c⟩ := K
  obtain ⟨hx, hby, hZ, hown, hnm, hml, hret, hlk⟩ := ok
  obtain ⟨hd, rfl⟩ := hd
  intro T locs X hT hF
  subst hz
  obtain ⟨s₂, o, h1, h2⟩ := hr T locs X hT hF
  exact ⟨s₂, o, XS.iconst X.here hx rfl (hb hby hd) h1, h2⟩
theorem w_bipush (ok : Ok Z K code own nm maxL ret) {i : Int} {z : Int32} (hd : Fet code pc pc' (.bipush i) 2) (hz : (Int8.ofInt i).toInt32 = z) (hr : Wp l R n0 K Q h k n pc' Ls (.int z :: st)) : Wp l R n0 K Q h k n pc Ls st := by
  obtain ⟨p, e, s, m, args, below, meth, c⟩ := K
  obtain ⟨hx, hby, hZ, hown, hnm, hml, hret, hlk⟩ := ok
  obtain ⟨hd, rfl⟩ := hd
  intro T locs X hT hF
  subst hz
  obtain ⟨s₂, o, h1, h2⟩ := hr T locs X hT hF
  exact ⟨s₂, o, XS.bipush X.here hx rfl (hb hby hd) h1, h2⟩
theorem w_sipush (ok : Ok Z K code own nm maxL ret) {i : Int} {z : Int32} (hd : Fet code pc pc' (.sipush i) 3) (hz : (Int16.ofInt i).toInt32 = z) (hr : Wp l R n0 K Q h k n pc' Ls (.int z :: st)) : Wp l R n0 K Q h k n pc Ls st := by
  obtain ⟨p, e, s, m, args, below, meth, c⟩ := K
  obtain ⟨hx, hby, hZ, hown, hnm, hml, hret, hlk⟩ := ok
  obtain ⟨hd, rfl⟩ := hd
  intro T locs X hT hF
  subst hz
  obtain ⟨s₂, o, h1, h2⟩ := hr T locs X hT hF
  exact ⟨s₂, o, XS.sipush X.here hx rfl (hb hby hd) h1, h2⟩
theorem w_lconst (ok : Ok Z K code own nm maxL ret) {i : Fin 2} {z : Int64} (hd : Fet code pc pc' (.lconst i) 1) (hz : Int64.ofNat i = z) (hr : Wp l R n0 K Q h k n pc' Ls (.long z :: st)) : Wp l R n0 K Q h k n pc Ls st := by
  obtain ⟨p, e, s, m, args, below, meth, c⟩ := K
  obtain ⟨hx, hby, hZ, hown, hnm, hml, hret, hlk⟩ := ok
  obtain ⟨hd, rfl⟩ := hd
  intro T locs X hT hF
  subst hz
  obtain ⟨s₂, o, h1, h2⟩ := hr T locs X hT hF
  exact ⟨s₂, o, XS.lconst X.here hx rfl (hb hby hd) h1, h2⟩
theorem w_aconstNull (ok : Ok Z K code own nm maxL ret)  (hd : Fet code pc pc' (.aconst_null) 1)  (hr : Wp l R n0 K Q h k n pc' Ls (.null :: st)) : Wp l R n0 K Q h k n pc Ls st := by
  obtain ⟨p, e, s, m, args, below, meth, c⟩ := K
  obtain ⟨hx, hby, hZ, hown, hnm, hml, hret, hlk⟩ := ok
  obtain ⟨hd, rfl⟩ := hd
  intro T locs X hT hF
  obtain ⟨s₂, o, h1, h2⟩ := hr T locs X hT hF
  exact ⟨s₂, o, XS.aconstNull X.here hx rfl (hb hby hd)  h1, h2⟩
theorem w_iadd (ok : Ok Z K code own nm maxL ret) {x y : Int32} (hd : Fet code pc pc' (.iadd) 1)  (hr : Wp l R n0 K Q h k n pc' Ls (.int (x + y) :: st)) : Wp l R n0 K Q h k n pc Ls (.int y :: .int x :: st) := by
  obtain ⟨p, e, s, m, args, below, meth, c⟩ := K
  obtain ⟨hx, hby, hZ, hown, hnm, hml, hret, hlk⟩ := ok
  obtain ⟨hd, rfl⟩ := hd
  intro T locs X hT hF
  obtain ⟨s₂, o, h1, h2⟩ := hr T locs X hT hF
  exact ⟨s₂, o, XS.iadd X.here hx rfl (hb hby hd) rfl h1, h2⟩
theorem w_isub (ok : Ok Z K code own nm maxL ret) {x y : Int32} (hd : Fet code pc pc' (.isub) 1)  (hr : Wp l R n0 K Q h k n pc' Ls (.int (x - y) :: st)) : Wp l R n0 K Q h k n pc Ls (.int y :: .int x :: st) := by
  obtain ⟨p, e, s, m, args, below, meth, c⟩ := K
  obtain ⟨hx, hby, hZ, hown, hnm, hml, hret, hlk⟩ := ok
  obtain ⟨hd, rfl⟩ := hd
  intro T locs X hT hF
  obtain ⟨s₂, o, h1, h2⟩ := hr T locs X hT hF
  exact ⟨s₂, o, XS.isub X.here hx rfl (hb hby hd) rfl h1, h2⟩
theorem w_imul (ok : Ok Z K code own nm maxL ret) {x y : Int32} (hd : Fet code pc pc' (.imul) 1)  (hr : Wp l R n0 K Q h k n pc' Ls (.int (x * y) :: st)) : Wp l R n0 K Q h k n pc Ls (.int y :: .int x :: st) := by
  obtain ⟨p, e, s, m, args, below, meth, c⟩ := K
  obtain ⟨hx, hby, hZ, hown, hnm, hml, hret, hlk⟩ := ok
  obtain ⟨hd, rfl⟩ := hd
  intro T locs X hT hF
  obtain ⟨s₂, o, h1, h2⟩ := hr T locs X hT hF
  exact ⟨s₂, o, XS.imul X.here hx rfl (hb hby hd) rfl h1, h2⟩
theorem w_iand (ok : Ok Z K code own nm maxL ret) {x y : Int32} (hd : Fet code pc pc' (.iand) 1)  (hr : Wp l R n0 K Q h k n pc' Ls (.int (x &&& y) :: st)) : Wp l R n0 K Q h k n pc Ls (.int y :: .int x :: st) := by
  obtain ⟨p, e, s, m, args, below, meth, c⟩ := K
  obtain ⟨hx, hby, hZ, hown, hnm, hml, hret, hlk⟩ := ok
  obtain ⟨hd, rfl⟩ := hd
  intro T locs X hT hF
  obtain ⟨s₂, o, h1, h2⟩ := hr T locs X hT hF
  exact ⟨s₂, o, XS.iand X.here hx rfl (hb hby hd) rfl h1, h2⟩
theorem w_ior (ok : Ok Z K code own nm maxL ret) {x y : Int32} (hd : Fet code pc pc' (.ior) 1)  (hr : Wp l R n0 K Q h k n pc' Ls (.int (x ||| y) :: st)) : Wp l R n0 K Q h k n pc Ls (.int y :: .int x :: st) := by
  obtain ⟨p, e, s, m, args, below, meth, c⟩ := K
  obtain ⟨hx, hby, hZ, hown, hnm, hml, hret, hlk⟩ := ok
  obtain ⟨hd, rfl⟩ := hd
  intro T locs X hT hF
  obtain ⟨s₂, o, h1, h2⟩ := hr T locs X hT hF
  exact ⟨s₂, o, XS.ior X.here hx rfl (hb hby hd) rfl h1, h2⟩
theorem w_ixor (ok : Ok Z K code own nm maxL ret) {x y : Int32} (hd : Fet code pc pc' (.ixor) 1)  (hr : Wp l R n0 K Q h k n pc' Ls (.int (x ^^^ y) :: st)) : Wp l R n0 K Q h k n pc Ls (.int y :: .int x :: st) := by
  obtain ⟨p, e, s, m, args, below, meth, c⟩ := K
  obtain ⟨hx, hby, hZ, hown, hnm, hml, hret, hlk⟩ := ok
  obtain ⟨hd, rfl⟩ := hd
  intro T locs X hT hF
  obtain ⟨s₂, o, h1, h2⟩ := hr T locs X hT hF
  exact ⟨s₂, o, XS.ixor X.here hx rfl (hb hby hd) rfl h1, h2⟩
theorem w_ladd (ok : Ok Z K code own nm maxL ret) {x y : Int64} (hd : Fet code pc pc' (.ladd) 1)  (hr : Wp l R n0 K Q h k n pc' Ls (.long (x + y) :: st)) : Wp l R n0 K Q h k n pc Ls (.long y :: .long x :: st) := by
  obtain ⟨p, e, s, m, args, below, meth, c⟩ := K
  obtain ⟨hx, hby, hZ, hown, hnm, hml, hret, hlk⟩ := ok
  obtain ⟨hd, rfl⟩ := hd
  intro T locs X hT hF
  obtain ⟨s₂, o, h1, h2⟩ := hr T locs X hT hF
  exact ⟨s₂, o, XS.ladd X.here hx rfl (hb hby hd) rfl h1, h2⟩
theorem w_lsub (ok : Ok Z K code own nm maxL ret) {x y : Int64} (hd : Fet code pc pc' (.lsub) 1)  (hr : Wp l R n0 K Q h k n pc' Ls (.long (x - y) :: st)) : Wp l R n0 K Q h k n pc Ls (.long y :: .long x :: st) := by
  obtain ⟨p, e, s, m, args, below, meth, c⟩ := K
  obtain ⟨hx, hby, hZ, hown, hnm, hml, hret, hlk⟩ := ok
  obtain ⟨hd, rfl⟩ := hd
  intro T locs X hT hF
  obtain ⟨s₂, o, h1, h2⟩ := hr T locs X hT hF
  exact ⟨s₂, o, XS.lsub X.here hx rfl (hb hby hd) rfl h1, h2⟩
theorem w_lmul (ok : Ok Z K code own nm maxL ret) {x y : Int64} (hd : Fet code pc pc' (.lmul) 1)  (hr : Wp l R n0 K Q h k n pc' Ls (.long (x * y) :: st)) : Wp l R n0 K Q h k n pc Ls (.long y :: .long x :: st) := by
  obtain ⟨p, e, s, m, args, below, meth, c⟩ := K
  obtain ⟨hx, hby, hZ, hown, hnm, hml, hret, hlk⟩ := ok
  obtain ⟨hd, rfl⟩ := hd
  intro T locs X hT hF
  obtain ⟨s₂, o, h1, h2⟩ := hr T locs X hT hF
  exact ⟨s₂, o, XS.lmul X.here hx rfl (hb hby hd) rfl h1, h2⟩
theorem w_land (ok : Ok Z K code own nm maxL ret) {x y : Int64} (hd : Fet code pc pc' (.land) 1)  (hr : Wp l R n0 K Q h k n pc' Ls (.long (x &&& y) :: st)) : Wp l R n0 K Q h k n pc Ls (.long y :: .long x :: st) := by
  obtain ⟨p, e, s, m, args, below, meth, c⟩ := K
  obtain ⟨hx, hby, hZ, hown, hnm, hml, hret, hlk⟩ := ok
  obtain ⟨hd, rfl⟩ := hd
  intro T locs X hT hF
  obtain ⟨s₂, o, h1, h2⟩ := hr T locs X hT hF
  exact ⟨s₂, o, XS.land X.here hx rfl (hb hby hd) rfl h1, h2⟩
theorem w_lor (ok : Ok Z K code own nm maxL ret) {x y : Int64} (hd : Fet code pc pc' (.lor) 1)  (hr : Wp l R n0 K Q h k n pc' Ls (.long (x ||| y) :: st)) : Wp l R n0 K Q h k n pc Ls (.long y :: .long x :: st) := by
  obtain ⟨p, e, s, m, args, below, meth, c⟩ := K
  obtain ⟨hx, hby, hZ, hown, hnm, hml, hret, hlk⟩ := ok
  obtain ⟨hd, rfl⟩ := hd
  intro T locs X hT hF
  obtain ⟨s₂, o, h1, h2⟩ := hr T locs X hT hF
  exact ⟨s₂, o, XS.lor X.here hx rfl (hb hby hd) rfl h1, h2⟩
theorem w_lxor (ok : Ok Z K code own nm maxL ret) {x y : Int64} (hd : Fet code pc pc' (.lxor) 1)  (hr : Wp l R n0 K Q h k n pc' Ls (.long (x ^^^ y) :: st)) : Wp l R n0 K Q h k n pc Ls (.long y :: .long x :: st) := by
  obtain ⟨p, e, s, m, args, below, meth, c⟩ := K
  obtain ⟨hx, hby, hZ, hown, hnm, hml, hret, hlk⟩ := ok
  obtain ⟨hd, rfl⟩ := hd
  intro T locs X hT hF
  obtain ⟨s₂, o, h1, h2⟩ := hr T locs X hT hF
  exact ⟨s₂, o, XS.lxor X.here hx rfl (hb hby hd) rfl h1, h2⟩
theorem w_ishl (ok : Ok Z K code own nm maxL ret) {x y : Int32} (hd : Fet code pc pc' (.ishl) 1)  (hr : Wp l R n0 K Q h k n pc' Ls (.int (x <<< (y &&& 31)) :: st)) : Wp l R n0 K Q h k n pc Ls (.int y :: .int x :: st) := by
  obtain ⟨p, e, s, m, args, below, meth, c⟩ := K
  obtain ⟨hx, hby, hZ, hown, hnm, hml, hret, hlk⟩ := ok
  obtain ⟨hd, rfl⟩ := hd
  intro T locs X hT hF
  obtain ⟨s₂, o, h1, h2⟩ := hr T locs X hT hF
  exact ⟨s₂, o, XS.ishl X.here hx rfl (hb hby hd) rfl h1, h2⟩
theorem w_ishr (ok : Ok Z K code own nm maxL ret) {x y : Int32} (hd : Fet code pc pc' (.ishr) 1)  (hr : Wp l R n0 K Q h k n pc' Ls (.int (x >>> (y &&& 31)) :: st)) : Wp l R n0 K Q h k n pc Ls (.int y :: .int x :: st) := by
  obtain ⟨p, e, s, m, args, below, meth, c⟩ := K
  obtain ⟨hx, hby, hZ, hown, hnm, hml, hret, hlk⟩ := ok
  obtain ⟨hd, rfl⟩ := hd
  intro T locs X hT hF
  obtain ⟨s₂, o, h1, h2⟩ := hr T locs X hT hF
  exact ⟨s₂, o, XS.ishr X.here hx rfl (hb hby hd) rfl h1, h2⟩
theorem w_iushr (ok : Ok Z K code own nm maxL ret) {x y : Int32} (hd : Fet code pc pc' (.iushr) 1)  (hr : Wp l R n0 K Q h k n pc' Ls (.int ((x.toUInt32 >>> (y &&& 31).toUInt32).toInt32) :: st)) : Wp l R n0 K Q h k n pc Ls (.int y :: .int x :: st) := by
  obtain ⟨p, e, s, m, args, below, meth, c⟩ := K
  obtain ⟨hx, hby, hZ, hown, hnm, hml, hret, hlk⟩ := ok
  obtain ⟨hd, rfl⟩ := hd
  intro T locs X hT hF
  obtain ⟨s₂, o, h1, h2⟩ := hr T locs X hT hF
  exact ⟨s₂, o, XS.iushr X.here hx rfl (hb hby hd) rfl h1, h2⟩
theorem w_lshl (ok : Ok Z K code own nm maxL ret) {x : Int64} {y : Int32} (hd : Fet code pc pc' (.lshl) 1)  (hr : Wp l R n0 K Q h k n pc' Ls (.long (x <<< (y &&& 0x3f).toInt64) :: st)) : Wp l R n0 K Q h k n pc Ls (.int y :: .long x :: st) := by
  obtain ⟨p, e, s, m, args, below, meth, c⟩ := K
  obtain ⟨hx, hby, hZ, hown, hnm, hml, hret, hlk⟩ := ok
  obtain ⟨hd, rfl⟩ := hd
  intro T locs X hT hF
  obtain ⟨s₂, o, h1, h2⟩ := hr T locs X hT hF
  exact ⟨s₂, o, XS.lshl X.here hx rfl (hb hby hd) rfl h1, h2⟩
theorem w_lshr (ok : Ok Z K code own nm maxL ret) {x : Int64} {y : Int32} (hd : Fet code pc pc' (.lshr) 1)  (hr : Wp l R n0 K Q h k n pc' Ls (.long (x >>> (y &&& 0x3f).toInt64) :: st)) : Wp l R n0 K Q h k n pc Ls (.int y :: .long x :: st) := by
  obtain ⟨p, e, s, m, args, below, meth, c⟩ := K
  obtain ⟨hx, hby, hZ, hown, hnm, hml, hret, hlk⟩ := ok
  obtain ⟨hd, rfl⟩ := hd
  intro T locs X hT hF
  obtain ⟨s₂, o, h1, h2⟩ := hr T locs X hT hF
  exact ⟨s₂, o, XS.lshr X.here hx rfl (hb hby hd) rfl h1, h2⟩
theorem w_lushr (ok : Ok Z K code own nm maxL ret) {x : Int64} {y : Int32} (hd : Fet code pc pc' (.lushr) 1)  (hr : Wp l R n0 K Q h k n pc' Ls (.long ((x.toUInt64 >>> (y &&& 0x3f).toInt64.toUInt64).toInt64) :: st)) : Wp l R n0 K Q h k n pc Ls (.int y :: .long x :: st) := by
  obtain ⟨p, e, s, m, args, below, meth, c⟩ := K
  obtain ⟨hx, hby, hZ, hown, hnm, hml, hret, hlk⟩ := ok
  obtain ⟨hd, rfl⟩ := hd
  intro T locs X hT hF
  obtain ⟨s₂, o, h1, h2⟩ := hr T locs X hT hF
  exact ⟨s₂, o, XS.lushr X.here hx rfl (hb hby hd) rfl h1, h2⟩
theorem w_idiv (ok : Ok Z K code own nm maxL ret) {x y : Int32} (hd : Fet code pc pc' (.idiv) 1) (hy : y ≠ 0) (hr : Wp l R n0 K Q h k n pc' Ls (.int (x / y) :: st)) : Wp l R n0 K Q h k n pc Ls (.int y :: .int x :: st) := by
  obtain ⟨p, e, s, m, args, below, meth, c⟩ := K
  obtain ⟨hx, hby, hZ, hown, hnm, hml, hret, hlk⟩ := ok
  obtain ⟨hd, rfl⟩ := hd
  intro T locs X hT hF
  obtain ⟨s₂, o, h1, h2⟩ := hr T locs X hT hF
  exact ⟨s₂, o, XS.idiv X.here hx rfl (hb hby hd) rfl hy h1, h2⟩
theorem w_ldiv (ok : Ok Z K code own nm maxL ret) {x y : Int64} (hd : Fet code pc pc' (.ldiv) 1) (hy : y ≠ 0) (hr : Wp l R n0 K Q h k n pc' Ls (.long (x / y) :: st)) : Wp l R n0 K Q h k n pc Ls (.long y :: .long x :: st) := by
  obtain ⟨p, e, s, m, args, below, meth, c⟩ := K
  obtain ⟨hx, hby, hZ, hown, hnm, hml, hret, hlk⟩ := ok
  obtain ⟨hd, rfl⟩ := hd
  intro T locs X hT hF
  obtain ⟨s₂, o, h1, h2⟩ := hr T locs X hT hF
  exact ⟨s₂, o, XS.ldiv X.here hx rfl (hb hby hd) rfl hy h1, h2⟩
theorem w_ineg (ok : Ok Z K code own nm maxL ret) {x : Int32} (hd : Fet code pc pc' (.ineg) 1)  (hr : Wp l R n0 K Q h k n pc' Ls (.int (-x) :: st)) : Wp l R n0 K Q h k n pc Ls (.int x :: st) := by
  obtain ⟨p, e, s, m, args, below, meth, c⟩ := K
  obtain ⟨hx, hby, hZ, hown, hnm, hml, hret, hlk⟩ := ok
  obtain ⟨hd, rfl⟩ := hd
  intro T locs X hT hF
  obtain ⟨s₂, o, h1, h2⟩ := hr T locs X hT hF
  exact ⟨s₂, o, XS.ineg X.here hx rfl (hb hby hd) rfl h1, h2⟩
theorem w_lneg (ok : Ok Z K code own nm maxL ret) {x : Int64} (hd : Fet code pc pc' (.lneg) 1)  (hr : Wp l R n0 K Q h k n pc' Ls (.long (-x) :: st)) : Wp l R n0 K Q h k n pc Ls (.long x :: st) := by
  obtain ⟨p, e, s, m, args, below, meth, c⟩ := K
  obtain ⟨hx, hby, hZ, hown, hnm, hml, hret, hlk⟩ := ok
  obtain ⟨hd, rfl⟩ := hd
  intro T locs X hT hF
  obtain ⟨s₂, o, h1, h2⟩ := hr T locs X hT hF
  exact ⟨s₂, o, XS.lneg X.here hx rfl (hb hby hd) rfl h1, h2⟩
theorem w_i2l (ok : Ok Z K code own nm maxL ret) {x : Int32} (hd : Fet code pc pc' (.i2l) 1)  (hr : Wp l R n0 K Q h k n pc' Ls (.long x.toInt64 :: st)) : Wp l R n0 K Q h k n pc Ls (.int x :: st) := by
  obtain ⟨p, e, s, m, args, below, meth, c⟩ := K
  obtain ⟨hx, hby, hZ, hown, hnm, hml, hret, hlk⟩ := ok
  obtain ⟨hd, rfl⟩ := hd
  intro T locs X hT hF
  obtain ⟨s₂, o, h1, h2⟩ := hr T locs X hT hF
  exact ⟨s₂, o, XS.i2l X.here hx rfl (hb hby hd) rfl h1, h2⟩
theorem w_l2i (ok : Ok Z K code own nm maxL ret) {x : Int64} (hd : Fet code pc pc' (.l2i) 1)  (hr : Wp l R n0 K Q h k n pc' Ls (.int x.toInt32 :: st)) : Wp l R n0 K Q h k n pc Ls (.long x :: st) := by
  obtain ⟨p, e, s, m, args, below, meth, c⟩ := K
  obtain ⟨hx, hby, hZ, hown, hnm, hml, hret, hlk⟩ := ok
  obtain ⟨hd, rfl⟩ := hd
  intro T locs X hT hF
  obtain ⟨s₂, o, h1, h2⟩ := hr T locs X hT hF
  exact ⟨s₂, o, XS.l2i X.here hx rfl (hb hby hd) rfl h1, h2⟩
theorem w_i2b (ok : Ok Z K code own nm maxL ret) {x : Int32} (hd : Fet code pc pc' (.i2b) 1)  (hr : Wp l R n0 K Q h k n pc' Ls (.int x.toInt8.toInt32 :: st)) : Wp l R n0 K Q h k n pc Ls (.int x :: st) := by
  obtain ⟨p, e, s, m, args, below, meth, c⟩ := K
  obtain ⟨hx, hby, hZ, hown, hnm, hml, hret, hlk⟩ := ok
  obtain ⟨hd, rfl⟩ := hd
  intro T locs X hT hF
  obtain ⟨s₂, o, h1, h2⟩ := hr T locs X hT hF
  exact ⟨s₂, o, XS.i2b X.here hx rfl (hb hby hd) rfl h1, h2⟩
theorem w_i2s (ok : Ok Z K code own nm maxL ret) {x : Int32} (hd : Fet code pc pc' (.i2s) 1)  (hr : Wp l R n0 K Q h k n pc' Ls (.int x.toInt16.toInt32 :: st)) : Wp l R n0 K Q h k n pc Ls (.int x :: st) := by
  obtain ⟨p, e, s, m, args, below, meth, c⟩ := K
  obtain ⟨hx, hby, hZ, hown, hnm, hml, hret, hlk⟩ := ok
  obtain ⟨hd, rfl⟩ := hd
  intro T locs X hT hF
  obtain ⟨s₂, o, h1, h2⟩ := hr T locs X hT hF
  exact ⟨s₂, o, XS.i2s X.here hx rfl (hb hby hd) rfl h1, h2⟩
theorem w_i2c (ok : Ok Z K code own nm maxL ret) {x : Int32} (hd : Fet code pc pc' (.i2c) 1)  (hr : Wp l R n0 K Q h k n pc' Ls (.int x.toUInt32.toUInt16.toUInt32.toInt32 :: st)) : Wp l R n0 K Q h k n pc Ls (.int x :: st) := by
  obtain ⟨p, e, s, m, args, below, meth, c⟩ := K
  obtain ⟨hx, hby, hZ, hown, hnm, hml, hret, hlk⟩ := ok
  obtain ⟨hd, rfl⟩ := hd
  intro T locs X hT hF
  obtain ⟨s₂, o, h1, h2⟩ := hr T locs X hT hF
  exact ⟨s₂, o, XS.i2c X.here hx rfl (hb hby hd) rfl h1, h2⟩
theorem w_dup (ok : Ok Z K code own nm maxL ret) {x : Value} (hd : Fet code pc pc' (.dup) 1) (hc : x.category = 1) (hr : Wp l R n0 K Q h k n pc' Ls (x :: x :: st)) : Wp l R n0 K Q h k n pc Ls (x :: st) := by
  obtain ⟨p, e, s, m, args, below, meth, c⟩ := K
  obtain ⟨hx, hby, hZ, hown, hnm, hml, hret, hlk⟩ := ok
  obtain ⟨hd, rfl⟩ := hd
  intro T locs X hT hF
  obtain ⟨s₂, o, h1, h2⟩ := hr T locs X hT hF
  exact ⟨s₂, o, XS.dup X.here hx rfl (hb hby hd) rfl hc h1, h2⟩
theorem w_pop (ok : Ok Z K code own nm maxL ret) {x : Value} (hd : Fet code pc pc' (.pop) 1) (hc : x.category = 1) (hr : Wp l R n0 K Q h k n pc' Ls st) : Wp l R n0 K Q h k n pc Ls (x :: st) := by
  obtain ⟨p, e, s, m, args, below, meth, c⟩ := K
  obtain ⟨hx, hby, hZ, hown, hnm, hml, hret, hlk⟩ := ok
  obtain ⟨hd, rfl⟩ := hd
  intro T locs X hT hF
  obtain ⟨s₂, o, h1, h2⟩ := hr T locs X hT hF
  exact ⟨s₂, o, XS.pop X.here hx rfl (hb hby hd) rfl hc h1, h2⟩
theorem w_dupX1 (ok : Ok Z K code own nm maxL ret) {x y : Value} (hd : Fet code pc pc' (.dup_x1) 1) (hc : x.category = 1) (hc' : y.category = 1) (hr : Wp l R n0 K Q h k n pc' Ls (x :: y :: x :: st)) : Wp l R n0 K Q h k n pc Ls (x :: y :: st) := by
  obtain ⟨p, e, s, m, args, below, meth, c⟩ := K
  obtain ⟨hx, hby, hZ, hown, hnm, hml, hret, hlk⟩ := ok
  obtain ⟨hd, rfl⟩ := hd
  intro T locs X hT hF
  obtain ⟨s₂, o, h1, h2⟩ := hr T locs X hT hF
  exact ⟨s₂, o, XS.dupX1 X.here hx rfl (hb hby hd) rfl hc hc' h1, h2⟩
theorem w_dup2 (ok : Ok Z K code own nm maxL ret) {x y : Value} (hd : Fet code pc pc' (.dup2) 1) (hc : x.category = 1) (hc' : y.category = 1) (hr : Wp l R n0 K Q h k n pc' Ls (x :: y :: x :: y :: st)) : Wp l R n0 K Q h k n pc Ls (x :: y :: st) := by
  obtain ⟨p, e, s, m, args, below, meth, c⟩ := K
  obtain ⟨hx, hby, hZ, hown, hnm, hml, hret, hlk⟩ := ok
  obtain ⟨hd, rfl⟩ := hd
  intro T locs X hT hF
  obtain ⟨s₂, o, h1, h2⟩ := hr T locs X hT hF
  exact ⟨s₂, o, Jvm.Free.XT.dup2 X.here hx rfl (hb hby hd) rfl hc hc' h1, h2⟩
theorem w_dup2L (ok : Ok Z K code own nm maxL ret) {x : Int64} (hd : Fet code pc pc' (.dup2) 1)  (hr : Wp l R n0 K Q h k n pc' Ls (.long x :: .long x :: st)) : Wp l R n0 K Q h k n pc Ls (.long x :: st) := by
  obtain ⟨p, e, s, m, args, below, meth, c⟩ := K
  obtain ⟨hx, hby, hZ, hown, hnm, hml, hret, hlk⟩ := ok
  obtain ⟨hd, rfl⟩ := hd
  intro T locs X hT hF
  obtain ⟨s₂, o, h1, h2⟩ := hr T locs X hT hF
  exact ⟨s₂, o, Jvm.Free.XT.dup2L X.here hx rfl (hb hby hd) rfl h1, h2⟩
theorem w_irem (ok : Ok Z K code own nm maxL ret) {x y : Int32} (hd : Fet code pc pc' (.irem) 1) (hy : y ≠ 0) (hr : Wp l R n0 K Q h k n pc' Ls (.int (x % y) :: st)) : Wp l R n0 K Q h k n pc Ls (.int y :: .int x :: st) := by
  obtain ⟨p, e, s, m, args, below, meth, c⟩ := K
  obtain ⟨hx, hby, hZ, hown, hnm, hml, hret, hlk⟩ := ok
  obtain ⟨hd, rfl⟩ := hd
  intro T locs X hT hF
  obtain ⟨s₂, o, h1, h2⟩ := hr T locs X hT hF
  exact ⟨s₂, o, iremM X hx rfl (hb hby hd) rfl hy h1, h2⟩
theorem lrem_mod (x y : Int64) : x - (x / y) * y = x % y := by
  apply Int64.toInt_inj.mp
  have h1 := Int64.le_toInt (x % y)
  have h2 := Int64.toInt_lt (x % y)
  rw [Int64.toInt_sub, Int64.toInt_mul, Int64.toInt_div, Int.bmod_mul_bmod, Int.sub_bmod_bmod, Int.mul_comm (x.toInt.tdiv y.toInt), ← Int.tmod_def, ← Int64.toInt_mod]
  exact Int.bmod_eq_of_le_mul_two (by omega) (by omega)

theorem w_lrem (ok : Ok Z K code own nm maxL ret) {x y : Int64} (hd : Fet code pc pc' (.lrem) 1) (hy : y ≠ 0) (hr : Wp l R n0 K Q h k n pc' Ls (.long (x % y) :: st)) : Wp l R n0 K Q h k n pc Ls (.long y :: .long x :: st) := by
  obtain ⟨p, e, s, m, args, below, meth, c⟩ := K
  obtain ⟨hx, hby, hZ, hown, hnm, hml, hret, hlk⟩ := ok
  obtain ⟨hd, rfl⟩ := hd
  intro T locs X hT hF
  obtain ⟨s₂, o, h1, h2⟩ := hr T locs X hT hF
  exact ⟨s₂, o, XS.lrem X.here hx rfl (hb hby hd) rfl hy (by rw [lrem_mod]; exact h1), h2⟩
theorem w_ldc (ok : Ok Z K code own nm maxL ret) {i : Nat} {x : Int32} (w : (Cond.constant own i x).before a0 Z = true) (hd : Fet code pc pc' (.ldc i) 2) (hr : Wp l R n0 K Q h k n pc' Ls (.int x :: st)) : Wp l R n0 K Q h k n pc Ls st := by
  obtain ⟨p, e, s, m, args, below, meth, c⟩ := K
  obtain ⟨hx, hby, hZ, hown, hnm, hml, hret, hlk⟩ := ok
  obtain ⟨hd, rfl⟩ := hd
  intro T locs X hT hF
  obtain ⟨s₂, o, h1, h2⟩ := hr T locs X hT hF
  exact ⟨s₂, o, X.ldcInt hx hown (mvT hZ w) (g := mkF m pc Ls st) rfl (hb hby hd) _ h1, h2⟩
theorem w_ldc2 (ok : Ok Z K code own nm maxL ret) {i : Nat} {x : Int64} (w : (Cond.constantLong own i x).before a0 Z = true) (hd : Fet code pc pc' (.ldc2_w i) 3) (hr : Wp l R n0 K Q h k n pc' Ls (.long x :: st)) : Wp l R n0 K Q h k n pc Ls st := by
  obtain ⟨p, e, s, m, args, below, meth, c⟩ := K
  obtain ⟨hx, hby, hZ, hown, hnm, hml, hret, hlk⟩ := ok
  obtain ⟨hd, rfl⟩ := hd
  intro T locs X hT hF
  obtain ⟨s₂, o, h1, h2⟩ := hr T locs X hT hF
  exact ⟨s₂, o, X.ldc2Long hx hown (mvT hZ w) (g := mkF m pc Ls st) rfl (hb hby hd) _ h1, h2⟩
theorem w_goto (ok : Ok Z K code own nm maxL ret) {pcN : Nat} {o : Int} (hd : Brn code pc pcN pc' (.goto o) o) (hr : Wp l R n0 K Q h k n pc' Ls st) : Wp l R n0 K Q h k n pc Ls st := by
  obtain ⟨p, e, s, m, args, below, meth, c⟩ := K
  obtain ⟨hx, hby, hZ, hown, hnm, hml, hret, hlk⟩ := ok
  obtain ⟨hd, rfl, ho, hp⟩ := hd
  intro T locs X hT hF
  obtain ⟨s₂, o, h1, h2⟩ := hr T locs X hT hF
  exact ⟨s₂, o, XS.goto X.here hx rfl rfl (hb hby hd) ho hp h1, h2⟩
theorem w_if0 (ok : Ok Z K code own nm maxL ret) {pcN pcT : Nat} {o : Int} {cd : ClassFile.Cond} {x : Int32} (hd : Brn code pc pcN pcT (.ifCond cd o) o) (hy : ifCond.holds cd x = true → Wp l R n0 K Q h k n pcT Ls st) (hn : ifCond.holds cd x = false → Wp l R n0 K Q h k n pcN Ls st) : Wp l R n0 K Q h k n pc Ls (.int x :: st) := by
  obtain ⟨p, e, s, m, args, below, meth, c⟩ := K
  obtain ⟨hx, hby, hZ, hown, hnm, hml, hret, hlk⟩ := ok
  obtain ⟨hd, rfl, ho, hp⟩ := hd
  intro T locs X hT hF
  cases hc : ifCond.holds cd x
  · obtain ⟨s₂, o, h1, h2⟩ := hn hc T locs X hT hF
    exact ⟨s₂, o, XS.ifNo X.here hx rfl (hb hby hd) rfl hc h1, h2⟩
  · obtain ⟨s₂, o, h1, h2⟩ := hy hc T locs X hT hF
    exact ⟨s₂, o, XS.ifYes X.here hx rfl rfl (hb hby hd) rfl hc ho hp h1, h2⟩
theorem w_ic (ok : Ok Z K code own nm maxL ret) {pcN pcT : Nat} {o : Int} {cd : ClassFile.Cond} {x y : Int32} (hd : Brn code pc pcN pcT (.if_icmp cd o) o) (hy : if_icmp.holds cd x y = true → Wp l R n0 K Q h k n pcT Ls st) (hn : if_icmp.holds cd x y = false → Wp l R n0 K Q h k n pcN Ls st) : Wp l R n0 K Q h k n pc Ls (.int y :: .int x :: st) := by
  obtain ⟨p, e, s, m, args, below, meth, c⟩ := K
  obtain ⟨hx, hby, hZ, hown, hnm, hml, hret, hlk⟩ := ok
  obtain ⟨hd, rfl, ho, hp⟩ := hd
  intro T locs X hT hF
  cases hc : if_icmp.holds cd x y
  · obtain ⟨s₂, o, h1, h2⟩ := hn hc T locs X hT hF
    exact ⟨s₂, o, XS.icmpNo X.here hx rfl (hb hby hd) rfl hc h1, h2⟩
  · obtain ⟨s₂, o, h1, h2⟩ := hy hc T locs X hT hF
    exact ⟨s₂, o, XS.icmpYes X.here hx rfl rfl (hb hby hd) rfl hc ho hp h1, h2⟩
theorem w_lcmp (ok : Ok Z K code own nm maxL ret) {x y : Int64} (hd : Fet code pc pc' .lcmp 1) (hr : Wp l R n0 K Q h k n pc' Ls (.int (lcmpW x y) :: st)) : Wp l R n0 K Q h k n pc Ls (.long y :: .long x :: st) := by
  obtain ⟨p, e, s, m, args, below, meth, c⟩ := K
  obtain ⟨hx, hby, hZ, hown, hnm, hml, hret, hlk⟩ := ok
  obtain ⟨hd, rfl⟩ := hd
  intro T locs X hT hF
  obtain ⟨s₂, o, h1, h2⟩ := hr T locs X hT hF
  exact ⟨s₂, o, XS.lcmp X.here hx rfl (hb hby hd) rfl h1, h2⟩
theorem h_eq {x y : Int32} : if_icmp.holds .eq x y = decide (x = y) := by rw [Bool.eq_iff_iff]; simp [if_icmp.holds]
theorem h_ne {x y : Int32} : if_icmp.holds .ne x y = decide (¬ x = y) := by rw [Bool.eq_iff_iff]; simp [if_icmp.holds]
theorem h_lt {x y : Int32} : if_icmp.holds .lt x y = decide (x < y) := by simp [if_icmp.holds]
theorem h_ge {x y : Int32} : if_icmp.holds .ge x y = decide (¬ x < y) := by simp [if_icmp.holds]
theorem h_gt {x y : Int32} : if_icmp.holds .gt x y = decide (y < x) := by simp [if_icmp.holds]
theorem h_le {x y : Int32} : if_icmp.holds .le x y = decide (¬ y < x) := by simp [if_icmp.holds]
theorem w_ic_eq (ok : Ok Z K code own nm maxL ret) {pcN pcT : Nat} {o : Int} {x y : Int32} (hd : Brn code pc pcN pcT (.if_icmp .eq o) o) (hy : x = y → Wp l R n0 K Q h k n pcT Ls st) (hn : ¬ x = y → Wp l R n0 K Q h k n pcN Ls st) : Wp l R n0 K Q h k n pc Ls (.int y :: .int x :: st) :=
  w_ic ok hd (fun q => hy (by rw [h_eq] at q; simpa using q)) (fun q => hn (by rw [h_eq] at q; simpa using q))
theorem w_if_eq (ok : Ok Z K code own nm maxL ret) {pcN pcT : Nat} {o : Int} {x : Int32} (hd : Brn code pc pcN pcT (.ifCond .eq o) o) (hy : x = 0 → Wp l R n0 K Q h k n pcT Ls st) (hn : ¬ x = 0 → Wp l R n0 K Q h k n pcN Ls st) : Wp l R n0 K Q h k n pc Ls (.int x :: st) :=
  w_if0 ok hd (fun q => hy (by rw [if0, h_eq] at q; simpa using q)) (fun q => hn (by rw [if0, h_eq] at q; simpa using q))
theorem w_lc_eq (ok : Ok Z K code own nm maxL ret) {pcM pcN pcT : Nat} {o : Int} {x y : Int64} (hd1 : Fet code pc pcM .lcmp 1) (hd : Brn code pcM pcN pcT (.ifCond .eq o) o) (hy : x = y → Wp l R n0 K Q h k n pcT Ls st) (hn : ¬ x = y → Wp l R n0 K Q h k n pcN Ls st) : Wp l R n0 K Q h k n pc Ls (.long y :: .long x :: st) :=
  w_lcmp ok hd1 (w_if_eq ok hd (fun q => hy ((lw_eq x y).mp q)) (fun q => hn (fun r => q ((lw_eq x y).mpr r))))
theorem w_ic_ne (ok : Ok Z K code own nm maxL ret) {pcN pcT : Nat} {o : Int} {x y : Int32} (hd : Brn code pc pcN pcT (.if_icmp .ne o) o) (hy : ¬ x = y → Wp l R n0 K Q h k n pcT Ls st) (hn : x = y → Wp l R n0 K Q h k n pcN Ls st) : Wp l R n0 K Q h k n pc Ls (.int y :: .int x :: st) :=
  w_ic ok hd (fun q => hy (by rw [h_ne] at q; simpa using q)) (fun q => hn (by rw [h_ne] at q; simpa using q))
theorem w_if_ne (ok : Ok Z K code own nm maxL ret) {pcN pcT : Nat} {o : Int} {x : Int32} (hd : Brn code pc pcN pcT (.ifCond .ne o) o) (hy : ¬ x = 0 → Wp l R n0 K Q h k n pcT Ls st) (hn : x = 0 → Wp l R n0 K Q h k n pcN Ls st) : Wp l R n0 K Q h k n pc Ls (.int x :: st) :=
  w_if0 ok hd (fun q => hy (by rw [if0, h_ne] at q; simpa using q)) (fun q => hn (by rw [if0, h_ne] at q; simpa using q))
theorem w_lc_ne (ok : Ok Z K code own nm maxL ret) {pcM pcN pcT : Nat} {o : Int} {x y : Int64} (hd1 : Fet code pc pcM .lcmp 1) (hd : Brn code pcM pcN pcT (.ifCond .ne o) o) (hy : ¬ x = y → Wp l R n0 K Q h k n pcT Ls st) (hn : x = y → Wp l R n0 K Q h k n pcN Ls st) : Wp l R n0 K Q h k n pc Ls (.long y :: .long x :: st) :=
  w_lcmp ok hd1 (w_if_ne ok hd (fun q => hy (fun r => q ((lw_eq x y).mpr r))) (fun q => hn ((lw_eq x y).mp q)))
theorem w_ic_lt (ok : Ok Z K code own nm maxL ret) {pcN pcT : Nat} {o : Int} {x y : Int32} (hd : Brn code pc pcN pcT (.if_icmp .lt o) o) (hy : x < y → Wp l R n0 K Q h k n pcT Ls st) (hn : ¬ x < y → Wp l R n0 K Q h k n pcN Ls st) : Wp l R n0 K Q h k n pc Ls (.int y :: .int x :: st) :=
  w_ic ok hd (fun q => hy (by rw [h_lt] at q; simpa using q)) (fun q => hn (by rw [h_lt] at q; simpa using q))
theorem w_if_lt (ok : Ok Z K code own nm maxL ret) {pcN pcT : Nat} {o : Int} {x : Int32} (hd : Brn code pc pcN pcT (.ifCond .lt o) o) (hy : x < 0 → Wp l R n0 K Q h k n pcT Ls st) (hn : ¬ x < 0 → Wp l R n0 K Q h k n pcN Ls st) : Wp l R n0 K Q h k n pc Ls (.int x :: st) :=
  w_if0 ok hd (fun q => hy (by rw [if0, h_lt] at q; simpa using q)) (fun q => hn (by rw [if0, h_lt] at q; simpa using q))
theorem w_lc_lt (ok : Ok Z K code own nm maxL ret) {pcM pcN pcT : Nat} {o : Int} {x y : Int64} (hd1 : Fet code pc pcM .lcmp 1) (hd : Brn code pcM pcN pcT (.ifCond .lt o) o) (hy : x < y → Wp l R n0 K Q h k n pcT Ls st) (hn : ¬ x < y → Wp l R n0 K Q h k n pcN Ls st) : Wp l R n0 K Q h k n pc Ls (.long y :: .long x :: st) :=
  w_lcmp ok hd1 (w_if_lt ok hd (fun q => hy ((lw_lt x y).mp q)) (fun q => hn (fun r => q ((lw_lt x y).mpr r))))
theorem w_ic_ge (ok : Ok Z K code own nm maxL ret) {pcN pcT : Nat} {o : Int} {x y : Int32} (hd : Brn code pc pcN pcT (.if_icmp .ge o) o) (hy : ¬ x < y → Wp l R n0 K Q h k n pcT Ls st) (hn : x < y → Wp l R n0 K Q h k n pcN Ls st) : Wp l R n0 K Q h k n pc Ls (.int y :: .int x :: st) :=
  w_ic ok hd (fun q => hy (by rw [h_ge] at q; simpa using q)) (fun q => hn (by rw [h_ge] at q; simpa using q))
theorem w_if_ge (ok : Ok Z K code own nm maxL ret) {pcN pcT : Nat} {o : Int} {x : Int32} (hd : Brn code pc pcN pcT (.ifCond .ge o) o) (hy : ¬ x < 0 → Wp l R n0 K Q h k n pcT Ls st) (hn : x < 0 → Wp l R n0 K Q h k n pcN Ls st) : Wp l R n0 K Q h k n pc Ls (.int x :: st) :=
  w_if0 ok hd (fun q => hy (by rw [if0, h_ge] at q; simpa using q)) (fun q => hn (by rw [if0, h_ge] at q; simpa using q))
theorem w_lc_ge (ok : Ok Z K code own nm maxL ret) {pcM pcN pcT : Nat} {o : Int} {x y : Int64} (hd1 : Fet code pc pcM .lcmp 1) (hd : Brn code pcM pcN pcT (.ifCond .ge o) o) (hy : ¬ x < y → Wp l R n0 K Q h k n pcT Ls st) (hn : x < y → Wp l R n0 K Q h k n pcN Ls st) : Wp l R n0 K Q h k n pc Ls (.long y :: .long x :: st) :=
  w_lcmp ok hd1 (w_if_ge ok hd (fun q => hy (fun r => q ((lw_lt x y).mpr r))) (fun q => hn ((lw_lt x y).mp q)))
theorem w_ic_gt (ok : Ok Z K code own nm maxL ret) {pcN pcT : Nat} {o : Int} {x y : Int32} (hd : Brn code pc pcN pcT (.if_icmp .gt o) o) (hy : y < x → Wp l R n0 K Q h k n pcT Ls st) (hn : ¬ y < x → Wp l R n0 K Q h k n pcN Ls st) : Wp l R n0 K Q h k n pc Ls (.int y :: .int x :: st) :=
  w_ic ok hd (fun q => hy (by rw [h_gt] at q; simpa using q)) (fun q => hn (by rw [h_gt] at q; simpa using q))
theorem w_if_gt (ok : Ok Z K code own nm maxL ret) {pcN pcT : Nat} {o : Int} {x : Int32} (hd : Brn code pc pcN pcT (.ifCond .gt o) o) (hy : 0 < x → Wp l R n0 K Q h k n pcT Ls st) (hn : ¬ 0 < x → Wp l R n0 K Q h k n pcN Ls st) : Wp l R n0 K Q h k n pc Ls (.int x :: st) :=
  w_if0 ok hd (fun q => hy (by rw [if0, h_gt] at q; simpa using q)) (fun q => hn (by rw [if0, h_gt] at q; simpa using q))
theorem w_lc_gt (ok : Ok Z K code own nm maxL ret) {pcM pcN pcT : Nat} {o : Int} {x y : Int64} (hd1 : Fet code pc pcM .lcmp 1) (hd : Brn code pcM pcN pcT (.ifCond .gt o) o) (hy : y < x → Wp l R n0 K Q h k n pcT Ls st) (hn : ¬ y < x → Wp l R n0 K Q h k n pcN Ls st) : Wp l R n0 K Q h k n pc Ls (.long y :: .long x :: st) :=
  w_lcmp ok hd1 (w_if_gt ok hd (fun q => hy ((lw_gt x y).mp q)) (fun q => hn (fun r => q ((lw_gt x y).mpr r))))
theorem w_ic_le (ok : Ok Z K code own nm maxL ret) {pcN pcT : Nat} {o : Int} {x y : Int32} (hd : Brn code pc pcN pcT (.if_icmp .le o) o) (hy : ¬ y < x → Wp l R n0 K Q h k n pcT Ls st) (hn : y < x → Wp l R n0 K Q h k n pcN Ls st) : Wp l R n0 K Q h k n pc Ls (.int y :: .int x :: st) :=
  w_ic ok hd (fun q => hy (by rw [h_le] at q; simpa using q)) (fun q => hn (by rw [h_le] at q; simpa using q))
theorem w_if_le (ok : Ok Z K code own nm maxL ret) {pcN pcT : Nat} {o : Int} {x : Int32} (hd : Brn code pc pcN pcT (.ifCond .le o) o) (hy : ¬ 0 < x → Wp l R n0 K Q h k n pcT Ls st) (hn : 0 < x → Wp l R n0 K Q h k n pcN Ls st) : Wp l R n0 K Q h k n pc Ls (.int x :: st) :=
  w_if0 ok hd (fun q => hy (by rw [if0, h_le] at q; simpa using q)) (fun q => hn (by rw [if0, h_le] at q; simpa using q))
theorem w_lc_le (ok : Ok Z K code own nm maxL ret) {pcM pcN pcT : Nat} {o : Int} {x y : Int64} (hd1 : Fet code pc pcM .lcmp 1) (hd : Brn code pcM pcN pcT (.ifCond .le o) o) (hy : ¬ y < x → Wp l R n0 K Q h k n pcT Ls st) (hn : y < x → Wp l R n0 K Q h k n pcN Ls st) : Wp l R n0 K Q h k n pc Ls (.long y :: .long x :: st) :=
  w_lcmp ok hd1 (w_if_le ok hd (fun q => hy (fun r => q ((lw_gt x y).mpr r))) (fun q => hn ((lw_gt x y).mp q)))
theorem w_ifnull_yes (ok : Ok Z K code own nm maxL ret) {pcN pcT : Nat} {o : Int} (hd : Brn code pc pcN pcT (.ifnull o) o) (hr : Wp l R n0 K Q h k n pcT Ls st) : Wp l R n0 K Q h k n pc Ls (.null :: st) := by
  obtain ⟨p, e, s, m, args, below, meth, c⟩ := K
  obtain ⟨hx, hby, hZ, hown, hnm, hml, hret, hlk⟩ := ok
  obtain ⟨hd, rfl, ho, hp⟩ := hd
  intro T locs X hT hF
  obtain ⟨s₂, o, h1, h2⟩ := hr T locs X hT hF
  exact ⟨s₂, o, XS.ifnullYes X.here hx rfl rfl (hb hby hd) rfl ho hp h1, h2⟩
theorem w_ifnull_no (ok : Ok Z K code own nm maxL ret) {pcN pcT : Nat} {o : Int} {b : Addr} (hd : Brn code pc pcN pcT (.ifnull o) o) (hr : Wp l R n0 K Q h k n pcN Ls st) : Wp l R n0 K Q h k n pc Ls (.ref b :: st) := by
  obtain ⟨p, e, s, m, args, below, meth, c⟩ := K
  obtain ⟨hx, hby, hZ, hown, hnm, hml, hret, hlk⟩ := ok
  obtain ⟨hd, rfl, ho, hp⟩ := hd
  intro T locs X hT hF
  obtain ⟨s₂, o, h1, h2⟩ := hr T locs X hT hF
  exact ⟨s₂, o, XS.ifnullNo X.here hx rfl (hb hby hd) rfl h1, h2⟩
theorem w_ifnonnull_yes (ok : Ok Z K code own nm maxL ret) {pcN pcT : Nat} {o : Int} {b : Addr} (hd : Brn code pc pcN pcT (.ifnonnull o) o) (hr : Wp l R n0 K Q h k n pcT Ls st) : Wp l R n0 K Q h k n pc Ls (.ref b :: st) := by
  obtain ⟨p, e, s, m, args, below, meth, c⟩ := K
  obtain ⟨hx, hby, hZ, hown, hnm, hml, hret, hlk⟩ := ok
  obtain ⟨hd, rfl, ho, hp⟩ := hd
  intro T locs X hT hF
  obtain ⟨s₂, o, h1, h2⟩ := hr T locs X hT hF
  exact ⟨s₂, o, XS.ifnonnullYes X.here hx rfl rfl (hb hby hd) rfl ho hp h1, h2⟩
theorem w_ifnonnull_no (ok : Ok Z K code own nm maxL ret) {pcN pcT : Nat} {o : Int} (hd : Brn code pc pcN pcT (.ifnonnull o) o) (hr : Wp l R n0 K Q h k n pcN Ls st) : Wp l R n0 K Q h k n pc Ls (.null :: st) := by
  obtain ⟨p, e, s, m, args, below, meth, c⟩ := K
  obtain ⟨hx, hby, hZ, hown, hnm, hml, hret, hlk⟩ := ok
  obtain ⟨hd, rfl, ho, hp⟩ := hd
  intro T locs X hT hF
  obtain ⟨s₂, o, h1, h2⟩ := hr T locs X hT hF
  exact ⟨s₂, o, XS.ifnonnullNo X.here hx rfl (hb hby hd) rfl h1, h2⟩
theorem w_acmp_eq (ok : Ok Z K code own nm maxL ret) {pcN pcT : Nat} {o : Int} {x y : Value} (hd : Brn code pc pcN pcT (.if_acmp .eq o) o) (hx' : x.isRef = true) (hy' : y.isRef = true) (hy : x = y → Wp l R n0 K Q h k n pcT Ls st) (hn : ¬ x = y → Wp l R n0 K Q h k n pcN Ls st) : Wp l R n0 K Q h k n pc Ls (y :: x :: st) := by
  obtain ⟨p, e, s, m, args, below, meth, c⟩ := K
  obtain ⟨hx, hby, hZ, hown, hnm, hml, hret, hlk⟩ := ok
  obtain ⟨hd, rfl, ho, hp⟩ := hd
  intro T locs X hT hF
  by_cases q : x = y
  · obtain ⟨s₂, o, h1, h2⟩ := hy q T locs X hT hF
    exact ⟨s₂, o, Jvm.RoadKit.acmp X hx rfl hx' hy' rfl (hb hby hd) rfl (decide_eq_true q) ho (by simp [acV, hp]) h1, h2⟩
  · obtain ⟨s₂, o, h1, h2⟩ := hn q T locs X hT hF
    exact ⟨s₂, o, Jvm.RoadKit.acmp X hx rfl hx' hy' rfl (hb hby hd) rfl (decide_eq_false q) ho (by simp [acV, hp]) h1, h2⟩
theorem w_acmp_ne (ok : Ok Z K code own nm maxL ret) {pcN pcT : Nat} {o : Int} {x y : Value} (hd : Brn code pc pcN pcT (.if_acmp .ne o) o) (hx' : x.isRef = true) (hy' : y.isRef = true) (hy : ¬ x = y → Wp l R n0 K Q h k n pcT Ls st) (hn : x = y → Wp l R n0 K Q h k n pcN Ls st) : Wp l R n0 K Q h k n pc Ls (y :: x :: st) := by
  obtain ⟨p, e, s, m, args, below, meth, c⟩ := K
  obtain ⟨hx, hby, hZ, hown, hnm, hml, hret, hlk⟩ := ok
  obtain ⟨hd, rfl, ho, hp⟩ := hd
  intro T locs X hT hF
  by_cases q : x = y
  · obtain ⟨s₂, o, h1, h2⟩ := hn q T locs X hT hF
    exact ⟨s₂, o, Jvm.RoadKit.acmp X hx rfl hx' hy' rfl (hb hby hd) rfl (decide_eq_true q) ho (by simp [acV, hp]) h1, h2⟩
  · obtain ⟨s₂, o, h1, h2⟩ := hy q T locs X hT hF
    exact ⟨s₂, o, Jvm.RoadKit.acmp X hx rfl hx' hy' rfl (hb hby hd) rfl (decide_eq_false q) ho (by simp [acV, hp]) h1, h2⟩
theorem w_return (ok : Ok Z K code own nm maxL none) (hd : Fet code pc pc' .return_ 1) (hk : k ≤ R.cells) (hn : n ≤ R.slots) (hQ : Q none h) : Wp l R n0 K Q h k n pc Ls [] := by
  obtain ⟨p, e, s, m, args, below, meth, c⟩ := K
  obtain ⟨hx, hby, hZ, hown, hnm, hml, hret, hlk⟩ := ok
  obtain ⟨hd, -⟩ := hd
  intro T locs X hT hF
  obtain ⟨fs, hr, hrun, hended, hW, hsame⟩ := X.leave (v := none) (fun _ => rfl) hlk
  refine ⟨_, _, X.returnOut hx hret (hb hby hd) hr, hrun, hended, _, locs, rfl, ⟨?_, hF⟩, ⟨_, rfl⟩, hW, hsame.mono hk hn⟩
  show Q _ T.heap
  rw [hT]; exact hQ
theorem w_ireturnN {t : FieldType} (ok : Ok Z K code own nm maxL (some t)) {x : Int32} (ht : t = .boolean ∨ t = .byte ∨ t = .char ∨ t = .short) (hd : Fet code pc pc' .ireturn 1) (hk : k ≤ R.cells) (hn : n ≤ R.slots) (hQ : Q (some (.int (nar t x))) h) : Wp l R n0 K Q h k n pc Ls (.int x :: st) := by
  obtain ⟨p, e, s, m, args, below, meth, c⟩ := K
  obtain ⟨hx, hby, hZ, hown, hnm, hml, hret, hlk⟩ := ok
  obtain ⟨hd, -⟩ := hd
  intro T locs X hT hF
  obtain ⟨fs, hr, hrun, hended, hW, hsame⟩ := X.leave (v := some (.int (nar t x))) (fun q => by rw [hret] at q; cases q) hlk
  refine ⟨_, _, retN X hx hret ht (hb hby hd) hr, hrun, hended, _, locs, rfl, ⟨?_, hF⟩, ⟨_, rfl⟩, hW, hsame.mono hk hn⟩
  show Q _ T.heap
  rw [hT]; exact hQ
theorem w_ireturnI (ok : Ok Z K code own nm maxL (some .int)) {x : Int32} (hd : Fet code pc pc' .ireturn 1) (hk : k ≤ R.cells) (hn : n ≤ R.slots) (hQ : Q (some (.int x)) h) : Wp l R n0 K Q h k n pc Ls (.int x :: st) := by
  obtain ⟨p, e, s, m, args, below, meth, c⟩ := K
  obtain ⟨hx, hby, hZ, hown, hnm, hml, hret, hlk⟩ := ok
  obtain ⟨hd, -⟩ := hd
  intro T locs X hT hF
  obtain ⟨fs, hr, hrun, hended, hW, hsame⟩ := X.leave (v := some (.int x)) (fun q => by rw [hret] at q; cases q) hlk
  refine ⟨_, _, retOut X hx hret (by rfl) (Or.inl ⟨rfl, Or.inl rfl, _, rfl⟩) (hb hby hd) hr, hrun, hended, _, locs, rfl, ⟨?_, hF⟩, ⟨_, rfl⟩, hW, hsame.mono hk hn⟩
  show Q _ T.heap
  rw [hT]; exact hQ
theorem w_lreturn (ok : Ok Z K code own nm maxL (some .long)) {x : Int64} (hd : Fet code pc pc' .lreturn 1) (hk : k ≤ R.cells) (hn : n ≤ R.slots) (hQ : Q (some (.long x)) h) : Wp l R n0 K Q h k n pc Ls (.long x :: st) := by
  obtain ⟨p, e, s, m, args, below, meth, c⟩ := K
  obtain ⟨hx, hby, hZ, hown, hnm, hml, hret, hlk⟩ := ok
  obtain ⟨hd, -⟩ := hd
  intro T locs X hT hF
  obtain ⟨fs, hr, hrun, hended, hW, hsame⟩ := X.leave (v := some (.long x)) (fun q => by rw [hret] at q; cases q) hlk
  refine ⟨_, _, retOut X hx hret (by rfl) (Or.inr (Or.inl ⟨rfl, rfl, _, rfl⟩)) (hb hby hd) hr, hrun, hended, _, locs, rfl, ⟨?_, hF⟩, ⟨_, rfl⟩, hW, hsame.mono hk hn⟩
  show Q _ T.heap
  rw [hT]; exact hQ
theorem w_areturn {t : FieldType} (ok : Ok Z K code own nm maxL (some t)) {x : Value} (ht : t.isReference = true) (hv : x.isRef = true) (hnar : narrow t x = x) (hd : Fet code pc pc' .areturn 1) (hk : k ≤ R.cells) (hn : n ≤ R.slots) (hQ : Q (some x) h) : Wp l R n0 K Q h k n pc Ls (x :: st) := by
  obtain ⟨p, e, s, m, args, below, meth, c⟩ := K
  obtain ⟨hx, hby, hZ, hown, hnm, hml, hret, hlk⟩ := ok
  obtain ⟨hd, -⟩ := hd
  intro T locs X hT hF
  obtain ⟨fs, hr, hrun, hended, hW, hsame⟩ := X.leave (v := some x) (fun q => by rw [hret] at q; cases q) hlk
  refine ⟨_, _, retOut X hx hret hnar (Or.inr (Or.inr (Or.inr (Or.inr ⟨rfl, ht, hv⟩)))) (hb hby hd) hr, hrun, hended, _, locs, rfl, ⟨?_, hF⟩, ⟨_, rfl⟩, hW, hsame.mono hk hn⟩
  show Q _ T.heap
  rw [hT]; exact hQ
theorem w_getfield (ok : Ok Z K code own nm maxL ret) {R0 O f d host : String} {i : Nat} {a : Addr} {x : Value} (w : (Cond.fieldLink own i R0 f d).before a0 Z = true ∨ (Cond.fieldLinkNest own i R0 f d host).before a0 Z = true) (via : Via Z R0 O f d) (F : Fld Z h a O f d x) (hd : Fet code pc pc' (.getfield i) 3) (hr : Wp l R n0 K Q h k n pc' Ls (x :: st)) : Wp l R n0 K Q h k n pc Ls (.ref a :: st) := by
  obtain ⟨p, e, s, m, args, below, meth, c⟩ := K
  obtain ⟨hx, hby, hZ, hown, hnm, hml, hret, hlk⟩ := ok
  obtain ⟨hd, rfl⟩ := hd
  intro T locs X hT hF
  obtain ⟨T', X', e', stp⟩ := getF X hx hZ hown w via hT F (g := mkF m pc Ls (.ref a :: st)) rfl rfl (hb hby hd)
  obtain ⟨s₂, o, h1, h2⟩ := hr T' locs X' e' hF
  exact ⟨s₂, o, stp _ h1, h2⟩
theorem w_getstatic (ok : Ok Z K code own nm maxL ret) {R0 O f d : String} {i : Nat} {x : Value} (w : (Cond.fieldLink own i R0 f d).before a0 Z = true) (via : Via Z R0 O f d) (F : Sta Z h O f d x) (hd : Fet code pc pc' (.getstatic i) 3) (hr : Wp l R n0 K Q h k n pc' Ls (x :: st)) : Wp l R n0 K Q h k n pc Ls st := by
  obtain ⟨p, e, s, m, args, below, meth, c⟩ := K
  obtain ⟨hx, hby, hZ, hown, hnm, hml, hret, hlk⟩ := ok
  obtain ⟨hd, rfl⟩ := hd
  intro T locs X hT hF
  obtain ⟨T', X', e', stp⟩ := getS (host := "") X hx hZ hown w via hT F (g := mkF m pc Ls st) rfl (hb hby hd)
  obtain ⟨s₂, o, h1, h2⟩ := hr T' locs X' e' hF
  exact ⟨s₂, o, stp _ h1, h2⟩
theorem w_putfield (ok : Ok Z K code own nm maxL ret) {R0 O f d host C : String} {i kk : Nat} {ty : FieldType} {a : Addr} {x old : Value} (w : (Cond.fieldLink own i R0 f d).before a0 Z = true ∨ (Cond.fieldLinkNest own i R0 f d host).before a0 Z = true) (via : Via Z R0 O f d) (F : Fld Z h a O f d old) (E : Exa Z h a C)
    (L : (Cond.lays C O f d).before a0 Z = true ∨ ((Cond.laysFinal C O f d).before a0 Z = true ∧ own = O ∧ nm = "<init>")) (wi : (Cond.instantiable C kk).before a0 Z = true) (hty : parseFieldDescriptor d = some ty) (hna : narrow ty x = x) (hfi : fits ty x = true) (ha : n0 ≤ a) (hd : Fet code pc pc' (.putfield i) 3)
    (hr : ∀ h', Wr h h' a (Jvm.RoadKit.slotOf Z O f d) x → Wp l R n0 K Q h' k n pc' Ls st) : Wp l R n0 K Q h k n pc Ls (x :: .ref a :: st) := by
  obtain ⟨p, e, s, m, args, below, meth, c⟩ := K
  obtain ⟨hx, hby, hZ, hown, hnm, hml, hret, hlk⟩ := ok
  obtain ⟨hd, rfl⟩ := hd
  intro T locs X hT hF
  obtain ⟨T', h', X', e', W', stp⟩ := putF X hx hZ hown w via hT F E (L.imp id fun q => ⟨q.1, q.2.1, hnm.trans q.2.2⟩) wi hty hna hfi (g := mkF m pc Ls (x :: .ref a :: st)) rfl rfl (hb hby hd)
  obtain ⟨s₂, o, h1, h2⟩ := hr h' W' T' _ X' e' (Fr.snoc X' hF ha)
  exact ⟨s₂, o, stp _ h1, h2⟩
theorem w_putfieldN (ok : Ok Z K code own nm maxL ret) {R0 O f d C : String} {i kk : Nat} {ty : FieldType} {a : Addr} {x x' old : Value} (w : (Cond.fieldLink own i R0 f d).before a0 Z = true) (via : Via Z R0 O f d) (F : Fld Z h a O f d old) (E : Exa Z h a C)
    (L : (Cond.lays C O f d).before a0 Z = true ∨ ((Cond.laysFinal C O f d).before a0 Z = true ∧ own = O ∧ nm = "<init>")) (wi : (Cond.instantiable C kk).before a0 Z = true) (hty : parseFieldDescriptor d = some ty) (hna : narrow ty x = x') (hfi : fits ty x' = true) (ha : n0 ≤ a) (hd : Fet code pc pc' (.putfield i) 3)
    (hr : ∀ h', Wr h h' a (Jvm.RoadKit.slotOf Z O f d) x' → Wp l R n0 K Q h' k n pc' Ls st) : Wp l R n0 K Q h k n pc Ls (x :: .ref a :: st) := by
  obtain ⟨p, e, s, m, args, below, meth, c⟩ := K
  obtain ⟨hx, hby, hZ, hown, hnm, hml, hret, hlk⟩ := ok
  obtain ⟨hd, rfl⟩ := hd
  intro T locs X hT hF
  obtain ⟨T', h', X', e', W', stp⟩ := putFN X hx hZ hown w via hT F E (L.imp id fun q => ⟨q.1, q.2.1, hnm.trans q.2.2⟩) wi hty hna hfi (g := mkF m pc Ls (x :: .ref a :: st)) rfl rfl (hb hby hd)
  obtain ⟨s₂, o, h1, h2⟩ := hr h' W' T' _ X' e' (Fr.snoc X' hF ha)
  exact ⟨s₂, o, stp _ h1, h2⟩
theorem w_new (ok : Ok Z K code own nm maxL ret) {C : String} {i nn : Nat} (w : (Cond.classLink own i C).before a0 Z = true) (wi : (Cond.instantiable C nn).before a0 Z = true) (wz : (Cond.initialized C).before a0 Z = true) (hd : Fet code pc pc' (.new i) 3) (ek : k + 1 = k') (en : n + nn = n') (hc : k' ≤ R.cells) (hl : n' ≤ R.slots)
    (hr : ∀ h' b, b = h.size → Ext h h' → Exa Z h' b C → (∀ {O f d : String} {ty : FieldType}, Laid Z a0 C O f d → parseFieldDescriptor d = some ty → Fld Z h' b O f d (defaultValue ty)) → Wp l R n0 K Q h' k' n' pc' Ls (.ref b :: st)) : Wp l R n0 K Q h k n pc Ls st := by
  obtain ⟨p, e, s, m, args, below, meth, c⟩ := K
  obtain ⟨hx, hby, hZ, hown, hnm, hml, hret, hlk⟩ := ok
  obtain ⟨hd, rfl⟩ := hd
  intro T locs X hT hF
  subst ek en
  obtain ⟨T', h', X', e', E', A', D', -, stp⟩ := newO X hx hZ hown w wi wz hT (g := mkF m pc Ls st) rfl (hb hby hd) hc hl
  obtain ⟨s₂, o, h1, h2⟩ := hr h' _ rfl E' A' D' T' _ X' e' hF
  exact ⟨s₂, o, stp _ h1, h2⟩
theorem w_newarray (ok : Ok Z K code own nm maxL ret) {aty : ArrayType} {z : Int32} {cap : Nat} (w : (Cond.arrayClass (newarray.typeOf aty)).before a0 Z = true) (hd : Fet code pc pc' (.newarray aty) 2) (hz : ¬ z < 0) (hcap : z.toNatClampNeg ≤ cap) (hb8 : cap * 8 ≤ 536870912) (ek : k + 1 = k') (en : n + cap = n') (hc : k' ≤ R.cells) (hl : n' ≤ R.slots)
    (hr : ∀ h' b cA, b = h.size → Ext h h' → Arr Z h' b (newA cA (newarray.typeOf aty) z) (newarray.typeOf aty) → Wp l R n0 K Q h' k' n' pc' Ls (.ref b :: st)) : Wp l R n0 K Q h k n pc Ls (.int z :: st) := by
  obtain ⟨p, e, s, m, args, below, meth, c⟩ := K
  obtain ⟨hx, hby, hZ, hown, hnm, hml, hret, hlk⟩ := ok
  obtain ⟨hd, rfl⟩ := hd
  intro T locs X hT hF
  subst ek en
  obtain ⟨T', h', cA, X', e', E', A', stp⟩ := newP X hx hZ w hT (g := mkF m pc Ls (.int z :: st)) rfl (hb hby hd) rfl hz hcap hb8 hc hl
  obtain ⟨s₂, o, h1, h2⟩ := hr h' _ cA rfl E' A' T' _ X' e' hF
  exact ⟨s₂, o, stp _ h1, h2⟩
theorem w_initO (ok : Ok Z K code own nm maxL ret) {i : Nat} {a : Addr} (w1 : (Cond.methodLink own i Lib.objectInit).before a0 Z = true) (w2 : (Cond.instanceMethod Lib.objectInit).before a0 Z = true) (w3 : (Cond.code Lib.objectInit ⟨#[0xb1]⟩ 1 none).before a0 Z = true) (hd : Fet code pc pc' (.invokespecial i) 3)
    (hsz : Ls.size = maxL) (hf : 1 ≤ R.frames) (hl : (st.map fun v => v.category).sum + 12 ≤ R.locals) (hr : Wp l R n0 K Q h k n pc' Ls st) : Wp l R n0 K Q h k n pc Ls (.ref a :: st) := by
  obtain ⟨p, e, s, m, args, below, meth, c⟩ := K
  obtain ⟨hx, hby, hZ, hown, hnm, hml, hret, hlk⟩ := ok
  obtain ⟨hd, rfl⟩ := hd
  intro T locs X hT hF
  obtain ⟨T', X', e', stp⟩ := initO X hx hZ hown w1 w2 w3 hT (g := mkF m pc Ls (.ref a :: st)) rfl (hsz.trans hml.symm) rfl (hb hby hd) hf (W := (st.map fun v => v.category).sum) (by show 2 * 0 + _ ≤ _; omega) hl
  obtain ⟨s₂, o, h1, h2⟩ := hr T' locs X' e' hF
  exact ⟨s₂, o, stp _ h1, h2⟩
theorem w_iastore (ok : Ok Z K code own nm maxL ret) {a : Addr} {cl : Cell} {j : Int32} {x : Int32} (A : Arr Z h a cl .int) (hj : ¬ (j < 0 ∨ cl.slots.size ≤ j.toNatClampNeg)) (ha : n0 ≤ a) (hd : Fet code pc pc' .iastore 1)
    (hr : ∀ h', Wr h h' a j.toNatClampNeg (.int x) → Wp l R n0 K Q h' k n pc' Ls st) : Wp l R n0 K Q h k n pc Ls ((.int x) :: .int j :: .ref a :: st) := by
  obtain ⟨p, e, s, m, args, below, meth, c⟩ := K
  obtain ⟨hx, hby, hZ, hown, hnm, hml, hret, hlk⟩ := ok
  obtain ⟨hd, rfl⟩ := hd
  intro T locs X hT hF
  obtain ⟨T', h', X', e', W', stp⟩ := stI X hx hZ hT A hj (g := mkF m pc Ls ((.int x) :: .int j :: .ref a :: st)) rfl rfl (hb hby hd)
  obtain ⟨s₂, o, h1, h2⟩ := hr h' W' T' _ X' e' (Fr.snoc X' hF ha)
  exact ⟨s₂, o, stp _ h1, h2⟩
theorem w_lastore (ok : Ok Z K code own nm maxL ret) {a : Addr} {cl : Cell} {j : Int32} {x : Int64} (A : Arr Z h a cl .long) (hj : ¬ (j < 0 ∨ cl.slots.size ≤ j.toNatClampNeg)) (ha : n0 ≤ a) (hd : Fet code pc pc' .lastore 1)
    (hr : ∀ h', Wr h h' a j.toNatClampNeg (.long x) → Wp l R n0 K Q h' k n pc' Ls st) : Wp l R n0 K Q h k n pc Ls ((.long x) :: .int j :: .ref a :: st) := by
  obtain ⟨p, e, s, m, args, below, meth, c⟩ := K
  obtain ⟨hx, hby, hZ, hown, hnm, hml, hret, hlk⟩ := ok
  obtain ⟨hd, rfl⟩ := hd
  intro T locs X hT hF
  obtain ⟨T', h', X', e', W', stp⟩ := stJ X hx hZ hT A hj (g := mkF m pc Ls ((.long x) :: .int j :: .ref a :: st)) rfl rfl (hb hby hd)
  obtain ⟨s₂, o, h1, h2⟩ := hr h' W' T' _ X' e' (Fr.snoc X' hF ha)
  exact ⟨s₂, o, stp _ h1, h2⟩
theorem w_castore (ok : Ok Z K code own nm maxL ret) {a : Addr} {cl : Cell} {j : Int32} {x : Int32} (A : Arr Z h a cl .char) (hj : ¬ (j < 0 ∨ cl.slots.size ≤ j.toNatClampNeg)) (ha : n0 ≤ a) (hd : Fet code pc pc' .castore 1)
    (hr : ∀ h', Wr h h' a j.toNatClampNeg (.int (nar .char x)) → Wp l R n0 K Q h' k n pc' Ls st) : Wp l R n0 K Q h k n pc Ls ((.int x) :: .int j :: .ref a :: st) := by
  obtain ⟨p, e, s, m, args, below, meth, c⟩ := K
  obtain ⟨hx, hby, hZ, hown, hnm, hml, hret, hlk⟩ := ok
  obtain ⟨hd, rfl⟩ := hd
  intro T locs X hT hF
  obtain ⟨T', h', X', e', W', stp⟩ := stC X hx hZ hT A hj (g := mkF m pc Ls ((.int x) :: .int j :: .ref a :: st)) rfl rfl (hb hby hd)
  obtain ⟨s₂, o, h1, h2⟩ := hr h' W' T' _ X' e' (Fr.snoc X' hF ha)
  exact ⟨s₂, o, stp _ h1, h2⟩
theorem w_bastoreB (ok : Ok Z K code own nm maxL ret) {a : Addr} {cl : Cell} {j : Int32} {x : Int32} (A : Arr Z h a cl .byte) (hj : ¬ (j < 0 ∨ cl.slots.size ≤ j.toNatClampNeg)) (ha : n0 ≤ a) (hd : Fet code pc pc' .bastore 1)
    (hr : ∀ h', Wr h h' a j.toNatClampNeg (.int (nar .byte x)) → Wp l R n0 K Q h' k n pc' Ls st) : Wp l R n0 K Q h k n pc Ls ((.int x) :: .int j :: .ref a :: st) := by
  obtain ⟨p, e, s, m, args, below, meth, c⟩ := K
  obtain ⟨hx, hby, hZ, hown, hnm, hml, hret, hlk⟩ := ok
  obtain ⟨hd, rfl⟩ := hd
  intro T locs X hT hF
  obtain ⟨T', h', X', e', W', stp⟩ := stB X hx hZ hT A hj (g := mkF m pc Ls ((.int x) :: .int j :: .ref a :: st)) rfl rfl (hb hby hd)
  obtain ⟨s₂, o, h1, h2⟩ := hr h' W' T' _ X' e' (Fr.snoc X' hF ha)
  exact ⟨s₂, o, stp _ h1, h2⟩
theorem w_bastoreZ (ok : Ok Z K code own nm maxL ret) {a : Addr} {cl : Cell} {j : Int32} {x : Int32} (A : Arr Z h a cl .boolean) (hj : ¬ (j < 0 ∨ cl.slots.size ≤ j.toNatClampNeg)) (ha : n0 ≤ a) (hd : Fet code pc pc' .bastore 1)
    (hr : ∀ h', Wr h h' a j.toNatClampNeg (.int (nar .boolean x)) → Wp l R n0 K Q h' k n pc' Ls st) : Wp l R n0 K Q h k n pc Ls ((.int x) :: .int j :: .ref a :: st) := by
  obtain ⟨p, e, s, m, args, below, meth, c⟩ := K
  obtain ⟨hx, hby, hZ, hown, hnm, hml, hret, hlk⟩ := ok
  obtain ⟨hd, rfl⟩ := hd
  intro T locs X hT hF
  obtain ⟨T', h', X', e', W', stp⟩ := stZ X hx hZ hT A hj (g := mkF m pc Ls ((.int x) :: .int j :: .ref a :: st)) rfl rfl (hb hby hd)
  obtain ⟨s₂, o, h1, h2⟩ := hr h' W' T' _ X' e' (Fr.snoc X' hF ha)
  exact ⟨s₂, o, stp _ h1, h2⟩
theorem w_callSV (ok : Ok Z K code own nm maxL ret) {y : MethodName} {bytes : ByteArray} {mL i : Nat} {rt : Option FieldType} {rm : Room} {Qc : Value → Heap → Prop} {argsL : List Value}  (w1 : (Cond.methodLink own i y).before a0 Z = true) (w2 : (Cond.static y).before a0 Z = true) (wz : (Cond.initialized y.cls).before a0 Z = true) (wc : (Cond.code y bytes mL rt).before a0 Z = true) (hy : y.cls ≠ "java/lang/invoke/MethodHandle" ∧ y.cls ≠ "java/lang/invoke/VarHandle")
    (hM : ConV l Z n0 y bytes mL rt [] rm (argsL).toArray h Qc) (hd : Fet code pc pc' (.invokestatic i) 3) (hlen : ∀ sig, parseMethodDescriptor y.desc = some sig → argsL.length = sig.parameters.length) (hst : st = argsL.reverse ++ rest) (hsz : Ls.size = maxL) (hf : rm.frames + 1 ≤ R.frames) (hl : (rest.map fun v => v.category).sum + (mL + 11) + rm.locals ≤ R.locals)
    (ek : k + rm.cells = k') (en : n + rm.slots = n') (hc : k' ≤ R.cells) (hs : n' ≤ R.slots) (hr : ∀ w h', Qc w h' → Wp l R n0 K Q h' k' n' pc' Ls (w :: rest)) : Wp l R n0 K Q h k n pc Ls st := by
  obtain ⟨p, e, s, m, args, below, meth, c⟩ := K
  obtain ⟨hx, hby, hZ, hown, hnm, hml, hret, hlk⟩ := ok
  obtain ⟨hd, rfl⟩ := hd
  intro T locs X hT hF
  subst hst ek en
  obtain ⟨v, _, ⟨T', L', k1, n1⟩, -, X', ⟨Lc, hQ, l1, y1, z1⟩, stp⟩ := Jvm.LawKit.callS X hx (y := y) hown (mvT hZ w1) (mvT hZ w2) (mvT hZ wz) (mvT hZ wc) hy (backOf (W := (rest.map fun v => v.category).sum) (Q := fun v h' L => (∃ w, v = some w ∧ Qc w h') ∧ Fr n0 L) (as' := (argsL).toArray) (rm := rm) (bytes := bytes) (maxL := mL) (ret := rt) (h := h) (Z := Z) hM hZ wc wz hf hl) (g := mkF m pc Ls (argsL.reverse ++ rest)) rfl (hsz.trans hml.symm) (argsL := argsL) (rest := rest) hlen rfl (by show 2 * 0 + _ ≤ _; omega) (hb hby hd) (fun _ _ => ⟨rfl, hT, hc, hs⟩)
  dsimp only [Pt.U, Pt.locs, Pt.cells, Pt.slots] at X' l1 y1 z1 stp hQ
  subst l1 y1 z1

  obtain ⟨⟨w, rfl, hQ⟩, hFc⟩ := hQ
  obtain ⟨s₂, o, h1, h2⟩ := hr _ _ hQ T' _ X' rfl (Fr.app hF hFc)
  exact ⟨s₂, o, stp _ h1, h2⟩
theorem w_callSN (ok : Ok Z K code own nm maxL ret) {y : MethodName} {bytes : ByteArray} {mL i : Nat} {rt : Option FieldType} {rm : Room} {Qc : Heap → Prop} {argsL : List Value}  (w1 : (Cond.methodLink own i y).before a0 Z = true) (w2 : (Cond.static y).before a0 Z = true) (wz : (Cond.initialized y.cls).before a0 Z = true) (wc : (Cond.code y bytes mL rt).before a0 Z = true) (hy : y.cls ≠ "java/lang/invoke/MethodHandle" ∧ y.cls ≠ "java/lang/invoke/VarHandle")
    (hM : ConN l Z n0 y bytes mL rt [] rm (argsL).toArray h Qc) (hd : Fet code pc pc' (.invokestatic i) 3) (hlen : ∀ sig, parseMethodDescriptor y.desc = some sig → argsL.length = sig.parameters.length) (hst : st = argsL.reverse ++ rest) (hsz : Ls.size = maxL) (hf : rm.frames + 1 ≤ R.frames) (hl : (rest.map fun v => v.category).sum + (mL + 11) + rm.locals ≤ R.locals)
    (ek : k + rm.cells = k') (en : n + rm.slots = n') (hc : k' ≤ R.cells) (hs : n' ≤ R.slots) (hr : ∀ h', Qc h' → Wp l R n0 K Q h' k' n' pc' Ls rest) : Wp l R n0 K Q h k n pc Ls st := by
  obtain ⟨p, e, s, m, args, below, meth, c⟩ := K
  obtain ⟨hx, hby, hZ, hown, hnm, hml, hret, hlk⟩ := ok
  obtain ⟨hd, rfl⟩ := hd
  intro T locs X hT hF
  subst hst ek en
  obtain ⟨v, _, ⟨T', L', k1, n1⟩, -, X', ⟨Lc, hQ, l1, y1, z1⟩, stp⟩ := Jvm.LawKit.callS X hx (y := y) hown (mvT hZ w1) (mvT hZ w2) (mvT hZ wz) (mvT hZ wc) hy (backOf (W := (rest.map fun v => v.category).sum) (Q := fun v h' L => (v = none ∧ Qc h') ∧ Fr n0 L) (as' := (argsL).toArray) (rm := rm) (bytes := bytes) (maxL := mL) (ret := rt) (h := h) (Z := Z) hM hZ wc wz hf hl) (g := mkF m pc Ls (argsL.reverse ++ rest)) rfl (hsz.trans hml.symm) (argsL := argsL) (rest := rest) hlen rfl (by show 2 * 0 + _ ≤ _; omega) (hb hby hd) (fun _ _ => ⟨rfl, hT, hc, hs⟩)
  dsimp only [Pt.U, Pt.locs, Pt.cells, Pt.slots] at X' l1 y1 z1 stp hQ
  subst l1 y1 z1

  obtain ⟨⟨rfl, hQ⟩, hFc⟩ := hQ
  obtain ⟨s₂, o, h1, h2⟩ := hr _ hQ T' _ X' rfl (Fr.app hF hFc)
  exact ⟨s₂, o, stp _ h1, h2⟩
theorem w_init (ok : Ok Z K code own nm maxL ret) {y : MethodName} {bytes : ByteArray} {mL i : Nat} {rt : Option FieldType} {rm : Room} {Qc : Heap → Prop} {argsL : List Value} {a : Addr} (hy1 : y.name = "<init>") (hrt : rt = none) (w1 : (Cond.methodLink own i y).before a0 Z = true) (w2 : (Cond.instanceMethod y).before a0 Z = true) (wz : (Cond.initialized y.cls).before a0 Z = true) (wc : (Cond.code y bytes mL rt).before a0 Z = true) (hy : y.cls ≠ "java/lang/invoke/MethodHandle" ∧ y.cls ≠ "java/lang/invoke/VarHandle")
    (hM : ConN l Z n0 y bytes mL rt [] rm (.ref a :: argsL).toArray h Qc) (hd : Fet code pc pc' (.invokespecial i) 3) (hlen : ∀ sig, parseMethodDescriptor y.desc = some sig → argsL.length = sig.parameters.length) (hst : st = argsL.reverse ++ .ref a :: rest) (hsz : Ls.size = maxL) (hf : rm.frames + 1 ≤ R.frames) (hl : (rest.map fun v => v.category).sum + (mL + 11) + rm.locals ≤ R.locals)
    (ek : k + rm.cells = k') (en : n + rm.slots = n') (hc : k' ≤ R.cells) (hs : n' ≤ R.slots) (hr : ∀ h', Qc h' → Wp l R n0 K Q h' k' n' pc' Ls rest) : Wp l R n0 K Q h k n pc Ls st := by
  obtain ⟨p, e, s, m, args, below, meth, c⟩ := K
  obtain ⟨hx, hby, hZ, hown, hnm, hml, hret, hlk⟩ := ok
  obtain ⟨hd, rfl⟩ := hd
  intro T locs X hT hF
  subst hst ek en
  subst hrt
  obtain ⟨v, _, ⟨T', L', k1, n1⟩, -, X', ⟨Lc, hQ, l1, y1, z1⟩, stp⟩ := X.specialBack hx (y := y) hy1 hown (mvT hZ w1) (mvT hZ w2) (mvT hZ wc) hy (backOf (W := (rest.map fun v => v.category).sum) (Q := fun v h' L => (v = none ∧ Qc h') ∧ Fr n0 L) (as' := (Value.ref a :: argsL).toArray) (rm := rm) (bytes := bytes) (maxL := mL) (ret := none) (h := h) (Z := Z) hM hZ wc wz hf hl) (g := mkF m pc Ls (argsL.reverse ++ .ref a :: rest)) rfl (hsz.trans hml.symm) (Steps.refl _) (a := a) (argsL := argsL) (rest := rest) hlen rfl (by show 2 * 0 + _ ≤ _; omega) (hb hby hd) (fun _ _ => ⟨rfl, hT, hc, hs⟩)
  dsimp only [Pt.U, Pt.locs, Pt.cells, Pt.slots] at X' l1 y1 z1 stp hQ
  subst l1 y1 z1

  obtain ⟨⟨rfl, hQ⟩, hFc⟩ := hQ
  obtain ⟨s₂, o, h1, h2⟩ := hr _ hQ T' _ X' rfl (Fr.app hF hFc)
  exact ⟨s₂, o, stp.trans h1, h2⟩
theorem w_virtV (ok : Ok Z K code own nm maxL ret) {y : MethodName} {bytes : ByteArray} {mL i : Nat} {rt : Option FieldType} {rm : Room} {Qc : Value → Heap → Prop} {argsL : List Value} {a : Addr} {C : String} (w1 : (Cond.methodLink own i y).before a0 Z = true) (w2 : (Cond.declares y).before a0 Z = true) (w3 : (Cond.selects C y y).before a0 Z = true) (w4 : (Cond.instanceMethod y).before a0 Z = true) (wz : (Cond.initialized y.cls).before a0 Z = true) (wc : (Cond.code y bytes mL rt).before a0 Z = true) (E : Exa Z h a C) (hy : y.cls ≠ "java/lang/invoke/MethodHandle" ∧ y.cls ≠ "java/lang/invoke/VarHandle")
    (hM : ConV l Z n0 y bytes mL rt [] rm (.ref a :: argsL).toArray h Qc) (hd : Fet code pc pc' (.invokevirtual i) 3) (hlen : ∀ sig, parseMethodDescriptor y.desc = some sig → argsL.length = sig.parameters.length) (hst : st = argsL.reverse ++ .ref a :: rest) (hsz : Ls.size = maxL) (hf : rm.frames + 1 ≤ R.frames) (hl : (rest.map fun v => v.category).sum + (mL + 11) + rm.locals ≤ R.locals)
    (ek : k + rm.cells = k') (en : n + rm.slots = n') (hc : k' ≤ R.cells) (hs : n' ≤ R.slots) (hr : ∀ w h', Qc w h' → Wp l R n0 K Q h' k' n' pc' Ls (w :: rest)) : Wp l R n0 K Q h k n pc Ls st := by
  obtain ⟨p, e, s, m, args, below, meth, c⟩ := K
  obtain ⟨hx, hby, hZ, hown, hnm, hml, hret, hlk⟩ := ok
  obtain ⟨hd, rfl⟩ := hd
  intro T locs X hT hF
  subst hst ek en
  obtain ⟨cB, kB, qa, qb, qc⟩ := isOf hZ hT E
  obtain ⟨v, _, ⟨T', L', k1, n1⟩, -, X', ⟨Lc, hQ, l1, y1, z1⟩, stp⟩ := X.virtualBack hx (y := y) (z := y) hown (mvT hZ w1) (mvT hZ w2) (notFace_of_selects (args := #[]) (mvT hZ w3)) (mvT hZ w3) (mvT hZ w4) hy (backOf (W := (rest.map fun v => v.category).sum) (Q := fun v h' L => (∃ w, v = some w ∧ Qc w h') ∧ Fr n0 L) (as' := (Value.ref a :: argsL).toArray) (rm := rm) (bytes := bytes) (maxL := mL) (ret := rt) (h := h) (Z := Z) hM hZ wc wz hf hl) qa qc (g := mkF m pc Ls (argsL.reverse ++ .ref a :: rest)) rfl (hsz.trans hml.symm) (Steps.refl _) (argsL := argsL) (rest := rest) hlen rfl (by show 2 * 0 + _ ≤ _; omega) (hb hby hd) (fun _ _ => ⟨rfl, hT, hc, hs⟩)
  dsimp only [Pt.U, Pt.locs, Pt.cells, Pt.slots] at X' l1 y1 z1 stp hQ
  subst l1 y1 z1

  obtain ⟨⟨w, rfl, hQ⟩, hFc⟩ := hQ
  obtain ⟨s₂, o, h1, h2⟩ := hr _ _ hQ T' _ X' rfl (Fr.app hF hFc)
  exact ⟨s₂, o, stp.trans h1, h2⟩
theorem w_virtN (ok : Ok Z K code own nm maxL ret) {y : MethodName} {bytes : ByteArray} {mL i : Nat} {rt : Option FieldType} {rm : Room} {Qc : Heap → Prop} {argsL : List Value} {a : Addr} {C : String} (w1 : (Cond.methodLink own i y).before a0 Z = true) (w2 : (Cond.declares y).before a0 Z = true) (w3 : (Cond.selects C y y).before a0 Z = true) (w4 : (Cond.instanceMethod y).before a0 Z = true) (wz : (Cond.initialized y.cls).before a0 Z = true) (wc : (Cond.code y bytes mL rt).before a0 Z = true) (E : Exa Z h a C) (hy : y.cls ≠ "java/lang/invoke/MethodHandle" ∧ y.cls ≠ "java/lang/invoke/VarHandle")
    (hM : ConN l Z n0 y bytes mL rt [] rm (.ref a :: argsL).toArray h Qc) (hd : Fet code pc pc' (.invokevirtual i) 3) (hlen : ∀ sig, parseMethodDescriptor y.desc = some sig → argsL.length = sig.parameters.length) (hst : st = argsL.reverse ++ .ref a :: rest) (hsz : Ls.size = maxL) (hf : rm.frames + 1 ≤ R.frames) (hl : (rest.map fun v => v.category).sum + (mL + 11) + rm.locals ≤ R.locals)
    (ek : k + rm.cells = k') (en : n + rm.slots = n') (hc : k' ≤ R.cells) (hs : n' ≤ R.slots) (hr : ∀ h', Qc h' → Wp l R n0 K Q h' k' n' pc' Ls rest) : Wp l R n0 K Q h k n pc Ls st := by
  obtain ⟨p, e, s, m, args, below, meth, c⟩ := K
  obtain ⟨hx, hby, hZ, hown, hnm, hml, hret, hlk⟩ := ok
  obtain ⟨hd, rfl⟩ := hd
  intro T locs X hT hF
  subst hst ek en
  obtain ⟨cB, kB, qa, qb, qc⟩ := isOf hZ hT E
  obtain ⟨v, _, ⟨T', L', k1, n1⟩, -, X', ⟨Lc, hQ, l1, y1, z1⟩, stp⟩ := X.virtualBack hx (y := y) (z := y) hown (mvT hZ w1) (mvT hZ w2) (notFace_of_selects (args := #[]) (mvT hZ w3)) (mvT hZ w3) (mvT hZ w4) hy (backOf (W := (rest.map fun v => v.category).sum) (Q := fun v h' L => (v = none ∧ Qc h') ∧ Fr n0 L) (as' := (Value.ref a :: argsL).toArray) (rm := rm) (bytes := bytes) (maxL := mL) (ret := rt) (h := h) (Z := Z) hM hZ wc wz hf hl) qa qc (g := mkF m pc Ls (argsL.reverse ++ .ref a :: rest)) rfl (hsz.trans hml.symm) (Steps.refl _) (argsL := argsL) (rest := rest) hlen rfl (by show 2 * 0 + _ ≤ _; omega) (hb hby hd) (fun _ _ => ⟨rfl, hT, hc, hs⟩)
  dsimp only [Pt.U, Pt.locs, Pt.cells, Pt.slots] at X' l1 y1 z1 stp hQ
  subst l1 y1 z1

  obtain ⟨⟨rfl, hQ⟩, hFc⟩ := hQ
  obtain ⟨s₂, o, h1, h2⟩ := hr _ hQ T' _ X' rfl (Fr.app hF hFc)
  exact ⟨s₂, o, stp.trans h1, h2⟩
end Rules
/-- an array of this kind with these values -/
def Ary (Z : State) (h : Heap) (a : Addr) (ty : FieldType) (vs : List Value) : Prop := ∃ c : Cell, Arr Z h a c ty ∧ c.slots.toList = vs
section AryFacts
variable {Z : State} {h h' : Heap} {a b : Addr} {ty : FieldType} {vs : List Value} {v : Value} {sl i : Nat} {ws : List Addr}
theorem Ary.lt (A : Ary Z h a ty vs) : a < h.size := by obtain ⟨c, A, -⟩ := A; exact A.lt
theorem Ary.ext (A : Ary Z h a ty vs) (E : Ext h h') : Ary Z h' a ty vs := by obtain ⟨c, A, r⟩ := A; exact ⟨c, A.ext E, r⟩
theorem Ary.other (A : Ary Z h b ty vs) (W : Wr h h' a sl v) (q : b ≠ a) : Ary Z h' b ty vs := by obtain ⟨c, A, r⟩ := A; exact ⟨c, A.other W q, r⟩
theorem Ary.keep (A : Ary Z h a ty vs) (K : Keep h h' ws) (q : a ∉ ws) : Ary Z h' a ty vs := by obtain ⟨c, A, r⟩ := A; exact ⟨c, ⟨K.2.1 a c A.1 q, A.2⟩, r⟩
theorem Ary.same (A : Ary Z h a ty vs) (W : Wr h h' a i v) : Ary Z h' a ty (vs.set i v) := by
  obtain ⟨c, A, r⟩ := A
  refine ⟨_, A.same W, ?_⟩
  rw [← r]
  simp [Cell.setSlot, Array.toList_setIfInBounds]
theorem Ary.cast {vs' : List Value} (A : Ary Z h a ty vs) (e : vs = vs') : Ary Z h a ty vs' := e ▸ A
theorem ary_new {cA : ClassId} {z : Int32} (A : Arr Z h a (newA cA ty z) ty) : Ary Z h a ty (List.replicate z.toNatClampNeg (defaultValue ty)) := ⟨_, A, by simp [newA]⟩
theorem idx_ok {i n : Nat} (hi : i < n) (hn : n < 2 ^ 31) : ¬ (Int32.ofNat i < 0 ∨ n ≤ (Int32.ofNat i).toNatClampNeg) := idx_in hi hn
theorem idx_nat {i : Nat} (hi : i < 2 ^ 31) : (Int32.ofNat i).toNatClampNeg = i := by
  have q : (Int32.ofNat i).toInt = i := Int32.toInt_ofNat_of_lt (by omega)
  simp only [Int32.toNatClampNeg, q]; omega
end AryFacts
section AryRules
variable {l : Launch} {R : Room} {n0 : Nat} {K : Cx} {Q : Option Value → Heap → Prop} {h : Heap} {k n k' n' : Nat} {pc pc' : Nat} {Ls Ls' : Array Slot} {st rest : List Value} {Z : State} {code : ByteArray} {own nm : String} {maxL : Nat} {ret : Option FieldType} {a0 : Array Value}
theorem w_arraylength (ok : Ok Z K code own nm maxL ret) {a : Addr} {ty : FieldType} {vs : List Value} (A : Ary Z h a ty vs) (hd : Fet code pc pc' .arraylength 1) (hr : Wp l R n0 K Q h k n pc' Ls (.int (Int32.ofNat vs.length) :: st)) : Wp l R n0 K Q h k n pc Ls (.ref a :: st) := by
  obtain ⟨p, e, s, m, args, below, meth, c⟩ := K
  obtain ⟨hx, hby, hZ, hown, hnm, hml, hret, hlk⟩ := ok
  obtain ⟨hd, rfl⟩ := hd
  intro T locs X hT hF
  obtain ⟨c, A, rfl⟩ := A
  obtain ⟨s₂, o, h1, h2⟩ := hr T locs X hT hF
  exact ⟨s₂, o, X.arraylength hx (by rw [hT]; exact A.1) (State.isArrayOf_alike hZ.alike A.2.1) (g := mkF m pc Ls (.ref a :: st)) rfl rfl (hb hby hd) _ (by rw [Array.length_toList] at h1; exact h1), h2⟩
theorem w_iaload (ok : Ok Z K code own nm maxL ret) {a : Addr} {i : Nat} {v : Value} {vs : List Value} (A : Ary Z h a .int vs) (hl : vs.length < 2 ^ 31) (hv : vs[i]? = some v) (hd : Fet code pc pc' .iaload 1) (hr : Wp l R n0 K Q h k n pc' Ls (v :: st)) : Wp l R n0 K Q h k n pc Ls (.int (Int32.ofNat i) :: .ref a :: st) := by
  obtain ⟨p, e, s, m, args, below, meth, c⟩ := K
  obtain ⟨hx, hby, hZ, hown, hnm, hml, hret, hlk⟩ := ok
  obtain ⟨hd, rfl⟩ := hd
  intro T locs X hT hF
  obtain ⟨c, A, rfl⟩ := A
  obtain ⟨s₂, o, h1, h2⟩ := hr T locs X hT hF
  have hi : i < c.slots.toList.length := (List.getElem?_eq_some_iff.mp hv).1
  rw [Array.length_toList] at hi hl
  exact ⟨s₂, o, X.iaload hx (j := Int32.ofNat i) (v := v) (by rw [hT]; exact A.1) (State.isArrayOf_alike hZ.alike A.2.1) A.2.2 (idx_ok hi hl) (by rw [idx_nat (Nat.lt_trans hi hl), ← hv, Array.getElem?_toList]) (g := mkF m pc Ls (.int (Int32.ofNat i) :: .ref a :: st)) rfl rfl (hb hby hd) _ h1, h2⟩
theorem w_laload (ok : Ok Z K code own nm maxL ret) {a : Addr} {i : Nat} {v : Value} {vs : List Value} (A : Ary Z h a .long vs) (hl : vs.length < 2 ^ 31) (hv : vs[i]? = some v) (hd : Fet code pc pc' .laload 1) (hr : Wp l R n0 K Q h k n pc' Ls (v :: st)) : Wp l R n0 K Q h k n pc Ls (.int (Int32.ofNat i) :: .ref a :: st) := by
  obtain ⟨p, e, s, m, args, below, meth, c⟩ := K
  obtain ⟨hx, hby, hZ, hown, hnm, hml, hret, hlk⟩ := ok
  obtain ⟨hd, rfl⟩ := hd
  intro T locs X hT hF
  obtain ⟨c, A, rfl⟩ := A
  obtain ⟨s₂, o, h1, h2⟩ := hr T locs X hT hF
  have hi : i < c.slots.toList.length := (List.getElem?_eq_some_iff.mp hv).1
  rw [Array.length_toList] at hi hl
  exact ⟨s₂, o, X.laload hx (j := Int32.ofNat i) (v := v) (by rw [hT]; exact A.1) (State.isArrayOf_alike hZ.alike A.2.1) A.2.2 (idx_ok hi hl) (by rw [idx_nat (Nat.lt_trans hi hl), ← hv, Array.getElem?_toList]) (g := mkF m pc Ls (.int (Int32.ofNat i) :: .ref a :: st)) rfl rfl (hb hby hd) _ h1, h2⟩
theorem w_caload (ok : Ok Z K code own nm maxL ret) {a : Addr} {i : Nat} {v : Value} {vs : List Value} (A : Ary Z h a .char vs) (hl : vs.length < 2 ^ 31) (hv : vs[i]? = some v) (hd : Fet code pc pc' .caload 1) (hr : Wp l R n0 K Q h k n pc' Ls (v :: st)) : Wp l R n0 K Q h k n pc Ls (.int (Int32.ofNat i) :: .ref a :: st) := by
  obtain ⟨p, e, s, m, args, below, meth, c⟩ := K
  obtain ⟨hx, hby, hZ, hown, hnm, hml, hret, hlk⟩ := ok
  obtain ⟨hd, rfl⟩ := hd
  intro T locs X hT hF
  obtain ⟨c, A, rfl⟩ := A
  obtain ⟨s₂, o, h1, h2⟩ := hr T locs X hT hF
  have hi : i < c.slots.toList.length := (List.getElem?_eq_some_iff.mp hv).1
  rw [Array.length_toList] at hi hl
  exact ⟨s₂, o, X.caload hx (j := Int32.ofNat i) (v := v) (by rw [hT]; exact A.1) (State.isArrayOf_alike hZ.alike A.2.1) A.2.2 (idx_ok hi hl) (by rw [idx_nat (Nat.lt_trans hi hl), ← hv, Array.getElem?_toList]) (g := mkF m pc Ls (.int (Int32.ofNat i) :: .ref a :: st)) rfl rfl (hb hby hd) _ h1, h2⟩
theorem w_baloadB (ok : Ok Z K code own nm maxL ret) {a : Addr} {i : Nat} {v : Value} {vs : List Value} (A : Ary Z h a .byte vs) (hl : vs.length < 2 ^ 31) (hv : vs[i]? = some v) (hd : Fet code pc pc' .baload 1) (hr : Wp l R n0 K Q h k n pc' Ls (v :: st)) : Wp l R n0 K Q h k n pc Ls (.int (Int32.ofNat i) :: .ref a :: st) := by
  obtain ⟨p, e, s, m, args, below, meth, c⟩ := K
  obtain ⟨hx, hby, hZ, hown, hnm, hml, hret, hlk⟩ := ok
  obtain ⟨hd, rfl⟩ := hd
  intro T locs X hT hF
  obtain ⟨c, A, rfl⟩ := A
  obtain ⟨s₂, o, h1, h2⟩ := hr T locs X hT hF
  have hi : i < c.slots.toList.length := (List.getElem?_eq_some_iff.mp hv).1
  rw [Array.length_toList] at hi hl
  exact ⟨s₂, o, X.baloadBytes hx (j := Int32.ofNat i) (v := v) (by rw [hT]; exact A.1) (State.isArrayOf_alike hZ.alike A.2.1) A.2.2 (idx_ok hi hl) (by rw [idx_nat (Nat.lt_trans hi hl), ← hv, Array.getElem?_toList]) (g := mkF m pc Ls (.int (Int32.ofNat i) :: .ref a :: st)) rfl rfl (hb hby hd) _ h1, h2⟩
theorem w_baloadZ (ok : Ok Z K code own nm maxL ret) {a : Addr} {i : Nat} {v : Value} {vs : List Value} (A : Ary Z h a .boolean vs) (hl : vs.length < 2 ^ 31) (hv : vs[i]? = some v) (hd : Fet code pc pc' .baload 1) (hr : Wp l R n0 K Q h k n pc' Ls (v :: st)) : Wp l R n0 K Q h k n pc Ls (.int (Int32.ofNat i) :: .ref a :: st) := by
  obtain ⟨p, e, s, m, args, below, meth, c⟩ := K
  obtain ⟨hx, hby, hZ, hown, hnm, hml, hret, hlk⟩ := ok
  obtain ⟨hd, rfl⟩ := hd
  intro T locs X hT hF
  obtain ⟨c, A, rfl⟩ := A
  obtain ⟨s₂, o, h1, h2⟩ := hr T locs X hT hF
  have hi : i < c.slots.toList.length := (List.getElem?_eq_some_iff.mp hv).1
  rw [Array.length_toList] at hi hl
  exact ⟨s₂, o, X.baloadBooleans hx (j := Int32.ofNat i) (v := v) (by rw [hT]; exact A.1) (State.isArrayOf_alike hZ.alike A.2.1) A.2.2 (idx_ok hi hl) (by rw [idx_nat (Nat.lt_trans hi hl), ← hv, Array.getElem?_toList]) (g := mkF m pc Ls (.int (Int32.ofNat i) :: .ref a :: st)) rfl rfl (hb hby hd) _ h1, h2⟩
theorem w_iastore' (ok : Ok Z K code own nm maxL ret) {a : Addr} {i : Nat} {x : Int32} {vs : List Value} (A : Ary Z h a .int vs) (hl : vs.length < 2 ^ 31) (hi : i < vs.length) (ha : n0 ≤ a) (hd : Fet code pc pc' .iastore 1)
    (hr : ∀ h', Wr h h' a i (.int x) → Ary Z h' a .int (vs.set i (.int x)) → Wp l R n0 K Q h' k n pc' Ls st) : Wp l R n0 K Q h k n pc Ls ((.int x) :: .int (Int32.ofNat i) :: .ref a :: st) := by
  have A0 := A
  obtain ⟨c, A, rfl⟩ := A
  rw [Array.length_toList] at hi hl
  refine w_iastore ok A (idx_ok hi hl) ha hd (fun h' W => ?_)
  rw [idx_nat (Nat.lt_trans hi hl)] at W
  exact hr h' W (A0.same W)
theorem w_lastore' (ok : Ok Z K code own nm maxL ret) {a : Addr} {i : Nat} {x : Int64} {vs : List Value} (A : Ary Z h a .long vs) (hl : vs.length < 2 ^ 31) (hi : i < vs.length) (ha : n0 ≤ a) (hd : Fet code pc pc' .lastore 1)
    (hr : ∀ h', Wr h h' a i (.long x) → Ary Z h' a .long (vs.set i (.long x)) → Wp l R n0 K Q h' k n pc' Ls st) : Wp l R n0 K Q h k n pc Ls ((.long x) :: .int (Int32.ofNat i) :: .ref a :: st) := by
  have A0 := A
  obtain ⟨c, A, rfl⟩ := A
  rw [Array.length_toList] at hi hl
  refine w_lastore ok A (idx_ok hi hl) ha hd (fun h' W => ?_)
  rw [idx_nat (Nat.lt_trans hi hl)] at W
  exact hr h' W (A0.same W)
theorem w_bastoreB' (ok : Ok Z K code own nm maxL ret) {a : Addr} {i : Nat} {x : Int32} {vs : List Value} (A : Ary Z h a .byte vs) (hl : vs.length < 2 ^ 31) (hi : i < vs.length) (ha : n0 ≤ a) (hd : Fet code pc pc' .bastore 1)
    (hr : ∀ h', Wr h h' a i (.int (nar .byte x)) → Ary Z h' a .byte (vs.set i (.int (nar .byte x))) → Wp l R n0 K Q h' k n pc' Ls st) : Wp l R n0 K Q h k n pc Ls ((.int x) :: .int (Int32.ofNat i) :: .ref a :: st) := by
  have A0 := A
  obtain ⟨c, A, rfl⟩ := A
  rw [Array.length_toList] at hi hl
  refine w_bastoreB ok A (idx_ok hi hl) ha hd (fun h' W => ?_)
  rw [idx_nat (Nat.lt_trans hi hl)] at W
  exact hr h' W (A0.same W)
theorem w_bastoreZ' (ok : Ok Z K code own nm maxL ret) {a : Addr} {i : Nat} {x : Int32} {vs : List Value} (A : Ary Z h a .boolean vs) (hl : vs.length < 2 ^ 31) (hi : i < vs.length) (ha : n0 ≤ a) (hd : Fet code pc pc' .bastore 1)
    (hr : ∀ h', Wr h h' a i (.int (nar .boolean x)) → Ary Z h' a .boolean (vs.set i (.int (nar .boolean x))) → Wp l R n0 K Q h' k n pc' Ls st) : Wp l R n0 K Q h k n pc Ls ((.int x) :: .int (Int32.ofNat i) :: .ref a :: st) := by
  have A0 := A
  obtain ⟨c, A, rfl⟩ := A
  rw [Array.length_toList] at hi hl
  refine w_bastoreZ ok A (idx_ok hi hl) ha hd (fun h' W => ?_)
  rw [idx_nat (Nat.lt_trans hi hl)] at W
  exact hr h' W (A0.same W)
theorem w_castore' (ok : Ok Z K code own nm maxL ret) {a : Addr} {i : Nat} {x : Int32} {vs : List Value} (A : Ary Z h a .char vs) (hl : vs.length < 2 ^ 31) (hi : i < vs.length) (ha : n0 ≤ a) (hd : Fet code pc pc' .castore 1)
    (hr : ∀ h', Wr h h' a i (.int (nar .char x)) → Ary Z h' a .char (vs.set i (.int (nar .char x))) → Wp l R n0 K Q h' k n pc' Ls st) : Wp l R n0 K Q h k n pc Ls ((.int x) :: .int (Int32.ofNat i) :: .ref a :: st) := by
  have A0 := A
  obtain ⟨c, A, rfl⟩ := A
  rw [Array.length_toList] at hi hl
  refine w_castore ok A (idx_ok hi hl) ha hd (fun h' W => ?_)
  rw [idx_nat (Nat.lt_trans hi hl)] at W
  exact hr h' W (A0.same W)
/-- an array of references over the class C, with these values -/
def AryR (Z : State) (h : Heap) (a : Addr) (C : String) (vs : List Value) : Prop := ∃ c : Cell, Arr Z h a c (.object C) ∧ Ovr Z c.cls C ∧ c.slots.toList = vs
theorem AryR.lt {a : Addr} {C : String} {vs : List Value} (A : AryR Z h a C vs) : a < h.size := by obtain ⟨c, A, -⟩ := A; exact A.lt
theorem AryR.ext {h' : Heap} {a : Addr} {C : String} {vs : List Value} (A : AryR Z h a C vs) (E : Ext h h') : AryR Z h' a C vs := by obtain ⟨c, A, r⟩ := A; exact ⟨c, A.ext E, r⟩
theorem AryR.other {h' : Heap} {a b : Addr} {C : String} {vs : List Value} {sl : Nat} {v : Value} (A : AryR Z h b C vs) (W : Wr h h' a sl v) (q : b ≠ a) : AryR Z h' b C vs := by obtain ⟨c, A, r⟩ := A; exact ⟨c, A.other W q, r⟩
theorem AryR.keep {h' : Heap} {a : Addr} {C : String} {vs : List Value} {ws : List Addr} (A : AryR Z h a C vs) (K : Keep h h' ws) (q : a ∉ ws) : AryR Z h' a C vs := by obtain ⟨c, A, r⟩ := A; exact ⟨c, ⟨K.2.1 a c A.1 q, A.2⟩, r⟩
theorem AryR.same {h' : Heap} {a : Addr} {C : String} {vs : List Value} {i : Nat} {v : Value} (A : AryR Z h a C vs) (W : Wr h h' a i v) : AryR Z h' a C (vs.set i v) := by
  obtain ⟨c, A, O, r⟩ := A
  refine ⟨_, A.same W, O, ?_⟩
  rw [← r]
  simp [Cell.setSlot, Array.toList_setIfInBounds]
theorem AryR.len {a : Addr} {C : String} {vs : List Value} (A : AryR Z h a C vs) : Ary Z h a (.object C) vs := by obtain ⟨c, A, -, r⟩ := A; exact ⟨c, A, r⟩
theorem w_anewarray (ok : Ok Z K code own nm maxL ret) {C : String} {i : Nat} {z : Int32} {cap : Nat} (w1 : (Cond.classLink own i C).before a0 Z = true) (w2 : (Cond.arrayOver (.object C)).before a0 Z = true) (hd : Fet code pc pc' (.anewarray i) 3) (hz : ¬ z < 0) (hcap : z.toNatClampNeg ≤ cap) (hb8 : cap * 8 ≤ 536870912) (ek : k + 1 = k') (en : n + cap = n') (hc : k' ≤ R.cells) (hl : n' ≤ R.slots)
    (hr : ∀ h' b, b = h.size → Ext h h' → AryR Z h' b C (List.replicate z.toNatClampNeg .null) → Wp l R n0 K Q h' k' n' pc' Ls (.ref b :: st)) : Wp l R n0 K Q h k n pc Ls (.int z :: st) := by
  obtain ⟨p, e, s, m, args, below, meth, c⟩ := K
  obtain ⟨hx, hby, hZ, hown, hnm, hml, hret, hlk⟩ := ok
  obtain ⟨hd, rfl⟩ := hd
  intro T locs X hT hF
  subst ek en
  obtain ⟨T', h', cA, X', e', E', A', O', stp⟩ := newR X hx hZ hown w1 w2 hT (g := mkF m pc Ls (.int z :: st)) rfl (hb hby hd) rfl hz hcap hb8 hc hl
  obtain ⟨s₂, o, h1, h2⟩ := hr h' _ rfl E' ⟨_, A', O', by simp [newA, defaultValue]⟩ T' _ X' e' hF
  exact ⟨s₂, o, stp _ h1, h2⟩
theorem w_aastore (ok : Ok Z K code own nm maxL ret) {C : String} {a : Addr} {i : Nat} {v : Value} {vs : List Value} (A : AryR Z h a C vs) (hl : vs.length < 2 ^ 31) (hi : i < vs.length) (ha : n0 ≤ a) (hv : v = .null ∨ ∃ y, v = .ref y ∧ Ins Z h y C true) (hd : Fet code pc pc' .aastore 1)
    (hr : ∀ h', Wr h h' a i v → AryR Z h' a C (vs.set i v) → Wp l R n0 K Q h' k n pc' Ls st) : Wp l R n0 K Q h k n pc Ls (v :: .int (Int32.ofNat i) :: .ref a :: st) := by
  replace hr : ∀ h', Wr h h' a (Int32.ofNat i).toNatClampNeg v → Wp l R n0 K Q h' k n pc' Ls st := fun h' W => by
    rw [idx_nat (Nat.lt_trans hi hl)] at W
    exact hr h' W (A.same W)
  obtain ⟨p, e, s, m, args, below, meth, c⟩ := K
  obtain ⟨hx, hby, hZ, hown, hnm, hml, hret, hlk⟩ := ok
  obtain ⟨hd, rfl⟩ := hd
  intro T locs X hT hF
  obtain ⟨c, A, O, rfl⟩ := A
  rw [Array.length_toList] at hi hl
  have S : Sto Z h a v := by
    rcases hv with rfl | ⟨y, rfl, I⟩
    · exact Or.inl rfl
    · exact Sto.of A O I
  obtain ⟨T', h', X', e', W', stp⟩ := stR X hx hZ hT A (j := Int32.ofNat i) (idx_ok hi hl) rfl S (g := mkF m pc Ls (v :: .int (Int32.ofNat i) :: .ref a :: st)) rfl rfl (hb hby hd)
  obtain ⟨s₂, o, h1, h2⟩ := hr h' W' T' _ X' e' (Fr.snoc X' hF ha)
  exact ⟨s₂, o, stp _ h1, h2⟩
theorem w_aaloadR (ok : Ok Z K code own nm maxL ret) {C : String} {a : Addr} {i : Nat} {v : Value} {vs : List Value} (A : AryR Z h a C vs) (hl : vs.length < 2 ^ 31) (hv : vs[i]? = some v) (hd : Fet code pc pc' .aaload 1) (hr : Wp l R n0 K Q h k n pc' Ls (v :: st)) : Wp l R n0 K Q h k n pc Ls (.int (Int32.ofNat i) :: .ref a :: st) := by
  obtain ⟨p, e, s, m, args, below, meth, c⟩ := K
  obtain ⟨hx, hby, hZ, hown, hnm, hml, hret, hlk⟩ := ok
  obtain ⟨hd, rfl⟩ := hd
  intro T locs X hT hF
  obtain ⟨c, A, O, rfl⟩ := A
  obtain ⟨s₂, o, h1, h2⟩ := hr T locs X hT hF
  have hi : i < c.slots.toList.length := (List.getElem?_eq_some_iff.mp hv).1
  rw [Array.length_toList] at hi hl
  exact ⟨s₂, o, X.aaload hx (j := Int32.ofNat i) (v := v) (by rw [hT]; exact A.1) (State.isArrayOf_alike hZ.alike A.2.1) rfl A.2.2 (idx_ok hi hl) (by rw [idx_nat (Nat.lt_trans hi hl), ← hv, Array.getElem?_toList]) (g := mkF m pc Ls (.int (Int32.ofNat i) :: .ref a :: st)) rfl rfl (hb hby hd) _ h1, h2⟩
theorem w_newarrayE (ok : Ok Z K code own nm maxL ret) {aty : ArrayType} {z : Int32} {cap : Nat} {ad : String} (had : "[" ++ (newarray.typeOf aty).toString = ad) (w : (Cond.arrayClass (newarray.typeOf aty)).before a0 Z = true) (hd : Fet code pc pc' (.newarray aty) 2) (hz : ¬ z < 0) (hcap : z.toNatClampNeg ≤ cap) (hb8 : cap * 8 ≤ 536870912) (ek : k + 1 = k') (en : n + cap = n') (hc : k' ≤ R.cells) (hl : n' ≤ R.slots)
    (hr : ∀ h' b cA, b = h.size → Ext h h' → Arr Z h' b (newA cA (newarray.typeOf aty) z) (newarray.typeOf aty) → Exa Z h' b ad → Wp l R n0 K Q h' k' n' pc' Ls (.ref b :: st)) : Wp l R n0 K Q h k n pc Ls (.int z :: st) := by
  obtain ⟨p, e, s, m, args, below, meth, c⟩ := K
  obtain ⟨hx, hby, hZ, hown, hnm, hml, hret, hlk⟩ := ok
  obtain ⟨hd, rfl⟩ := hd
  intro T locs X hT hF
  subst ek en
  obtain ⟨T', h', cA, X', e', E', A', G', stp⟩ := newPE X hx hZ w hT (g := mkF m pc Ls (.int z :: st)) rfl (hb hby hd) rfl hz hcap hb8 hc hl had
  obtain ⟨s₂, o, h1, h2⟩ := hr h' _ cA rfl E' A' G' T' _ X' e' hF
  exact ⟨s₂, o, stp _ h1, h2⟩
theorem w_aaload (ok : Ok Z K code own nm maxL ret) {a : Addr} {cl : Cell} {j : Int32} {v : Value} {ty : FieldType} (A : Arr Z h a cl ty) (hty : ty.isReference = true) (hj : ¬ (j < 0 ∨ cl.slots.size ≤ j.toNatClampNeg)) (hv : cl.slots[j.toNatClampNeg]? = some v) (hd : Fet code pc pc' .aaload 1) (hr : Wp l R n0 K Q h k n pc' Ls (v :: st)) : Wp l R n0 K Q h k n pc Ls (.int j :: .ref a :: st) := by
  obtain ⟨p, e, s, m, args, below, meth, c⟩ := K
  obtain ⟨hx, hby, hZ, hown, hnm, hml, hret, hlk⟩ := ok
  obtain ⟨hd, rfl⟩ := hd
  intro T locs X hT hF
  obtain ⟨s₂, o, h1, h2⟩ := hr T locs X hT hF
  exact ⟨s₂, o, X.aaload hx (j := j) (v := v) (by rw [hT]; exact A.1) (State.isArrayOf_alike hZ.alike A.2.1) hty A.2.2 hj hv (g := mkF m pc Ls (.int j :: .ref a :: st)) rfl rfl (hb hby hd) _ h1, h2⟩
theorem w_checkcast (ok : Ok Z K code own nm maxL ret) {C : String} {i : Nat} {a : Addr} (w : (Cond.classLink own i C).before a0 Z = true) (F : Ins Z h a C true) (hd : Fet code pc pc' (.checkcast i) 3) (hr : Wp l R n0 K Q h k n pc' Ls (.ref a :: st)) : Wp l R n0 K Q h k n pc Ls (.ref a :: st) := by
  obtain ⟨p, e, s, m, args, below, meth, c⟩ := K
  obtain ⟨hx, hby, hZ, hown, hnm, hml, hret, hlk⟩ := ok
  obtain ⟨hd, rfl⟩ := hd
  intro T locs X hT hF
  obtain ⟨T', X', e', stp⟩ := castY X hx hZ hown w hT F (g := mkF m pc Ls (.ref a :: st)) rfl rfl (hb hby hd)
  obtain ⟨s₂, o, h1, h2⟩ := hr T' locs X' e' hF
  exact ⟨s₂, o, stp _ h1, h2⟩
theorem w_checkcastNull (ok : Ok Z K code own nm maxL ret) {i : Nat} (hd : Fet code pc pc' (.checkcast i) 3) (hr : Wp l R n0 K Q h k n pc' Ls (.null :: st)) : Wp l R n0 K Q h k n pc Ls (.null :: st) := by
  obtain ⟨p, e, s, m, args, below, meth, c⟩ := K
  obtain ⟨hx, hby, hZ, hown, hnm, hml, hret, hlk⟩ := ok
  obtain ⟨hd, rfl⟩ := hd
  intro T locs X hT hF
  obtain ⟨s₂, o, h1, h2⟩ := hr T locs X hT hF
  exact ⟨s₂, o, X.checkcastNull hx (g := mkF m pc Ls (.null :: st)) rfl rfl (hb hby hd) _ h1, h2⟩
theorem w_instanceof (ok : Ok Z K code own nm maxL ret) {C : String} {i : Nat} {a : Addr} (w : (Cond.classLink own i C).before a0 Z = true) (F : Ins Z h a C true) (hd : Fet code pc pc' (.instanceof i) 3) (hr : Wp l R n0 K Q h k n pc' Ls (.int 1 :: st)) : Wp l R n0 K Q h k n pc Ls (.ref a :: st) := by
  obtain ⟨p, e, s, m, args, below, meth, c⟩ := K
  obtain ⟨hx, hby, hZ, hown, hnm, hml, hret, hlk⟩ := ok
  obtain ⟨hd, rfl⟩ := hd
  intro T locs X hT hF
  obtain ⟨T', X', e', stp⟩ := instY X hx hZ hown w hT F (g := mkF m pc Ls (.ref a :: st)) rfl rfl (hb hby hd)
  obtain ⟨s₂, o, h1, h2⟩ := hr T' locs X' e' hF
  exact ⟨s₂, o, stp _ h1, h2⟩
theorem sta_keep0 {h' : Heap} {C f d : String} {v : Value} (F : Sta Z h C f d v) (K : Keep h h' []) : Sta Z h' C f d v := by
  obtain ⟨cf, i, k, f, st, cell, h1, h2, h3, h4, h5, r⟩ := F
  exact ⟨cf, i, k, f, st, cell, h1, h2, h3, h4, K.2.1 _ _ h5 (fun q => nomatch q), r⟩

end AryRules
end Jvm.WpK
namespace Jvm.Pilot.@@N@@
open Jvm Jvm.ClassFile Sem Op Lib Jvm.Free Jvm.Stand Jvm.LawKit Jvm.RoadKit Jvm.WpK Bundle Jvm.Pilot.@@N@@.Jvm.D
theorem own_m255 (e : Int32) : ¬ (255 : Int32) < e &&& 255 := by
  have h1 : (e &&& 255).toBitVec.toNat ≤ 255 := by
    rw [Int32.toBitVec_and, BitVec.toNat_and]
    exact Nat.le_trans Nat.and_le_right (by decide)
  have e3 : (e &&& 255).toInt = ((e &&& 255).toBitVec.toNat : Int) := BitVec.toInt_eq_toNat_of_lt (by omega)
  rw [Int32.lt_iff_toInt_lt, e3, show (255 : Int32).toInt = 255 by decide]
  omega
theorem own_char (e : Int32) : nar .char (e &&& 255) = e &&& 255 := i2c_mask e
theorem own_cast {Z : State} {h : Heap} {a : Addr} {C K : String} {a0 : Array Value} (E : Exa Z h a C) (w : (Cond.castable C K).before a0 Z = true) : Ins Z h a K true := Ins.of_exa E w
theorem own_x32 {x : Int64} (h1 : ¬ x < -128) (h2 : ¬ (127 : Int64) < x) : x.toInt32.toInt = x.toInt ∧ -128 ≤ x.toInt ∧ x.toInt ≤ 127 := by
  rw [Int64.lt_iff_toInt_lt] at h1 h2
  rw [show (-128 : Int64).toInt = -128 by decide] at h1
  rw [show (127 : Int64).toInt = 127 by decide] at h2
  refine ⟨?_, by omega, by omega⟩
  rw [Int64.toInt_toInt32]
  exact Int.bmod_eq_of_le (by omega) (by omega)
theorem own_in {x : Int64} (h1 : ¬ x < -128) (h2 : ¬ (127 : Int64) < x) : ¬ (x.toInt32 + 128 < 0 ∨ (256 : Int32).toNatClampNeg ≤ (x.toInt32 + 128).toNatClampNeg) := by
  obtain ⟨e1, l1, l2⟩ := own_x32 h1 h2
  have e : (x.toInt32 + 128).toInt = x.toInt + 128 := by
    rw [Int32.toInt_add, e1, show (128 : Int32).toInt = 128 by decide]
    exact Int.bmod_eq_of_le (by omega) (by omega)
  have z : (256 : Int32).toNatClampNeg = 256 := by decide
  rw [Int32.lt_iff_toInt_lt, z, show (0 : Int32).toInt = 0 by decide, Int32.toNatClampNeg, e]
  omega
theorem own_back {x : Int64} (h1 : ¬ x < -128) (h2 : ¬ (127 : Int64) < x) : (x.toInt32 + 128 - 128).toInt64 = x := by
  obtain ⟨e1, l1, l2⟩ := own_x32 h1 h2
  have e2 : x.toInt32 + 128 - 128 = x.toInt32 := by
    apply Int32.toBitVec_inj.mp
    simp only [Int32.toBitVec_add, Int32.toBitVec_sub]
    bv_omega
  apply Int64.toInt_inj.mp
  rw [e2, Int32.toInt_toInt64, e1]
theorem own_len {args : Array Value} {s : State} {t : Term} {a : Addr} {c : Cell} {v : Value} (ev : t.eval args s none [] s = some (.ref a)) (ha : s.arrayAt? a = some c) (h : (Term.length t).eval args s none [] s = some v) : c.slots.size < 2 ^ 31 := by
  by_cases q : c.slots.size < 2 ^ 31
  · exact q
  · simp [Term.eval, ev, ha] at h
    omega
theorem own_idx {args : Array Value} {s : State} {j : Int32} (hj : ¬ j < 0) : (Term.sub (Term.index 0) (Term.int 128)).eval args s none [j.toNatClampNeg] s = some (.int (j - 128)) := by
  have e : (Term.sub (Term.index 0) (Term.int 128)).eval args s none [j.toNatClampNeg] s = some (.int (j.toNatClampNeg.toInt32 - 128)) := by simp [Term.eval]
  rw [e, (back32 hj).1]
theorem own_nea {Z : State} {h : Heap} {a b : Addr} {C K : String} {vs : List Value} {k : Nat} {a0 : Array Value} (E : Exa Z h a C) (wi : (Cond.instantiable C k).before a0 Z = true) (A : AryR Z h b K vs) : a ≠ b := by
  obtain ⟨c, A, -⟩ := A
  exact ne_arr E wi A
theorem dA_0 : Fet jdk_52_method_21_code 0 1 (.iconst 0) 1 := ⟨by decide +kernel, rfl⟩
theorem dA_1 : Fet jdk_52_method_21_code 1 3 (.istore 5) 2 := ⟨by decide +kernel, rfl⟩
theorem dA_3 : Fet jdk_52_method_21_code 3 5 (.iload 5) 2 := ⟨by decide +kernel, rfl⟩
theorem dA_5 : Fet jdk_52_method_21_code 5 7 (.iload 4) 2 := ⟨by decide +kernel, rfl⟩
theorem dA_7 : Brn jdk_52_method_21_code 7 10 44 (.if_icmp .ge 37) 37 := ⟨by decide +kernel, rfl, by decide, by decide⟩
theorem dA_10 : Fet jdk_52_method_21_code 10 11 (.aload_n 0) 1 := ⟨by decide +kernel, rfl⟩
theorem dA_11 : Fet jdk_52_method_21_code 11 12 (.iload_n 1) 1 := ⟨by decide +kernel, rfl⟩
theorem dA_12 : Fet jdk_52_method_21_code 12 13 (.caload) 1 := ⟨by decide +kernel, rfl⟩
theorem dA_13 : Fet jdk_52_method_21_code 13 15 (.istore 6) 2 := ⟨by decide +kernel, rfl⟩
theorem dA_15 : Fet jdk_52_method_21_code 15 17 (.iload 6) 2 := ⟨by decide +kernel, rfl⟩
theorem dA_17 : Fet jdk_52_method_21_code 17 20 (.sipush 255) 3 := ⟨by decide +kernel, rfl⟩
theorem dA_20 : Brn jdk_52_method_21_code 20 23 26 (.if_icmp .le 6) 6 := ⟨by decide +kernel, rfl, by decide, by decide⟩
theorem dA_26 : Fet jdk_52_method_21_code 26 27 (.aload_n 2) 1 := ⟨by decide +kernel, rfl⟩
theorem dA_27 : Fet jdk_52_method_21_code 27 28 (.iload_n 3) 1 := ⟨by decide +kernel, rfl⟩
theorem dA_28 : Fet jdk_52_method_21_code 28 30 (.iload 6) 2 := ⟨by decide +kernel, rfl⟩
theorem dA_30 : Fet jdk_52_method_21_code 30 31 (.i2b) 1 := ⟨by decide +kernel, rfl⟩
theorem dA_31 : Fet jdk_52_method_21_code 31 32 (.bastore) 1 := ⟨by decide +kernel, rfl⟩
theorem dA_32 : Fet jdk_52_method_21_code 32 35 (.iinc 1 1) 3 := ⟨by decide +kernel, rfl⟩
theorem dA_35 : Fet jdk_52_method_21_code 35 38 (.iinc 3 1) 3 := ⟨by decide +kernel, rfl⟩
theorem dA_38 : Fet jdk_52_method_21_code 38 41 (.iinc 5 1) 3 := ⟨by decide +kernel, rfl⟩
theorem dA_41 : Brn jdk_52_method_21_code 41 44 3 (.goto (-38)) (-38) := ⟨by decide +kernel, rfl, by decide, by decide⟩
theorem dA_44 : Fet jdk_52_method_21_code 44 46 (.iload 4) 2 := ⟨by decide +kernel, rfl⟩
theorem dA_46 : Fet jdk_52_method_21_code 46 47 (.ireturn) 1 := ⟨by decide +kernel, rfl⟩
theorem pn_java_lang_StringUTF16 : plainName "java/lang/StringUTF16" = true := by first | (simp [plainName, overriddenIn]; done) | decide +kernel
set_option maxRecDepth 65536 in
set_option maxHeartbeats 4000000 in
theorem rmA (l : Launch) (Z : State) (a0 : Array Value) (hw : ∀ d ∈ tables_1, d.before a0 Z = true) (n0 : Nat) (ac ab : Addr) (c : Int32) (h : Heap) (Z0 : n0 ≤ h.size) (gn_ab : n0 ≤ ab) (Ac : Ary Z h ac .char [.int c]) (Ab : Ary Z h ab .byte [.int (0 : Int32)]) (ne : ac ≠ ab) (hc : ¬ (255 : Int32) < c) :
    ConV l Z n0 (⟨"java/lang/StringUTF16", "compress", "([CI[BII)I"⟩ : MethodName) jdk_52_method_21_code 7 (some .int) [] ({ frames := 0, cells := 0, slots := 0, locals := 0 } : Room) #[(.ref ac), (.int (0 : Int32)), (.ref ab), (.int (0 : Int32)), (.int (1 : Int32))] h (fun w h' => w = .int 1 ∧ Keep h h' [ab] ∧ ∃ v, Ary Z h' ab .byte [v]) := by
  refine con_of_wp (Ls := #[.val (.ref ac), .val (.int (0 : Int32)), .val (.ref ab), .val (.int (0 : Int32)), .val (.int (1 : Int32)), .unset, .unset]) (plainFor_of_name pn_java_lang_StringUTF16) (fun m => by first | (simp [entryFrame, mkF, argsToLocals, Value.category]; done) | rfl) ?_
  intro K ok
  replace ok : Ok Z K jdk_52_method_21_code "java/lang/StringUTF16" "compress" 7 (some .int) := ok
  show Wp l ({ frames := 0, cells := 0, slots := 0, locals := 0 } : Room) n0 K (fun v h' => ∃ w, v = some w ∧ w = .int 1 ∧ Keep h h' [ab] ∧ ∃ v, Ary Z h' ab .byte [v]) h 0 0 0 #[.val (.ref ac), .val (.int (0 : Int32)), .val (.ref ab), .val (.int (0 : Int32)), .val (.int (1 : Int32)), .unset, .unset] []
  have Kp : Keep h h [ab] := Keep.refl _ _
  refine w_iconst ok (z := 0) dA_0 rfl ?_
  refine w_istore ok (Ls' := #[.val (.ref ac), .val (.int (0 : Int32)), .val (.ref ab), .val (.int (0 : Int32)), .val (.int (1 : Int32)), .val (.int (0 : Int32)), .unset]) dA_1 rfl ?_
  refine w_iload ok dA_3 rfl ?_
  refine w_iload ok dA_5 rfl ?_
  refine w_ic_ge ok dA_7 (fun q => absurd (by decide) q) (fun _ => ?_)
  refine w_aloadN ok dA_10 rfl rfl ?_
  refine w_iloadN ok dA_11 rfl ?_
  refine w_caload ok (i := 0) Ac (Nat.le_of_ble_eq_true rfl) rfl dA_12 ?_
  refine w_istore ok (Ls' := #[.val (.ref ac), .val (.int (0 : Int32)), .val (.ref ab), .val (.int (0 : Int32)), .val (.int (1 : Int32)), .val (.int (0 : Int32)), .val (.int c)]) dA_13 rfl ?_
  refine w_iload ok dA_15 rfl ?_
  refine w_sipush ok (z := 255) dA_17 rfl ?_
  refine w_ic_le ok dA_20 (fun q => ?_) (fun q => ?_)
  · refine w_aloadN ok dA_26 rfl rfl ?_
    refine w_iloadN ok dA_27 rfl ?_
    refine w_iload ok dA_28 rfl ?_
    refine w_i2b ok dA_30 ?_
    refine w_bastoreB' ok (i := 0) Ab (Nat.le_of_ble_eq_true rfl) (Nat.le_of_ble_eq_true rfl) gn_ab dA_31 (fun h1 W1 Ab => ?_)
    have Ac := Ac.other W1 ne
    have Z0 := Nat.le_trans Z0 (Keep.of_wr W1).1
    have Kp := Kp.wr W1 (Or.inl (List.mem_of_getElem? (i := 0) rfl))
    replace Ab : Ary Z h1 ab .byte [(.int (nar .byte (c.toInt8.toInt32)))] := Ab
    refine w_iinc ok (Ls' := #[.val (.ref ac), .val (.int ((0 : Int32) + (1 : Int32))), .val (.ref ab), .val (.int (0 : Int32)), .val (.int (1 : Int32)), .val (.int (0 : Int32)), .val (.int c)]) dA_32 rfl rfl ?_
    show Wp l ({ frames := 0, cells := 0, slots := 0, locals := 0 } : Room) n0 K (fun v h' => ∃ w, v = some w ∧ w = .int 1 ∧ Keep h h' [ab] ∧ ∃ v, Ary Z h' ab .byte [v]) h1 0 0 35 #[.val (.ref ac), .val (.int (1 : Int32)), .val (.ref ab), .val (.int (0 : Int32)), .val (.int (1 : Int32)), .val (.int (0 : Int32)), .val (.int c)] []
    refine w_iinc ok (Ls' := #[.val (.ref ac), .val (.int (1 : Int32)), .val (.ref ab), .val (.int ((0 : Int32) + (1 : Int32))), .val (.int (1 : Int32)), .val (.int (0 : Int32)), .val (.int c)]) dA_35 rfl rfl ?_
    show Wp l ({ frames := 0, cells := 0, slots := 0, locals := 0 } : Room) n0 K (fun v h' => ∃ w, v = some w ∧ w = .int 1 ∧ Keep h h' [ab] ∧ ∃ v, Ary Z h' ab .byte [v]) h1 0 0 38 #[.val (.ref ac), .val (.int (1 : Int32)), .val (.ref ab), .val (.int (1 : Int32)), .val (.int (1 : Int32)), .val (.int (0 : Int32)), .val (.int c)] []
    refine w_iinc ok (Ls' := #[.val (.ref ac), .val (.int (1 : Int32)), .val (.ref ab), .val (.int (1 : Int32)), .val (.int (1 : Int32)), .val (.int ((0 : Int32) + (1 : Int32))), .val (.int c)]) dA_38 rfl rfl ?_
    show Wp l ({ frames := 0, cells := 0, slots := 0, locals := 0 } : Room) n0 K (fun v h' => ∃ w, v = some w ∧ w = .int 1 ∧ Keep h h' [ab] ∧ ∃ v, Ary Z h' ab .byte [v]) h1 0 0 41 #[.val (.ref ac), .val (.int (1 : Int32)), .val (.ref ab), .val (.int (1 : Int32)), .val (.int (1 : Int32)), .val (.int (1 : Int32)), .val (.int c)] []
    refine w_goto ok dA_41 ?_
    refine w_iload ok dA_3 rfl ?_
    refine w_iload ok dA_5 rfl ?_
    refine w_ic_ge ok dA_7 (fun _ => ?_) (fun q => absurd q (by decide))
    refine w_iload ok dA_44 rfl ?_
    refine w_ireturnI ok dA_46 (Nat.le_of_ble_eq_true rfl) (Nat.le_of_ble_eq_true rfl) ?_
    exact ⟨_, rfl, rfl, Kp, _, Ab⟩
  · exact absurd q hc
theorem dB_0 : Fet jdk_52_method_16_code 0 1 (.iload_n 2) 1 := ⟨by decide +kernel, rfl⟩
theorem dB_1 : Fet jdk_52_method_16_code 1 3 (.newarray .byte) 2 := ⟨by decide +kernel, rfl⟩
theorem dB_3 : Fet jdk_52_method_16_code 3 4 (.astore_n 3) 1 := ⟨by decide +kernel, rfl⟩
theorem dB_4 : Fet jdk_52_method_16_code 4 5 (.aload_n 0) 1 := ⟨by decide +kernel, rfl⟩
theorem dB_5 : Fet jdk_52_method_16_code 5 6 (.iload_n 1) 1 := ⟨by decide +kernel, rfl⟩
theorem dB_6 : Fet jdk_52_method_16_code 6 7 (.aload_n 3) 1 := ⟨by decide +kernel, rfl⟩
theorem dB_7 : Fet jdk_52_method_16_code 7 8 (.iconst 0) 1 := ⟨by decide +kernel, rfl⟩
theorem dB_8 : Fet jdk_52_method_16_code 8 9 (.iload_n 2) 1 := ⟨by decide +kernel, rfl⟩
theorem dB_9 : Fet jdk_52_method_16_code 9 12 (.invokestatic 115) 3 := ⟨by decide +kernel, rfl⟩
theorem pd__ArCIArBII_I : parseMethodDescriptor "([CI[BII)I" = some ⟨[(.array .char), .int, (.array .byte), .int, .int], some .int⟩ := by decide +kernel
theorem dB_12 : Fet jdk_52_method_16_code 12 14 (.istore 4) 2 := ⟨by decide +kernel, rfl⟩
theorem dB_14 : Fet jdk_52_method_16_code 14 16 (.iload 4) 2 := ⟨by decide +kernel, rfl⟩
theorem dB_16 : Fet jdk_52_method_16_code 16 17 (.iload_n 2) 1 := ⟨by decide +kernel, rfl⟩
theorem dB_17 : Brn jdk_52_method_16_code 17 20 57 (.if_icmp .eq 40) 40 := ⟨by decide +kernel, rfl, by decide, by decide⟩
theorem dB_57 : Fet jdk_52_method_16_code 57 58 (.aload_n 3) 1 := ⟨by decide +kernel, rfl⟩
theorem dB_58 : Fet jdk_52_method_16_code 58 59 (.areturn) 1 := ⟨by decide +kernel, rfl⟩
set_option maxRecDepth 65536 in
set_option maxHeartbeats 4000000 in
theorem rmB (l : Launch) (Z : State) (a0 : Array Value) (hw : ∀ d ∈ tables_1, d.before a0 Z = true) (n0 : Nat) (ac : Addr) (c : Int32) (h : Heap) (Z0 : n0 ≤ h.size) (Ac : Ary Z h ac .char [.int c]) (hc : ¬ (255 : Int32) < c) :
    ConV l Z n0 (⟨"java/lang/StringUTF16", "compress", "([CII)[B"⟩ : MethodName) jdk_52_method_16_code 6 (some (.array .byte)) [] ({ frames := 1, cells := 1, slots := 1, locals := 18 } : Room) #[(.ref ac), (.int (0 : Int32)), (.int (1 : Int32))] h (fun w h' => ∃ (ab : Addr) (v : Value), w = .ref ab ∧ Keep h h' [] ∧ Ary Z h' ab .byte [v]) := by
  refine con_of_wp (Ls := #[.val (.ref ac), .val (.int (0 : Int32)), .val (.int (1 : Int32)), .unset, .unset, .unset]) (plainFor_of_name pn_java_lang_StringUTF16) (fun m => by first | (simp [entryFrame, mkF, argsToLocals, Value.category]; done) | rfl) ?_
  intro K ok
  replace ok : Ok Z K jdk_52_method_16_code "java/lang/StringUTF16" "compress" 6 (some (.array .byte)) := ok
  show Wp l ({ frames := 1, cells := 1, slots := 1, locals := 18 } : Room) n0 K (fun v h' => ∃ w, v = some w ∧ ∃ (ab : Addr) (v : Value), w = .ref ab ∧ Keep h h' [] ∧ Ary Z h' ab .byte [v]) h 0 0 0 #[.val (.ref ac), .val (.int (0 : Int32)), .val (.int (1 : Int32)), .unset, .unset, .unset] []
  have Kp : Keep h h [] := Keep.refl _ _
  refine w_iloadN ok dB_0 rfl ?_
  refine w_newarray ok (cap := 1) (hw _ (List.mem_of_getElem? (i := 19) rfl)) dB_1 (by decide) (by decide) (by decide) (k' := 1) (n' := 1) rfl rfl (Nat.le_of_ble_eq_true rfl) (Nat.le_of_ble_eq_true rfl) (fun h1 b1 cA1 g1 E1 A1 => ?_)
  have ne_ac_b1 : ac ≠ b1 := Nat.ne_of_lt (Nat.lt_of_lt_of_le Ac.lt (Nat.le_of_eq g1.symm))
  have gn_b1 : n0 ≤ b1 := Nat.le_trans Z0 (Nat.le_of_eq g1.symm)
  have Z0 := Nat.le_trans Z0 E1.1
  have hz_b1 := Nat.le_trans Kp.1 (Nat.le_of_eq g1.symm)
  have Kp := Kp.ext E1
  have Ac := Ac.ext E1
  have V_b1 : Ary Z h1 b1 .byte [(.int (0 : Int32))] := ary_new A1
  refine w_astoreN ok (Ls' := #[.val (.ref ac), .val (.int (0 : Int32)), .val (.int (1 : Int32)), .val (.ref b1), .unset, .unset]) dB_3 rfl rfl ?_
  refine w_aloadN ok dB_4 rfl rfl ?_
  refine w_iloadN ok dB_5 rfl ?_
  refine w_aloadN ok dB_6 rfl rfl ?_
  refine w_iconst ok (z := 0) dB_7 rfl ?_
  refine w_iloadN ok dB_8 rfl ?_
  refine w_callSV ok (argsL := [(.ref ac), (.int (0 : Int32)), (.ref b1), (.int (0 : Int32)), (.int (1 : Int32))]) (rest := []) (hw _ (List.mem_of_getElem? (i := 20) rfl)) (hw _ (List.mem_of_getElem? (i := 21) rfl)) (hw _ (List.mem_of_getElem? (i := 17) rfl)) (hw _ (List.mem_of_getElem? (i := 22) rfl)) (by decide) (rmA l Z a0 hw n0 ac b1 c h1 Z0 gn_b1 Ac V_b1 ne_ac_b1 hc) dB_9 (lenOf pd__ArCIArBII_I rfl) rfl rfl (Nat.le_of_ble_eq_true rfl) (Nat.le_of_ble_eq_true rfl) (k' := 1) (n' := 1) rfl rfl (Nat.le_of_ble_eq_true rfl) (Nat.le_of_ble_eq_true rfl) ?_
  rintro _ h9 ⟨rfl, Kc, v, Ab⟩
  have Z0 := Nat.le_trans Z0 Kc.1
  have Kp := Kp.trans Kc (allS (Or.inr hz_b1) all0)
  refine w_istore ok (Ls' := #[.val (.ref ac), .val (.int (0 : Int32)), .val (.int (1 : Int32)), .val (.ref b1), .val (.int (1 : Int32)), .unset]) dB_12 rfl ?_
  refine w_iload ok dB_14 rfl ?_
  refine w_iloadN ok dB_16 rfl ?_
  refine w_ic_eq ok dB_17 (fun _ => ?_) (fun q => absurd (by decide) q)
  refine w_aloadN ok dB_57 rfl rfl ?_
  refine w_areturn ok rfl rfl rfl dB_58 (Nat.le_of_ble_eq_true rfl) (Nat.le_of_ble_eq_true rfl) ?_
  exact ⟨_, rfl, _, v, rfl, Kp, Ab⟩
theorem dC_0 : Fet jdk_52_method_15_code 0 1 (.iload_n 1) 1 := ⟨by decide +kernel, rfl⟩
theorem dC_1 : Fet jdk_52_method_15_code 1 2 (.aload_n 0) 1 := ⟨by decide +kernel, rfl⟩
theorem dC_2 : Fet jdk_52_method_15_code 2 3 (.arraylength) 1 := ⟨by decide +kernel, rfl⟩
theorem dC_3 : Fet jdk_52_method_15_code 3 4 (.isub) 1 := ⟨by decide +kernel, rfl⟩
theorem dC_4 : Fet jdk_52_method_15_code 4 6 (.bipush 31) 2 := ⟨by decide +kernel, rfl⟩
theorem dC_6 : Fet jdk_52_method_15_code 6 7 (.iushr) 1 := ⟨by decide +kernel, rfl⟩
theorem dC_7 : Fet jdk_52_method_15_code 7 8 (.i2b) 1 := ⟨by decide +kernel, rfl⟩
theorem dC_8 : Fet jdk_52_method_15_code 8 9 (.ireturn) 1 := ⟨by decide +kernel, rfl⟩
set_option maxRecDepth 65536 in
set_option maxHeartbeats 4000000 in
theorem rmC (l : Launch) (Z : State) (a0 : Array Value) (hw : ∀ d ∈ tables_1, d.before a0 Z = true) (n0 : Nat) (ab : Addr) (v : Value) (h : Heap) (Ab : Ary Z h ab .byte [v]) :
    ConV l Z n0 (⟨"java/lang/StringUTF16", "coderFromArrayLen", "([BI)B"⟩ : MethodName) jdk_52_method_15_code 2 (some .byte) [] ({ frames := 0, cells := 0, slots := 0, locals := 0 } : Room) #[(.ref ab), (.int (1 : Int32))] h (fun w h' => w = .int 0 ∧ h = h') := by
  refine con_of_wp (Ls := #[.val (.ref ab), .val (.int (1 : Int32))]) (plainFor_of_name pn_java_lang_StringUTF16) (fun m => by first | (simp [entryFrame, mkF, argsToLocals, Value.category]; done) | rfl) ?_
  intro K ok
  replace ok : Ok Z K jdk_52_method_15_code "java/lang/StringUTF16" "coderFromArrayLen" 2 (some .byte) := ok
  show Wp l ({ frames := 0, cells := 0, slots := 0, locals := 0 } : Room) n0 K (fun v h' => ∃ w, v = some w ∧ w = .int 0 ∧ h = h') h 0 0 0 #[.val (.ref ab), .val (.int (1 : Int32))] []
  refine w_iloadN ok dC_0 rfl ?_
  refine w_aloadN ok dC_1 rfl rfl ?_
  refine w_arraylength ok Ab dC_2 ?_
  refine w_int (b := 1) rfl ?_
  refine w_isub ok dC_3 ?_
  refine w_bipush ok (z := 31) dC_4 rfl ?_
  refine w_iushr ok dC_6 ?_
  refine w_i2b ok dC_7 ?_
  refine w_ireturnN ok (by simp) dC_8 (Nat.le_of_ble_eq_true rfl) (Nat.le_of_ble_eq_true rfl) ?_
  exact ⟨_, rfl, by decide, rfl⟩
theorem dE_0 : Fet jdk_42_method_149_code 0 1 (.aload_n 0) 1 := ⟨by decide +kernel, rfl⟩
theorem dE_1 : Fet jdk_42_method_149_code 1 4 (.invokespecial 1) 3 := ⟨by decide +kernel, rfl⟩
theorem dE_4 : Fet jdk_42_method_149_code 4 5 (.iload_n 3) 1 := ⟨by decide +kernel, rfl⟩
theorem dE_5 : Brn jdk_42_method_149_code 5 8 27 (.ifCond .ne 22) 22 := ⟨by decide +kernel, rfl, by decide, by decide⟩
theorem dE_27 : Fet jdk_42_method_149_code 27 30 (.getstatic 38) 3 := ⟨by decide +kernel, rfl⟩
theorem dE_30 : Brn jdk_42_method_149_code 30 33 58 (.ifCond .eq 28) 28 := ⟨by decide +kernel, rfl, by decide, by decide⟩
theorem dE_33 : Fet jdk_42_method_149_code 33 34 (.aload_n 1) 1 := ⟨by decide +kernel, rfl⟩
theorem dE_34 : Fet jdk_42_method_149_code 34 35 (.iload_n 2) 1 := ⟨by decide +kernel, rfl⟩
theorem dE_35 : Fet jdk_42_method_149_code 35 36 (.iload_n 3) 1 := ⟨by decide +kernel, rfl⟩
theorem dE_36 : Fet jdk_42_method_149_code 36 39 (.invokestatic 177) 3 := ⟨by decide +kernel, rfl⟩
theorem pd__ArCII_ArB : parseMethodDescriptor "([CII)[B" = some ⟨[(.array .char), .int, .int], some (.array .byte)⟩ := by decide +kernel
theorem dE_39 : Fet jdk_42_method_149_code 39 41 (.astore 5) 2 := ⟨by decide +kernel, rfl⟩
theorem dE_41 : Fet jdk_42_method_149_code 41 42 (.aload_n 0) 1 := ⟨by decide +kernel, rfl⟩
theorem dE_42 : Fet jdk_42_method_149_code 42 44 (.aload 5) 2 := ⟨by decide +kernel, rfl⟩
theorem dE_44 : Fet jdk_42_method_149_code 44 45 (.iload_n 3) 1 := ⟨by decide +kernel, rfl⟩
theorem dE_45 : Fet jdk_42_method_149_code 45 48 (.invokestatic 47) 3 := ⟨by decide +kernel, rfl⟩
theorem pd__ArBI_B : parseMethodDescriptor "([BI)B" = some ⟨[(.array .byte), .int], some .byte⟩ := by decide +kernel
theorem dE_48 : Fet jdk_42_method_149_code 48 51 (.putfield 15) 3 := ⟨by decide +kernel, rfl⟩
theorem dE_51 : Fet jdk_42_method_149_code 51 52 (.aload_n 0) 1 := ⟨by decide +kernel, rfl⟩
theorem dE_52 : Fet jdk_42_method_149_code 52 54 (.aload 5) 2 := ⟨by decide +kernel, rfl⟩
theorem dE_54 : Fet jdk_42_method_149_code 54 57 (.putfield 9) 3 := ⟨by decide +kernel, rfl⟩
theorem dE_57 : Fet jdk_42_method_149_code 57 58 (.return_) 1 := ⟨by decide +kernel, rfl⟩
theorem pn_java_lang_String : plainName "java/lang/String" = true := by first | (simp [plainName, overriddenIn]; done) | decide +kernel
set_option maxRecDepth 65536 in
set_option maxHeartbeats 4000000 in
theorem rmE (l : Launch) (Z : State) (a0 : Array Value) (hw : ∀ d ∈ tables_1, d.before a0 Z = true) (n0 : Nat) (a ac : Addr) (c : Int32) (h : Heap) (Z0 : n0 ≤ h.size) (gn_a : n0 ≤ a) (E_a : Exa Z h a "java/lang/String") (F_v : Fld Z h a "java/lang/String" "value" "[B" .null) (F_c : Fld Z h a "java/lang/String" "coder" "B" (.int (0 : Int32))) (Ac : Ary Z h ac .char [.int c]) (hc : ¬ (255 : Int32) < c) (cs : Int32) (hcs : cs ≠ 0) (S0 : Sta Z Z.heap "java/lang/String" "COMPACT_STRINGS" "Z" (.int cs)) (Od : Old Z n0 h) :
    ConN l Z n0 (⟨"java/lang/String", "<init>", "([CIILjava/lang/Void;)V"⟩ : MethodName) jdk_42_method_149_code 6 none [] ({ frames := 2, cells := 1, slots := 1, locals := 35 } : Room) #[(.ref a), (.ref ac), (.int (0 : Int32)), (.int (1 : Int32)), .null] h (fun h' => Keep h h' [a] ∧ Exa Z h' a "java/lang/String") := by
  refine con_of_wp (Ls := #[.val (.ref a), .val (.ref ac), .val (.int (0 : Int32)), .val (.int (1 : Int32)), .val .null, .unset]) (plainFor_of_name pn_java_lang_String) (fun m => by first | (simp [entryFrame, mkF, argsToLocals, Value.category]; done) | rfl) ?_
  intro K ok
  replace ok : Ok Z K jdk_42_method_149_code "java/lang/String" "<init>" 6 none := ok
  show Wp l ({ frames := 2, cells := 1, slots := 1, locals := 35 } : Room) n0 K (fun v h' => v = none ∧ Keep h h' [a] ∧ Exa Z h' a "java/lang/String") h 0 0 0 #[.val (.ref a), .val (.ref ac), .val (.int (0 : Int32)), .val (.int (1 : Int32)), .val .null, .unset] []
  have S := S0.ext Od.2
  have Kp : Keep h h [a] := Keep.refl _ _
  refine w_aloadN ok dE_0 rfl rfl ?_
  refine w_initO ok (hw _ (List.mem_of_getElem? (i := 11) rfl)) (hw _ (List.mem_of_getElem? (i := 12) rfl)) (hw _ (List.mem_of_getElem? (i := 13) rfl)) dE_1 rfl (Nat.le_of_ble_eq_true rfl) (Nat.le_of_ble_eq_true rfl) ?_
  refine w_iloadN ok dE_4 rfl ?_
  refine w_if_ne ok dE_5 (fun _ => ?_) (fun q => absurd q (by decide))
  refine w_getstatic ok (hw _ (List.mem_of_getElem? (i := 14) rfl)) Via.refl S dE_27 ?_
  refine w_if_eq ok dE_30 (fun q => ?_) (fun q => ?_)
  · exact absurd q hcs
  · refine w_aloadN ok dE_33 rfl rfl ?_
    refine w_iloadN ok dE_34 rfl ?_
    refine w_iloadN ok dE_35 rfl ?_
    refine w_callSV ok (argsL := [(.ref ac), (.int (0 : Int32)), (.int (1 : Int32))]) (rest := []) (hw _ (List.mem_of_getElem? (i := 15) rfl)) (hw _ (List.mem_of_getElem? (i := 16) rfl)) (hw _ (List.mem_of_getElem? (i := 17) rfl)) (hw _ (List.mem_of_getElem? (i := 18) rfl)) (by decide) (rmB l Z a0 hw n0 ac c h Z0 Ac hc) dE_36 (lenOf pd__ArCII_ArB rfl) rfl rfl (Nat.le_of_ble_eq_true rfl) (Nat.le_of_ble_eq_true rfl) (k' := 1) (n' := 1) rfl rfl (Nat.le_of_ble_eq_true rfl) (Nat.le_of_ble_eq_true rfl) ?_
    rintro _ h8 ⟨ab, v, rfl, Kc, Ab⟩
    have E_a := E_a.keep Kc
    have F_v := F_v.keep Kc nin0
    have F_c := F_c.keep Kc nin0
    have Z0 := Nat.le_trans Z0 Kc.1
    have Kp := Kp.trans Kc all0
    refine w_astore ok (Ls' := #[.val (.ref a), .val (.ref ac), .val (.int (0 : Int32)), .val (.int (1 : Int32)), .val .null, .val (.ref ab)]) dE_39 rfl rfl ?_
    refine w_aloadN ok dE_41 rfl rfl ?_
    refine w_aload ok dE_42 rfl rfl ?_
    refine w_iloadN ok dE_44 rfl ?_
    refine w_callSV ok (argsL := [(.ref ab), (.int (1 : Int32))]) (rest := [(.ref a)]) (hw _ (List.mem_of_getElem? (i := 23) rfl)) (hw _ (List.mem_of_getElem? (i := 24) rfl)) (hw _ (List.mem_of_getElem? (i := 17) rfl)) (hw _ (List.mem_of_getElem? (i := 25) rfl)) (by decide) (rmC l Z a0 hw n0 ab v h8 Ab) dE_45 (lenOf pd__ArBI_B rfl) rfl rfl (Nat.le_of_ble_eq_true rfl) (Nat.le_of_ble_eq_true rfl) (k' := 1) (n' := 1) rfl rfl (Nat.le_of_ble_eq_true rfl) (Nat.le_of_ble_eq_true rfl) ?_
    rintro _ _ ⟨rfl, rfl⟩
    refine w_putfieldN ok (hw _ (List.mem_of_getElem? (i := 26) rfl)) Via.refl F_c E_a (Or.inr ⟨(hw _ (List.mem_of_getElem? (i := 27) rfl)), rfl, rfl⟩) (hw _ (List.mem_of_getElem? (i := 1) rfl)) (ty := .byte) (x' := (.int (nar .byte (0 : Int32)))) (by decide) rfl (fits_nar_byte _) gn_a dE_48 (fun h1 W1 => ?_)
    have E_a := E_a.wr W1
    have F_v := F_v.other W1 (Or.inr (slot_ne (Or.inr (hw _ (List.mem_of_getElem? (i := 29) rfl))) (Or.inr (hw _ (List.mem_of_getElem? (i := 27) rfl))) (by decide) (t := (.array .byte)) (t' := .byte) (by decide) (by decide)))
    have F_c := F_c.same W1
    have Z0 := Nat.le_trans Z0 (Keep.of_wr W1).1
    have Kp := Kp.wr W1 (Or.inl (List.mem_of_getElem? (i := 0) rfl))
    refine w_aloadN ok dE_51 rfl rfl ?_
    refine w_aload ok dE_52 rfl rfl ?_
    refine w_putfield ok (host := "") (Or.inl (hw _ (List.mem_of_getElem? (i := 28) rfl))) Via.refl F_v E_a (Or.inr ⟨(hw _ (List.mem_of_getElem? (i := 29) rfl)), rfl, rfl⟩) (hw _ (List.mem_of_getElem? (i := 1) rfl)) (ty := (.array .byte)) (by decide) rfl rfl gn_a dE_54 (fun h2 W2 => ?_)
    have E_a := E_a.wr W2
    have F_v := F_v.same W2
    have F_c := F_c.other W2 (Or.inr (slot_ne (Or.inr (hw _ (List.mem_of_getElem? (i := 27) rfl))) (Or.inr (hw _ (List.mem_of_getElem? (i := 29) rfl))) (by decide) (t := .byte) (t' := (.array .byte)) (by decide) (by decide)))
    have Z0 := Nat.le_trans Z0 (Keep.of_wr W2).1
    have Kp := Kp.wr W2 (Or.inl (List.mem_of_getElem? (i := 0) rfl))
    refine w_return ok dE_57 (Nat.le_of_ble_eq_true rfl) (Nat.le_of_ble_eq_true rfl) ?_
    exact ⟨rfl, Kp, E_a⟩
theorem dF_0 : Fet jdk_42_method_3_code 0 1 (.aload_n 0) 1 := ⟨by decide +kernel, rfl⟩
theorem dF_1 : Fet jdk_42_method_3_code 1 2 (.aload_n 1) 1 := ⟨by decide +kernel, rfl⟩
theorem dF_2 : Fet jdk_42_method_3_code 2 3 (.iconst 0) 1 := ⟨by decide +kernel, rfl⟩
theorem dF_3 : Fet jdk_42_method_3_code 3 4 (.aload_n 1) 1 := ⟨by decide +kernel, rfl⟩
theorem dF_4 : Fet jdk_42_method_3_code 4 5 (.arraylength) 1 := ⟨by decide +kernel, rfl⟩
theorem dF_5 : Fet jdk_42_method_3_code 5 6 (.aconst_null) 1 := ⟨by decide +kernel, rfl⟩
theorem dF_6 : Fet jdk_42_method_3_code 6 9 (.invokespecial 27) 3 := ⟨by decide +kernel, rfl⟩
theorem pd__ArCIILjava_lang_Void__V : parseMethodDescriptor "([CIILjava/lang/Void;)V" = some ⟨[(.array .char), .int, .int, (.object "java/lang/Void")], none⟩ := by decide +kernel
theorem dF_9 : Fet jdk_42_method_3_code 9 10 (.return_) 1 := ⟨by decide +kernel, rfl⟩
set_option maxRecDepth 65536 in
set_option maxHeartbeats 4000000 in
theorem rmF (l : Launch) (Z : State) (a0 : Array Value) (hw : ∀ d ∈ tables_1, d.before a0 Z = true) (n0 : Nat) (a ac : Addr) (c : Int32) (h : Heap) (Z0 : n0 ≤ h.size) (gn_a : n0 ≤ a) (E_a : Exa Z h a "java/lang/String") (F_v : Fld Z h a "java/lang/String" "value" "[B" .null) (F_c : Fld Z h a "java/lang/String" "coder" "B" (.int (0 : Int32))) (Ac : Ary Z h ac .char [.int c]) (hc : ¬ (255 : Int32) < c) (cs : Int32) (hcs : cs ≠ 0) (S0 : Sta Z Z.heap "java/lang/String" "COMPACT_STRINGS" "Z" (.int cs)) (Od : Old Z n0 h) :
    ConN l Z n0 (⟨"java/lang/String", "<init>", "([C)V"⟩ : MethodName) jdk_42_method_3_code 2 none [] ({ frames := 3, cells := 1, slots := 1, locals := 52 } : Room) #[(.ref a), (.ref ac)] h (fun h' => Keep h h' [a] ∧ Exa Z h' a "java/lang/String") := by
  refine con_of_wp (Ls := #[.val (.ref a), .val (.ref ac)]) (plainFor_of_name pn_java_lang_String) (fun m => by first | (simp [entryFrame, mkF, argsToLocals, Value.category]; done) | rfl) ?_
  intro K ok
  replace ok : Ok Z K jdk_42_method_3_code "java/lang/String" "<init>" 2 none := ok
  show Wp l ({ frames := 3, cells := 1, slots := 1, locals := 52 } : Room) n0 K (fun v h' => v = none ∧ Keep h h' [a] ∧ Exa Z h' a "java/lang/String") h 0 0 0 #[.val (.ref a), .val (.ref ac)] []
  refine w_aloadN ok dF_0 rfl rfl ?_
  refine w_aloadN ok dF_1 rfl rfl ?_
  refine w_iconst ok (z := 0) dF_2 rfl ?_
  refine w_aloadN ok dF_3 rfl rfl ?_
  refine w_arraylength ok Ac dF_4 ?_
  refine w_int (b := 1) rfl ?_
  refine w_aconstNull ok dF_5 ?_
  refine w_init ok (argsL := [(.ref ac), (.int (0 : Int32)), (.int (1 : Int32)), .null]) (rest := []) rfl rfl (hw _ (List.mem_of_getElem? (i := 7) rfl)) (hw _ (List.mem_of_getElem? (i := 8) rfl)) (hw _ (List.mem_of_getElem? (i := 2) rfl)) (hw _ (List.mem_of_getElem? (i := 10) rfl)) (by decide) (rmE l Z a0 hw n0 a ac c h Z0 gn_a E_a F_v F_c Ac hc cs hcs S0 Od) dF_6 (lenOf pd__ArCIILjava_lang_Void__V rfl) rfl rfl (Nat.le_of_ble_eq_true rfl) (Nat.le_of_ble_eq_true rfl) (k' := 1) (n' := 1) rfl rfl (Nat.le_of_ble_eq_true rfl) (Nat.le_of_ble_eq_true rfl) ?_
  rintro h9 ⟨Kc, E_a⟩
  refine w_return ok dF_9 (Nat.le_of_ble_eq_true rfl) (Nat.le_of_ble_eq_true rfl) ?_
  exact ⟨rfl, Kc, E_a⟩
theorem dR_0 : Fet jdk_30_method_1_code 0 1 (.aload_n 0) 1 := ⟨by decide +kernel, rfl⟩
theorem dR_1 : Fet jdk_30_method_1_code 1 4 (.invokespecial 1) 3 := ⟨by decide +kernel, rfl⟩
theorem dR_4 : Fet jdk_30_method_1_code 4 5 (.return_) 1 := ⟨by decide +kernel, rfl⟩
theorem pn_java_lang_Record : plainName "java/lang/Record" = true := by first | (simp [plainName, overriddenIn]; done) | decide +kernel
set_option maxRecDepth 65536 in
set_option maxHeartbeats 4000000 in
theorem rmRe (l : Launch) (Z : State) (a0 : Array Value) (hw : ∀ d ∈ tables_1, d.before a0 Z = true) (n0 : Nat) (a : Addr) (h : Heap) :
    ConN l Z n0 (⟨"java/lang/Record", "<init>", "()V"⟩ : MethodName) jdk_30_method_1_code 1 none [] ({ frames := 1, cells := 0, slots := 0, locals := 12 } : Room) #[(.ref a)] h (fun h' => h = h') := by
  refine con_of_wp (Ls := #[.val (.ref a)]) (plainFor_of_name pn_java_lang_Record) (fun m => by first | (simp [entryFrame, mkF, argsToLocals, Value.category]; done) | rfl) ?_
  intro K ok
  replace ok : Ok Z K jdk_30_method_1_code "java/lang/Record" "<init>" 1 none := ok
  show Wp l ({ frames := 1, cells := 0, slots := 0, locals := 12 } : Room) n0 K (fun v h' => v = none ∧ h = h') h 0 0 0 #[.val (.ref a)] []
  refine w_aloadN ok dR_0 rfl rfl ?_
  refine w_initO ok (hw _ (List.mem_of_getElem? (i := 41) rfl)) (hw _ (List.mem_of_getElem? (i := 12) rfl)) (hw _ (List.mem_of_getElem? (i := 13) rfl)) dR_1 rfl (Nat.le_of_ble_eq_true rfl) (Nat.le_of_ble_eq_true rfl) ?_
  refine w_return ok dR_4 (Nat.le_of_ble_eq_true rfl) (Nat.le_of_ble_eq_true rfl) ?_
  exact ⟨rfl, rfl⟩
theorem dN_0 : Fet jdk_18_method_1_code 0 1 (.aload_n 0) 1 := ⟨by decide +kernel, rfl⟩
theorem dN_1 : Fet jdk_18_method_1_code 1 4 (.invokespecial 1) 3 := ⟨by decide +kernel, rfl⟩
theorem dN_4 : Fet jdk_18_method_1_code 4 5 (.return_) 1 := ⟨by decide +kernel, rfl⟩
theorem pn_java_lang_Number : plainName "java/lang/Number" = true := by first | (simp [plainName, overriddenIn]; done) | decide +kernel
set_option maxRecDepth 65536 in
set_option maxHeartbeats 4000000 in
theorem rmNu (l : Launch) (Z : State) (a0 : Array Value) (hw : ∀ d ∈ tables_1, d.before a0 Z = true) (n0 : Nat) (a : Addr) (h : Heap) :
    ConN l Z n0 (⟨"java/lang/Number", "<init>", "()V"⟩ : MethodName) jdk_18_method_1_code 1 none [] ({ frames := 1, cells := 0, slots := 0, locals := 12 } : Room) #[(.ref a)] h (fun h' => h = h') := by
  refine con_of_wp (Ls := #[.val (.ref a)]) (plainFor_of_name pn_java_lang_Number) (fun m => by first | (simp [entryFrame, mkF, argsToLocals, Value.category]; done) | rfl) ?_
  intro K ok
  replace ok : Ok Z K jdk_18_method_1_code "java/lang/Number" "<init>" 1 none := ok
  show Wp l ({ frames := 1, cells := 0, slots := 0, locals := 12 } : Room) n0 K (fun v h' => v = none ∧ h = h') h 0 0 0 #[.val (.ref a)] []
  refine w_aloadN ok dN_0 rfl rfl ?_
  refine w_initO ok (hw _ (List.mem_of_getElem? (i := 86) rfl)) (hw _ (List.mem_of_getElem? (i := 12) rfl)) (hw _ (List.mem_of_getElem? (i := 13) rfl)) dN_1 rfl (Nat.le_of_ble_eq_true rfl) (Nat.le_of_ble_eq_true rfl) ?_
  refine w_return ok dN_4 (Nat.le_of_ble_eq_true rfl) (Nat.le_of_ble_eq_true rfl) ?_
  exact ⟨rfl, rfl⟩
theorem dJ_0 : Fet jdk_35_method_26_code 0 1 (.aload_n 0) 1 := ⟨by decide +kernel, rfl⟩
theorem dJ_1 : Fet jdk_35_method_26_code 1 4 (.invokespecial 270) 3 := ⟨by decide +kernel, rfl⟩
theorem pd___V : parseMethodDescriptor "()V" = some ⟨[], none⟩ := by decide +kernel
theorem dJ_4 : Fet jdk_35_method_26_code 4 5 (.aload_n 0) 1 := ⟨by decide +kernel, rfl⟩
theorem dJ_5 : Fet jdk_35_method_26_code 5 6 (.lload_n 1) 1 := ⟨by decide +kernel, rfl⟩
theorem dJ_6 : Fet jdk_35_method_26_code 6 9 (.putfield 273) 3 := ⟨by decide +kernel, rfl⟩
theorem dJ_9 : Fet jdk_35_method_26_code 9 10 (.return_) 1 := ⟨by decide +kernel, rfl⟩
theorem pn_java_lang_Long : plainName "java/lang/Long" = true := by first | (simp [plainName, overriddenIn]; done) | decide +kernel
set_option maxRecDepth 65536 in
set_option maxHeartbeats 4000000 in
theorem rmJ (l : Launch) (Z : State) (a0 : Array Value) (hw : ∀ d ∈ tables_1, d.before a0 Z = true) (n0 : Nat) (a : Addr) (x : Int64) (h : Heap) (Z0 : n0 ≤ h.size) (gn_a : n0 ≤ a) (E_a : Exa Z h a "java/lang/Long") (F_a : Fld Z h a "java/lang/Long" "value" "J" (.long (0 : Int64))) :
    ConN l Z n0 (⟨"java/lang/Long", "<init>", "(J)V"⟩ : MethodName) jdk_35_method_26_code 3 none [] ({ frames := 2, cells := 0, slots := 0, locals := 24 } : Room) #[(.ref a), (.long x)] h (fun h' => Keep h h' [a] ∧ Exa Z h' a "java/lang/Long" ∧ Fld Z h' a "java/lang/Long" "value" "J" (.long x)) := by
  refine con_of_wp (Ls := #[.val (.ref a), .val (.long x), .second]) (plainFor_of_name pn_java_lang_Long) (fun m => by first | (simp [entryFrame, mkF, argsToLocals, Value.category]; done) | rfl) ?_
  intro K ok
  replace ok : Ok Z K jdk_35_method_26_code "java/lang/Long" "<init>" 3 none := ok
  show Wp l ({ frames := 2, cells := 0, slots := 0, locals := 24 } : Room) n0 K (fun v h' => v = none ∧ Keep h h' [a] ∧ Exa Z h' a "java/lang/Long" ∧ Fld Z h' a "java/lang/Long" "value" "J" (.long x)) h 0 0 0 #[.val (.ref a), .val (.long x), .second] []
  have Kp : Keep h h [a] := Keep.refl _ _
  refine w_aloadN ok dJ_0 rfl rfl ?_
  refine w_init ok (argsL := []) (rest := []) rfl rfl (hw _ (List.mem_of_getElem? (i := 80) rfl)) (hw _ (List.mem_of_getElem? (i := 81) rfl)) (hw _ (List.mem_of_getElem? (i := 84) rfl)) (hw _ (List.mem_of_getElem? (i := 85) rfl)) (by decide) (rmNu l Z a0 hw n0 a h) dJ_1 (lenOf pd___V rfl) rfl rfl (Nat.le_of_ble_eq_true rfl) (Nat.le_of_ble_eq_true rfl) (k' := 0) (n' := 0) rfl rfl (Nat.le_of_ble_eq_true rfl) (Nat.le_of_ble_eq_true rfl) ?_
  rintro _ rfl
  refine w_aloadN ok dJ_4 rfl rfl ?_
  refine w_lloadN ok dJ_5 rfl ?_
  refine w_putfield ok (host := "") (Or.inl (hw _ (List.mem_of_getElem? (i := 87) rfl))) Via.refl F_a E_a (Or.inr ⟨(hw _ (List.mem_of_getElem? (i := 88) rfl)), rfl, rfl⟩) (hw _ (List.mem_of_getElem? (i := 75) rfl)) (ty := .long) (by decide) rfl rfl gn_a dJ_6 (fun h1 W1 => ?_)
  have E_a := E_a.wr W1
  have F_a := F_a.same W1
  have Z0 := Nat.le_trans Z0 (Keep.of_wr W1).1
  have Kp := Kp.wr W1 (Or.inl (List.mem_of_getElem? (i := 0) rfl))
  refine w_return ok dJ_9 (Nat.le_of_ble_eq_true rfl) (Nat.le_of_ble_eq_true rfl) ?_
  exact ⟨rfl, Kp, E_a, F_a⟩
theorem dV_0 : Fet jdk_35_method_24_code 0 3 (.sipush 128) 3 := ⟨by decide +kernel, rfl⟩
theorem dV_3 : Fet jdk_35_method_24_code 3 4 (.istore_n 2) 1 := ⟨by decide +kernel, rfl⟩
theorem dV_31 : Fet jdk_35_method_24_code 31 34 (.new 1) 3 := ⟨by decide +kernel, rfl⟩
theorem dV_34 : Fet jdk_35_method_24_code 34 35 (.dup) 1 := ⟨by decide +kernel, rfl⟩
theorem dV_35 : Fet jdk_35_method_24_code 35 36 (.lload_n 0) 1 := ⟨by decide +kernel, rfl⟩
theorem dV_36 : Fet jdk_35_method_24_code 36 39 (.invokespecial 240) 3 := ⟨by decide +kernel, rfl⟩
theorem pd__J_V : parseMethodDescriptor "(J)V" = some ⟨[.long], none⟩ := by decide +kernel
theorem dV_39 : Fet jdk_35_method_24_code 39 40 (.areturn) 1 := ⟨by decide +kernel, rfl⟩
theorem dV_4 : Fet jdk_35_method_24_code 4 5 (.lload_n 0) 1 := ⟨by decide +kernel, rfl⟩
theorem dV_5 : Fet jdk_35_method_24_code 5 8 (.ldc2_w 230) 3 := ⟨by decide +kernel, rfl⟩
theorem dV_8 : Fet jdk_35_method_24_code 8 9 (.lcmp) 1 := ⟨by decide +kernel, rfl⟩
theorem dV_9 : Brn jdk_35_method_24_code 9 12 31 (.ifCond .lt 22) 22 := ⟨by decide +kernel, rfl, by decide, by decide⟩
theorem dV_12 : Fet jdk_35_method_24_code 12 13 (.lload_n 0) 1 := ⟨by decide +kernel, rfl⟩
theorem dV_13 : Fet jdk_35_method_24_code 13 16 (.ldc2_w 232) 3 := ⟨by decide +kernel, rfl⟩
theorem dV_16 : Fet jdk_35_method_24_code 16 17 (.lcmp) 1 := ⟨by decide +kernel, rfl⟩
theorem dV_17 : Brn jdk_35_method_24_code 17 20 31 (.ifCond .gt 14) 14 := ⟨by decide +kernel, rfl, by decide, by decide⟩
theorem dV_20 : Fet jdk_35_method_24_code 20 23 (.getstatic 234) 3 := ⟨by decide +kernel, rfl⟩
theorem dV_23 : Fet jdk_35_method_24_code 23 24 (.lload_n 0) 1 := ⟨by decide +kernel, rfl⟩
theorem dV_24 : Fet jdk_35_method_24_code 24 25 (.l2i) 1 := ⟨by decide +kernel, rfl⟩
theorem dV_25 : Fet jdk_35_method_24_code 25 28 (.sipush 128) 3 := ⟨by decide +kernel, rfl⟩
theorem dV_28 : Fet jdk_35_method_24_code 28 29 (.iadd) 1 := ⟨by decide +kernel, rfl⟩
theorem dV_29 : Fet jdk_35_method_24_code 29 30 (.aaload) 1 := ⟨by decide +kernel, rfl⟩
theorem dV_30 : Fet jdk_35_method_24_code 30 31 (.areturn) 1 := ⟨by decide +kernel, rfl⟩
set_option maxRecDepth 65536 in
set_option maxHeartbeats 4000000 in
theorem rmV (l : Launch) (Z : State) (a0 : Array Value) (hw : ∀ d ∈ tables_1, d.before a0 Z = true) (n0 : Nat) (x : Int64) (h : Heap) (Z0 : n0 ≤ h.size) (lc : Addr) (cc : Cell) (L0 : Sta Z Z.heap "java/lang/Long$LongCache" "cache" "[Ljava/lang/Long;" (.ref lc)) (Bx : Bxs Z lc cc "java/lang/Long" "J" 256 (fun j => .long (j - 128).toInt64)) (Od : Old Z n0 h) :
    ConV l Z n0 (⟨"java/lang/Long", "valueOf", "(J)Ljava/lang/Long;"⟩ : MethodName) jdk_35_method_24_code 3 (some (.object "java/lang/Long")) [] ({ frames := 3, cells := 1, slots := 1, locals := 39 } : Room) #[(.long x)] h (fun w h' => ∃ b : Addr, w = .ref b ∧ Keep h h' [] ∧ Exa Z h' b "java/lang/Long" ∧ Fld Z h' b "java/lang/Long" "value" "J" (.long x)) := by
  refine con_of_wp (Ls := #[.val (.long x), .second, .unset]) (plainFor_of_name pn_java_lang_Long) (fun m => by first | (simp [entryFrame, mkF, argsToLocals, Value.category]; done) | rfl) ?_
  intro K ok
  replace ok : Ok Z K jdk_35_method_24_code "java/lang/Long" "valueOf" 3 (some (.object "java/lang/Long")) := ok
  show Wp l ({ frames := 3, cells := 1, slots := 1, locals := 39 } : Room) n0 K (fun v h' => ∃ w, v = some w ∧ ∃ b : Addr, w = .ref b ∧ Keep h h' [] ∧ Exa Z h' b "java/lang/Long" ∧ Fld Z h' b "java/lang/Long" "value" "J" (.long x)) h 0 0 0 #[.val (.long x), .second, .unset] []
  have Kp : Keep h h [] := Keep.refl _ _
  refine w_sipush ok (z := 128) dV_0 rfl ?_
  refine w_istoreN ok (Ls' := #[.val (.long x), .second, .val (.int (128 : Int32))]) dV_3 rfl ?_
  have J31 : Wp l ({ frames := 3, cells := 1, slots := 1, locals := 39 } : Room) n0 K (fun v h' => ∃ w, v = some w ∧ ∃ b : Addr, w = .ref b ∧ Keep h h' [] ∧ Exa Z h' b "java/lang/Long" ∧ Fld Z h' b "java/lang/Long" "value" "J" (.long x)) h 0 0 31 #[.val (.long x), .second, .val (.int (128 : Int32))] [] := by
    refine w_new ok (hw _ (List.mem_of_getElem? (i := 74) rfl)) (hw _ (List.mem_of_getElem? (i := 75) rfl)) (hw _ (List.mem_of_getElem? (i := 67) rfl)) dV_31 (k' := 1) (n' := 1) rfl rfl (Nat.le_of_ble_eq_true rfl) (Nat.le_of_ble_eq_true rfl) (fun h1 b1 g1 E1 A1 D1 => ?_)
    have gn_b1 : n0 ≤ b1 := Nat.le_trans Z0 (Nat.le_of_eq g1.symm)
    have Z0 := Nat.le_trans Z0 E1.1
    have hz_b1 := Nat.le_trans Kp.1 (Nat.le_of_eq g1.symm)
    have Kp := Kp.ext E1
    have F_b1_value : Fld Z h1 b1 "java/lang/Long" "value" "J" (.long (0 : Int64)) := D1 (Or.inr (hw _ (List.mem_of_getElem? (i := 88) rfl))) (ty := .long) (by decide)
    refine w_dup ok dV_34 rfl ?_
    refine w_lloadN ok dV_35 rfl ?_
    refine w_init ok (argsL := [(.long x)]) (rest := [(.ref b1)]) rfl rfl (hw _ (List.mem_of_getElem? (i := 76) rfl)) (hw _ (List.mem_of_getElem? (i := 77) rfl)) (hw _ (List.mem_of_getElem? (i := 67) rfl)) (hw _ (List.mem_of_getElem? (i := 79) rfl)) (by decide) (rmJ l Z a0 hw n0 b1 x h1 Z0 gn_b1 A1 F_b1_value) dV_36 (lenOf pd__J_V rfl) rfl rfl (Nat.le_of_ble_eq_true rfl) (Nat.le_of_ble_eq_true rfl) (k' := 1) (n' := 1) rfl rfl (Nat.le_of_ble_eq_true rfl) (Nat.le_of_ble_eq_true rfl) ?_
    rintro h9 ⟨Kc, A, F⟩
    have Z0 := Nat.le_trans Z0 Kc.1
    have Kp := Kp.trans Kc (allS (Or.inr hz_b1) all0)
    refine w_areturn ok rfl rfl rfl dV_39 (Nat.le_of_ble_eq_true rfl) (Nat.le_of_ble_eq_true rfl) ?_
    exact ⟨_, rfl, _, rfl, Kp, A, F⟩
  refine w_lloadN ok dV_4 rfl ?_
  refine w_ldc2 ok (hw _ (List.mem_of_getElem? (i := 69) rfl)) dV_5 ?_
  refine w_lc_lt ok dV_8 dV_9 (fun q1 => ?_) (fun q1 => ?_)
  · exact J31
  · refine w_lloadN ok dV_12 rfl ?_
    refine w_ldc2 ok (hw _ (List.mem_of_getElem? (i := 70) rfl)) dV_13 ?_
    refine w_lc_gt ok dV_16 dV_17 (fun q2 => ?_) (fun q2 => ?_)
    · exact J31
    · have S := L0.ext Od.2
      refine w_getstatic ok (hw _ (List.mem_of_getElem? (i := 71) rfl)) Via.refl S dV_20 ?_
      refine w_lloadN ok dV_23 rfl ?_
      refine w_l2i ok dV_24 ?_
      refine w_sipush ok (z := 128) dV_25 rfl ?_
      refine w_iadd ok dV_28 ?_
      obtain ⟨b, hb1, hb2, hb3⟩ := Bx.2.2.2 (x.toInt32 + 128) (by rw [Bx.2.1]; exact own_in q1 q2)
      refine w_aaload ok (Bx.1.ext Od.2) rfl (by rw [Bx.2.1]; exact own_in q1 q2) hb1 dV_29 ?_
      refine w_areturn ok rfl rfl rfl dV_30 (Nat.le_of_ble_eq_true rfl) (Nat.le_of_ble_eq_true rfl) ?_
      refine ⟨_, rfl, _, rfl, Kp, hb2.ext Od.2, ?_⟩
      have F := hb3.ext Od.2
      rw [show (fun j : Int32 => Value.long (j - 128).toInt64) (x.toInt32 + 128) = .long x from congrArg Value.long (own_back q1 q2)] at F
      exact F
theorem dX_0 : Fet jdk_35_method_31_code 0 1 (.aload_n 0) 1 := ⟨by decide +kernel, rfl⟩
theorem dX_1 : Fet jdk_35_method_31_code 1 4 (.getfield 273) 3 := ⟨by decide +kernel, rfl⟩
theorem dX_4 : Fet jdk_35_method_31_code 4 5 (.lreturn) 1 := ⟨by decide +kernel, rfl⟩
set_option maxRecDepth 65536 in
set_option maxHeartbeats 4000000 in
theorem rmX (l : Launch) (Z : State) (a0 : Array Value) (hw : ∀ d ∈ tables_1, d.before a0 Z = true) (n0 : Nat) (a : Addr) (x : Int64) (h : Heap) (F_v : Fld Z h a "java/lang/Long" "value" "J" (.long x)) :
    ConV l Z n0 (⟨"java/lang/Long", "longValue", "()J"⟩ : MethodName) jdk_35_method_31_code 1 (some .long) [] ({ frames := 0, cells := 0, slots := 0, locals := 0 } : Room) #[(.ref a)] h (fun w h' => w = .long x ∧ h = h') := by
  refine con_of_wp (Ls := #[.val (.ref a)]) (plainFor_of_name pn_java_lang_Long) (fun m => by first | (simp [entryFrame, mkF, argsToLocals, Value.category]; done) | rfl) ?_
  intro K ok
  replace ok : Ok Z K jdk_35_method_31_code "java/lang/Long" "longValue" 1 (some .long) := ok
  show Wp l ({ frames := 0, cells := 0, slots := 0, locals := 0 } : Room) n0 K (fun v h' => ∃ w, v = some w ∧ w = .long x ∧ h = h') h 0 0 0 #[.val (.ref a)] []
  refine w_aloadN ok dX_0 rfl rfl ?_
  refine w_getfield ok (host := "") (Or.inl (hw _ (List.mem_of_getElem? (i := 87) rfl))) Via.refl F_v dX_1 ?_
  refine w_lreturn ok dX_4 (Nat.le_of_ble_eq_true rfl) (Nat.le_of_ble_eq_true rfl) ?_
  exact ⟨_, rfl, rfl, rfl⟩
theorem dI_0 : Fet prog_32_method_1_code 0 1 (.aload_n 0) 1 := ⟨by decide +kernel, rfl⟩
theorem dI_1 : Fet prog_32_method_1_code 1 4 (.invokespecial 1) 3 := ⟨by decide +kernel, rfl⟩
theorem dI_4 : Fet prog_32_method_1_code 4 5 (.aload_n 0) 1 := ⟨by decide +kernel, rfl⟩
theorem dI_5 : Fet prog_32_method_1_code 5 6 (.aload_n 1) 1 := ⟨by decide +kernel, rfl⟩
theorem dI_6 : Fet prog_32_method_1_code 6 9 (.putfield 7) 3 := ⟨by decide +kernel, rfl⟩
theorem dI_9 : Fet prog_32_method_1_code 9 10 (.aload_n 0) 1 := ⟨by decide +kernel, rfl⟩
theorem dI_10 : Fet prog_32_method_1_code 10 11 (.aload_n 2) 1 := ⟨by decide +kernel, rfl⟩
theorem dI_11 : Fet prog_32_method_1_code 11 14 (.putfield 13) 3 := ⟨by decide +kernel, rfl⟩
theorem dI_14 : Fet prog_32_method_1_code 14 15 (.aload_n 0) 1 := ⟨by decide +kernel, rfl⟩
theorem dI_15 : Fet prog_32_method_1_code 15 16 (.aload_n 3) 1 := ⟨by decide +kernel, rfl⟩
theorem dI_16 : Fet prog_32_method_1_code 16 19 (.putfield 16) 3 := ⟨by decide +kernel, rfl⟩
theorem dI_19 : Fet prog_32_method_1_code 19 20 (.aload_n 0) 1 := ⟨by decide +kernel, rfl⟩
theorem dI_20 : Fet prog_32_method_1_code 20 22 (.aload 4) 2 := ⟨by decide +kernel, rfl⟩
theorem dI_22 : Fet prog_32_method_1_code 22 25 (.putfield 19) 3 := ⟨by decide +kernel, rfl⟩
theorem dI_25 : Fet prog_32_method_1_code 25 26 (.aload_n 0) 1 := ⟨by decide +kernel, rfl⟩
theorem dI_26 : Fet prog_32_method_1_code 26 28 (.aload 5) 2 := ⟨by decide +kernel, rfl⟩
theorem dI_28 : Fet prog_32_method_1_code 28 31 (.putfield 23) 3 := ⟨by decide +kernel, rfl⟩
theorem dI_31 : Fet prog_32_method_1_code 31 32 (.aload_n 0) 1 := ⟨by decide +kernel, rfl⟩
theorem dI_32 : Fet prog_32_method_1_code 32 34 (.lload 6) 2 := ⟨by decide +kernel, rfl⟩
theorem dI_34 : Fet prog_32_method_1_code 34 37 (.putfield 26) 3 := ⟨by decide +kernel, rfl⟩
theorem dI_37 : Fet prog_32_method_1_code 37 38 (.aload_n 0) 1 := ⟨by decide +kernel, rfl⟩
theorem dI_38 : Fet prog_32_method_1_code 38 40 (.lload 8) 2 := ⟨by decide +kernel, rfl⟩
theorem dI_40 : Fet prog_32_method_1_code 40 43 (.putfield 30) 3 := ⟨by decide +kernel, rfl⟩
theorem dI_43 : Fet prog_32_method_1_code 43 44 (.return_) 1 := ⟨by decide +kernel, rfl⟩
theorem pn_com_example_idemnity_idemnity_SqlDialect_Row : plainName "com/example/idemnity/idemnity/SqlDialect$Row" = true := by first | (simp [plainName, overriddenIn]; done) | decide +kernel
set_option maxRecDepth 65536 in
set_option maxHeartbeats 4000000 in
theorem rmIN (l : Launch) (Z : State) (a0 : Array Value) (hw : ∀ d ∈ tables_1, d.before a0 Z = true) (n0 : Nat) (a s1 s2 s3 fp : Addr) (x1 x2 : Int64) (h : Heap) (Z0 : n0 ≤ h.size) (gn_a : n0 ≤ a) (E_a : Exa Z h a "com/example/idemnity/idemnity/SqlDialect$Row") (F_scope : Fld Z h a "com/example/idemnity/idemnity/SqlDialect$Row" "scope" "Ljava/lang/String;" .null) (F_key : Fld Z h a "com/example/idemnity/idemnity/SqlDialect$Row" "key" "Ljava/lang/String;" .null) (F_claimId : Fld Z h a "com/example/idemnity/idemnity/SqlDialect$Row" "claimId" "Ljava/lang/String;" .null) (F_fingerprint : Fld Z h a "com/example/idemnity/idemnity/SqlDialect$Row" "fingerprint" "[B" .null) (F_value : Fld Z h a "com/example/idemnity/idemnity/SqlDialect$Row" "value" "[B" .null) (F_holdsFor : Fld Z h a "com/example/idemnity/idemnity/SqlDialect$Row" "holdsFor" "J" (.long (0 : Int64))) (F_keptFor : Fld Z h a "com/example/idemnity/idemnity/SqlDialect$Row" "keptFor" "J" (.long (0 : Int64))) :
    ConN l Z n0 (⟨"com/example/idemnity/idemnity/SqlDialect$Row", "<init>", "(Ljava/lang/String;Ljava/lang/String;Ljava/lang/String;[B[BJJ)V"⟩ : MethodName) prog_32_method_1_code 10 none [] ({ frames := 2, cells := 0, slots := 0, locals := 24 } : Room) #[(.ref a), (.ref s1), (.ref s2), (.ref s3), (.ref fp), .null, (.long x1), (.long x2)] h (fun h' => Keep h h' [a] ∧ Exa Z h' a "com/example/idemnity/idemnity/SqlDialect$Row" ∧ Fld Z h' a "com/example/idemnity/idemnity/SqlDialect$Row" "scope" "Ljava/lang/String;" (.ref s1) ∧ Fld Z h' a "com/example/idemnity/idemnity/SqlDialect$Row" "key" "Ljava/lang/String;" (.ref s2) ∧ Fld Z h' a "com/example/idemnity/idemnity/SqlDialect$Row" "claimId" "Ljava/lang/String;" (.ref s3) ∧ Fld Z h' a "com/example/idemnity/idemnity/SqlDialect$Row" "fingerprint" "[B" (.ref fp) ∧ Fld Z h' a "com/example/idemnity/idemnity/SqlDialect$Row" "value" "[B" .null ∧ Fld Z h' a "com/example/idemnity/idemnity/SqlDialect$Row" "holdsFor" "J" (.long x1) ∧ Fld Z h' a "com/example/idemnity/idemnity/SqlDialect$Row" "keptFor" "J" (.long x2)) := by
  refine con_of_wp (Ls := #[.val (.ref a), .val (.ref s1), .val (.ref s2), .val (.ref s3), .val (.ref fp), .val .null, .val (.long x1), .second, .val (.long x2), .second]) (plainFor_of_name pn_com_example_idemnity_idemnity_SqlDialect_Row) (fun m => by first | (simp [entryFrame, mkF, argsToLocals, Value.category]; done) | rfl) ?_
  intro K ok
  replace ok : Ok Z K prog_32_method_1_code "com/example/idemnity/idemnity/SqlDialect$Row" "<init>" 10 none := ok
  show Wp l ({ frames := 2, cells := 0, slots := 0, locals := 24 } : Room) n0 K (fun v h' => v = none ∧ Keep h h' [a] ∧ Exa Z h' a "com/example/idemnity/idemnity/SqlDialect$Row" ∧ Fld Z h' a "com/example/idemnity/idemnity/SqlDialect$Row" "scope" "Ljava/lang/String;" (.ref s1) ∧ Fld Z h' a "com/example/idemnity/idemnity/SqlDialect$Row" "key" "Ljava/lang/String;" (.ref s2) ∧ Fld Z h' a "com/example/idemnity/idemnity/SqlDialect$Row" "claimId" "Ljava/lang/String;" (.ref s3) ∧ Fld Z h' a "com/example/idemnity/idemnity/SqlDialect$Row" "fingerprint" "[B" (.ref fp) ∧ Fld Z h' a "com/example/idemnity/idemnity/SqlDialect$Row" "value" "[B" .null ∧ Fld Z h' a "com/example/idemnity/idemnity/SqlDialect$Row" "holdsFor" "J" (.long x1) ∧ Fld Z h' a "com/example/idemnity/idemnity/SqlDialect$Row" "keptFor" "J" (.long x2)) h 0 0 0 #[.val (.ref a), .val (.ref s1), .val (.ref s2), .val (.ref s3), .val (.ref fp), .val .null, .val (.long x1), .second, .val (.long x2), .second] []
  have Kp : Keep h h [a] := Keep.refl _ _
  refine w_aloadN ok dI_0 rfl rfl ?_
  refine w_init ok (argsL := []) (rest := []) rfl rfl (hw _ (List.mem_of_getElem? (i := 36) rfl)) (hw _ (List.mem_of_getElem? (i := 37) rfl)) (hw _ (List.mem_of_getElem? (i := 39) rfl)) (hw _ (List.mem_of_getElem? (i := 40) rfl)) (by decide) (rmRe l Z a0 hw n0 a h) dI_1 (lenOf pd___V rfl) rfl rfl (Nat.le_of_ble_eq_true rfl) (Nat.le_of_ble_eq_true rfl) (k' := 0) (n' := 0) rfl rfl (Nat.le_of_ble_eq_true rfl) (Nat.le_of_ble_eq_true rfl) ?_
  rintro _ rfl
  refine w_aloadN ok dI_4 rfl rfl ?_
  refine w_aloadN ok dI_5 rfl rfl ?_
  refine w_putfield ok (host := "") (Or.inl (hw _ (List.mem_of_getElem? (i := 42) rfl))) Via.refl F_scope E_a (Or.inr ⟨(hw _ (List.mem_of_getElem? (i := 43) rfl)), rfl, rfl⟩) (hw _ (List.mem_of_getElem? (i := 31) rfl)) (ty := (.object "java/lang/String")) (by decide) rfl rfl gn_a dI_6 (fun h1 W1 => ?_)
  have E_a := E_a.wr W1
  have F_scope := F_scope.same W1
  have F_key := F_key.other W1 (Or.inr (slot_ne (Or.inr (hw _ (List.mem_of_getElem? (i := 45) rfl))) (Or.inr (hw _ (List.mem_of_getElem? (i := 43) rfl))) (by decide) (t := (.object "java/lang/String")) (t' := (.object "java/lang/String")) (by decide) (by decide)))
  have F_claimId := F_claimId.other W1 (Or.inr (slot_ne (Or.inr (hw _ (List.mem_of_getElem? (i := 47) rfl))) (Or.inr (hw _ (List.mem_of_getElem? (i := 43) rfl))) (by decide) (t := (.object "java/lang/String")) (t' := (.object "java/lang/String")) (by decide) (by decide)))
  have F_fingerprint := F_fingerprint.other W1 (Or.inr (slot_ne (Or.inr (hw _ (List.mem_of_getElem? (i := 49) rfl))) (Or.inr (hw _ (List.mem_of_getElem? (i := 43) rfl))) (by decide) (t := (.array .byte)) (t' := (.object "java/lang/String")) (by decide) (by decide)))
  have F_value := F_value.other W1 (Or.inr (slot_ne (Or.inr (hw _ (List.mem_of_getElem? (i := 51) rfl))) (Or.inr (hw _ (List.mem_of_getElem? (i := 43) rfl))) (by decide) (t := (.array .byte)) (t' := (.object "java/lang/String")) (by decide) (by decide)))
  have F_holdsFor := F_holdsFor.other W1 (Or.inr (slot_ne (Or.inr (hw _ (List.mem_of_getElem? (i := 53) rfl))) (Or.inr (hw _ (List.mem_of_getElem? (i := 43) rfl))) (by decide) (t := .long) (t' := (.object "java/lang/String")) (by decide) (by decide)))
  have F_keptFor := F_keptFor.other W1 (Or.inr (slot_ne (Or.inr (hw _ (List.mem_of_getElem? (i := 55) rfl))) (Or.inr (hw _ (List.mem_of_getElem? (i := 43) rfl))) (by decide) (t := .long) (t' := (.object "java/lang/String")) (by decide) (by decide)))
  have Z0 := Nat.le_trans Z0 (Keep.of_wr W1).1
  have Kp := Kp.wr W1 (Or.inl (List.mem_of_getElem? (i := 0) rfl))
  refine w_aloadN ok dI_9 rfl rfl ?_
  refine w_aloadN ok dI_10 rfl rfl ?_
  refine w_putfield ok (host := "") (Or.inl (hw _ (List.mem_of_getElem? (i := 44) rfl))) Via.refl F_key E_a (Or.inr ⟨(hw _ (List.mem_of_getElem? (i := 45) rfl)), rfl, rfl⟩) (hw _ (List.mem_of_getElem? (i := 31) rfl)) (ty := (.object "java/lang/String")) (by decide) rfl rfl gn_a dI_11 (fun h2 W2 => ?_)
  have E_a := E_a.wr W2
  have F_scope := F_scope.other W2 (Or.inr (slot_ne (Or.inr (hw _ (List.mem_of_getElem? (i := 43) rfl))) (Or.inr (hw _ (List.mem_of_getElem? (i := 45) rfl))) (by decide) (t := (.object "java/lang/String")) (t' := (.object "java/lang/String")) (by decide) (by decide)))
  have F_key := F_key.same W2
  have F_claimId := F_claimId.other W2 (Or.inr (slot_ne (Or.inr (hw _ (List.mem_of_getElem? (i := 47) rfl))) (Or.inr (hw _ (List.mem_of_getElem? (i := 45) rfl))) (by decide) (t := (.object "java/lang/String")) (t' := (.object "java/lang/String")) (by decide) (by decide)))
  have F_fingerprint := F_fingerprint.other W2 (Or.inr (slot_ne (Or.inr (hw _ (List.mem_of_getElem? (i := 49) rfl))) (Or.inr (hw _ (List.mem_of_getElem? (i := 45) rfl))) (by decide) (t := (.array .byte)) (t' := (.object "java/lang/String")) (by decide) (by decide)))
  have F_value := F_value.other W2 (Or.inr (slot_ne (Or.inr (hw _ (List.mem_of_getElem? (i := 51) rfl))) (Or.inr (hw _ (List.mem_of_getElem? (i := 45) rfl))) (by decide) (t := (.array .byte)) (t' := (.object "java/lang/String")) (by decide) (by decide)))
  have F_holdsFor := F_holdsFor.other W2 (Or.inr (slot_ne (Or.inr (hw _ (List.mem_of_getElem? (i := 53) rfl))) (Or.inr (hw _ (List.mem_of_getElem? (i := 45) rfl))) (by decide) (t := .long) (t' := (.object "java/lang/String")) (by decide) (by decide)))
  have F_keptFor := F_keptFor.other W2 (Or.inr (slot_ne (Or.inr (hw _ (List.mem_of_getElem? (i := 55) rfl))) (Or.inr (hw _ (List.mem_of_getElem? (i := 45) rfl))) (by decide) (t := .long) (t' := (.object "java/lang/String")) (by decide) (by decide)))
  have Z0 := Nat.le_trans Z0 (Keep.of_wr W2).1
  have Kp := Kp.wr W2 (Or.inl (List.mem_of_getElem? (i := 0) rfl))
  refine w_aloadN ok dI_14 rfl rfl ?_
  refine w_aloadN ok dI_15 rfl rfl ?_
  refine w_putfield ok (host := "") (Or.inl (hw _ (List.mem_of_getElem? (i := 46) rfl))) Via.refl F_claimId E_a (Or.inr ⟨(hw _ (List.mem_of_getElem? (i := 47) rfl)), rfl, rfl⟩) (hw _ (List.mem_of_getElem? (i := 31) rfl)) (ty := (.object "java/lang/String")) (by decide) rfl rfl gn_a dI_16 (fun h3 W3 => ?_)
  have E_a := E_a.wr W3
  have F_scope := F_scope.other W3 (Or.inr (slot_ne (Or.inr (hw _ (List.mem_of_getElem? (i := 43) rfl))) (Or.inr (hw _ (List.mem_of_getElem? (i := 47) rfl))) (by decide) (t := (.object "java/lang/String")) (t' := (.object "java/lang/String")) (by decide) (by decide)))
  have F_key := F_key.other W3 (Or.inr (slot_ne (Or.inr (hw _ (List.mem_of_getElem? (i := 45) rfl))) (Or.inr (hw _ (List.mem_of_getElem? (i := 47) rfl))) (by decide) (t := (.object "java/lang/String")) (t' := (.object "java/lang/String")) (by decide) (by decide)))
  have F_claimId := F_claimId.same W3
  have F_fingerprint := F_fingerprint.other W3 (Or.inr (slot_ne (Or.inr (hw _ (List.mem_of_getElem? (i := 49) rfl))) (Or.inr (hw _ (List.mem_of_getElem? (i := 47) rfl))) (by decide) (t := (.array .byte)) (t' := (.object "java/lang/String")) (by decide) (by decide)))
  have F_value := F_value.other W3 (Or.inr (slot_ne (Or.inr (hw _ (List.mem_of_getElem? (i := 51) rfl))) (Or.inr (hw _ (List.mem_of_getElem? (i := 47) rfl))) (by decide) (t := (.array .byte)) (t' := (.object "java/lang/String")) (by decide) (by decide)))
  have F_holdsFor := F_holdsFor.other W3 (Or.inr (slot_ne (Or.inr (hw _ (List.mem_of_getElem? (i := 53) rfl))) (Or.inr (hw _ (List.mem_of_getElem? (i := 47) rfl))) (by decide) (t := .long) (t' := (.object "java/lang/String")) (by decide) (by decide)))
  have F_keptFor := F_keptFor.other W3 (Or.inr (slot_ne (Or.inr (hw _ (List.mem_of_getElem? (i := 55) rfl))) (Or.inr (hw _ (List.mem_of_getElem? (i := 47) rfl))) (by decide) (t := .long) (t' := (.object "java/lang/String")) (by decide) (by decide)))
  have Z0 := Nat.le_trans Z0 (Keep.of_wr W3).1
  have Kp := Kp.wr W3 (Or.inl (List.mem_of_getElem? (i := 0) rfl))
  refine w_aloadN ok dI_19 rfl rfl ?_
  refine w_aload ok dI_20 rfl rfl ?_
  refine w_putfield ok (host := "") (Or.inl (hw _ (List.mem_of_getElem? (i := 48) rfl))) Via.refl F_fingerprint E_a (Or.inr ⟨(hw _ (List.mem_of_getElem? (i := 49) rfl)), rfl, rfl⟩) (hw _ (List.mem_of_getElem? (i := 31) rfl)) (ty := (.array .byte)) (by decide) rfl rfl gn_a dI_22 (fun h4 W4 => ?_)
  have E_a := E_a.wr W4
  have F_scope := F_scope.other W4 (Or.inr (slot_ne (Or.inr (hw _ (List.mem_of_getElem? (i := 43) rfl))) (Or.inr (hw _ (List.mem_of_getElem? (i := 49) rfl))) (by decide) (t := (.object "java/lang/String")) (t' := (.array .byte)) (by decide) (by decide)))
  have F_key := F_key.other W4 (Or.inr (slot_ne (Or.inr (hw _ (List.mem_of_getElem? (i := 45) rfl))) (Or.inr (hw _ (List.mem_of_getElem? (i := 49) rfl))) (by decide) (t := (.object "java/lang/String")) (t' := (.array .byte)) (by decide) (by decide)))
  have F_claimId := F_claimId.other W4 (Or.inr (slot_ne (Or.inr (hw _ (List.mem_of_getElem? (i := 47) rfl))) (Or.inr (hw _ (List.mem_of_getElem? (i := 49) rfl))) (by decide) (t := (.object "java/lang/String")) (t' := (.array .byte)) (by decide) (by decide)))
  have F_fingerprint := F_fingerprint.same W4
  have F_value := F_value.other W4 (Or.inr (slot_ne (Or.inr (hw _ (List.mem_of_getElem? (i := 51) rfl))) (Or.inr (hw _ (List.mem_of_getElem? (i := 49) rfl))) (by decide) (t := (.array .byte)) (t' := (.array .byte)) (by decide) (by decide)))
  have F_holdsFor := F_holdsFor.other W4 (Or.inr (slot_ne (Or.inr (hw _ (List.mem_of_getElem? (i := 53) rfl))) (Or.inr (hw _ (List.mem_of_getElem? (i := 49) rfl))) (by decide) (t := .long) (t' := (.array .byte)) (by decide) (by decide)))
  have F_keptFor := F_keptFor.other W4 (Or.inr (slot_ne (Or.inr (hw _ (List.mem_of_getElem? (i := 55) rfl))) (Or.inr (hw _ (List.mem_of_getElem? (i := 49) rfl))) (by decide) (t := .long) (t' := (.array .byte)) (by decide) (by decide)))
  have Z0 := Nat.le_trans Z0 (Keep.of_wr W4).1
  have Kp := Kp.wr W4 (Or.inl (List.mem_of_getElem? (i := 0) rfl))
  refine w_aloadN ok dI_25 rfl rfl ?_
  refine w_aload ok dI_26 rfl rfl ?_
  refine w_putfield ok (host := "") (Or.inl (hw _ (List.mem_of_getElem? (i := 50) rfl))) Via.refl F_value E_a (Or.inr ⟨(hw _ (List.mem_of_getElem? (i := 51) rfl)), rfl, rfl⟩) (hw _ (List.mem_of_getElem? (i := 31) rfl)) (ty := (.array .byte)) (by decide) rfl rfl gn_a dI_28 (fun h5 W5 => ?_)
  have E_a := E_a.wr W5
  have F_scope := F_scope.other W5 (Or.inr (slot_ne (Or.inr (hw _ (List.mem_of_getElem? (i := 43) rfl))) (Or.inr (hw _ (List.mem_of_getElem? (i := 51) rfl))) (by decide) (t := (.object "java/lang/String")) (t' := (.array .byte)) (by decide) (by decide)))
  have F_key := F_key.other W5 (Or.inr (slot_ne (Or.inr (hw _ (List.mem_of_getElem? (i := 45) rfl))) (Or.inr (hw _ (List.mem_of_getElem? (i := 51) rfl))) (by decide) (t := (.object "java/lang/String")) (t' := (.array .byte)) (by decide) (by decide)))
  have F_claimId := F_claimId.other W5 (Or.inr (slot_ne (Or.inr (hw _ (List.mem_of_getElem? (i := 47) rfl))) (Or.inr (hw _ (List.mem_of_getElem? (i := 51) rfl))) (by decide) (t := (.object "java/lang/String")) (t' := (.array .byte)) (by decide) (by decide)))
  have F_fingerprint := F_fingerprint.other W5 (Or.inr (slot_ne (Or.inr (hw _ (List.mem_of_getElem? (i := 49) rfl))) (Or.inr (hw _ (List.mem_of_getElem? (i := 51) rfl))) (by decide) (t := (.array .byte)) (t' := (.array .byte)) (by decide) (by decide)))
  have F_value := F_value.same W5
  have F_holdsFor := F_holdsFor.other W5 (Or.inr (slot_ne (Or.inr (hw _ (List.mem_of_getElem? (i := 53) rfl))) (Or.inr (hw _ (List.mem_of_getElem? (i := 51) rfl))) (by decide) (t := .long) (t' := (.array .byte)) (by decide) (by decide)))
  have F_keptFor := F_keptFor.other W5 (Or.inr (slot_ne (Or.inr (hw _ (List.mem_of_getElem? (i := 55) rfl))) (Or.inr (hw _ (List.mem_of_getElem? (i := 51) rfl))) (by decide) (t := .long) (t' := (.array .byte)) (by decide) (by decide)))
  have Z0 := Nat.le_trans Z0 (Keep.of_wr W5).1
  have Kp := Kp.wr W5 (Or.inl (List.mem_of_getElem? (i := 0) rfl))
  refine w_aloadN ok dI_31 rfl rfl ?_
  refine w_lload ok dI_32 rfl ?_
  refine w_putfield ok (host := "") (Or.inl (hw _ (List.mem_of_getElem? (i := 52) rfl))) Via.refl F_holdsFor E_a (Or.inr ⟨(hw _ (List.mem_of_getElem? (i := 53) rfl)), rfl, rfl⟩) (hw _ (List.mem_of_getElem? (i := 31) rfl)) (ty := .long) (by decide) rfl rfl gn_a dI_34 (fun h6 W6 => ?_)
  have E_a := E_a.wr W6
  have F_scope := F_scope.other W6 (Or.inr (slot_ne (Or.inr (hw _ (List.mem_of_getElem? (i := 43) rfl))) (Or.inr (hw _ (List.mem_of_getElem? (i := 53) rfl))) (by decide) (t := (.object "java/lang/String")) (t' := .long) (by decide) (by decide)))
  have F_key := F_key.other W6 (Or.inr (slot_ne (Or.inr (hw _ (List.mem_of_getElem? (i := 45) rfl))) (Or.inr (hw _ (List.mem_of_getElem? (i := 53) rfl))) (by decide) (t := (.object "java/lang/String")) (t' := .long) (by decide) (by decide)))
  have F_claimId := F_claimId.other W6 (Or.inr (slot_ne (Or.inr (hw _ (List.mem_of_getElem? (i := 47) rfl))) (Or.inr (hw _ (List.mem_of_getElem? (i := 53) rfl))) (by decide) (t := (.object "java/lang/String")) (t' := .long) (by decide) (by decide)))
  have F_fingerprint := F_fingerprint.other W6 (Or.inr (slot_ne (Or.inr (hw _ (List.mem_of_getElem? (i := 49) rfl))) (Or.inr (hw _ (List.mem_of_getElem? (i := 53) rfl))) (by decide) (t := (.array .byte)) (t' := .long) (by decide) (by decide)))
  have F_value := F_value.other W6 (Or.inr (slot_ne (Or.inr (hw _ (List.mem_of_getElem? (i := 51) rfl))) (Or.inr (hw _ (List.mem_of_getElem? (i := 53) rfl))) (by decide) (t := (.array .byte)) (t' := .long) (by decide) (by decide)))
  have F_holdsFor := F_holdsFor.same W6
  have F_keptFor := F_keptFor.other W6 (Or.inr (slot_ne (Or.inr (hw _ (List.mem_of_getElem? (i := 55) rfl))) (Or.inr (hw _ (List.mem_of_getElem? (i := 53) rfl))) (by decide) (t := .long) (t' := .long) (by decide) (by decide)))
  have Z0 := Nat.le_trans Z0 (Keep.of_wr W6).1
  have Kp := Kp.wr W6 (Or.inl (List.mem_of_getElem? (i := 0) rfl))
  refine w_aloadN ok dI_37 rfl rfl ?_
  refine w_lload ok dI_38 rfl ?_
  refine w_putfield ok (host := "") (Or.inl (hw _ (List.mem_of_getElem? (i := 54) rfl))) Via.refl F_keptFor E_a (Or.inr ⟨(hw _ (List.mem_of_getElem? (i := 55) rfl)), rfl, rfl⟩) (hw _ (List.mem_of_getElem? (i := 31) rfl)) (ty := .long) (by decide) rfl rfl gn_a dI_40 (fun h7 W7 => ?_)
  have E_a := E_a.wr W7
  have F_scope := F_scope.other W7 (Or.inr (slot_ne (Or.inr (hw _ (List.mem_of_getElem? (i := 43) rfl))) (Or.inr (hw _ (List.mem_of_getElem? (i := 55) rfl))) (by decide) (t := (.object "java/lang/String")) (t' := .long) (by decide) (by decide)))
  have F_key := F_key.other W7 (Or.inr (slot_ne (Or.inr (hw _ (List.mem_of_getElem? (i := 45) rfl))) (Or.inr (hw _ (List.mem_of_getElem? (i := 55) rfl))) (by decide) (t := (.object "java/lang/String")) (t' := .long) (by decide) (by decide)))
  have F_claimId := F_claimId.other W7 (Or.inr (slot_ne (Or.inr (hw _ (List.mem_of_getElem? (i := 47) rfl))) (Or.inr (hw _ (List.mem_of_getElem? (i := 55) rfl))) (by decide) (t := (.object "java/lang/String")) (t' := .long) (by decide) (by decide)))
  have F_fingerprint := F_fingerprint.other W7 (Or.inr (slot_ne (Or.inr (hw _ (List.mem_of_getElem? (i := 49) rfl))) (Or.inr (hw _ (List.mem_of_getElem? (i := 55) rfl))) (by decide) (t := (.array .byte)) (t' := .long) (by decide) (by decide)))
  have F_value := F_value.other W7 (Or.inr (slot_ne (Or.inr (hw _ (List.mem_of_getElem? (i := 51) rfl))) (Or.inr (hw _ (List.mem_of_getElem? (i := 55) rfl))) (by decide) (t := (.array .byte)) (t' := .long) (by decide) (by decide)))
  have F_holdsFor := F_holdsFor.other W7 (Or.inr (slot_ne (Or.inr (hw _ (List.mem_of_getElem? (i := 53) rfl))) (Or.inr (hw _ (List.mem_of_getElem? (i := 55) rfl))) (by decide) (t := .long) (t' := .long) (by decide) (by decide)))
  have F_keptFor := F_keptFor.same W7
  have Z0 := Nat.le_trans Z0 (Keep.of_wr W7).1
  have Kp := Kp.wr W7 (Or.inl (List.mem_of_getElem? (i := 0) rfl))
  refine w_return ok dI_43 (Nat.le_of_ble_eq_true rfl) (Nat.le_of_ble_eq_true rfl) ?_
  exact ⟨rfl, Kp, E_a, F_scope, F_key, F_claimId, F_fingerprint, F_value, F_holdsFor, F_keptFor⟩
theorem dK_0 : Fet prog_32_method_2_code 0 2 (.bipush 7) 2 := ⟨by decide +kernel, rfl⟩
theorem dK_2 : Fet prog_32_method_2_code 2 5 (.anewarray 33) 3 := ⟨by decide +kernel, rfl⟩
theorem dK_5 : Fet prog_32_method_2_code 5 6 (.dup) 1 := ⟨by decide +kernel, rfl⟩
theorem dK_6 : Fet prog_32_method_2_code 6 7 (.iconst 0) 1 := ⟨by decide +kernel, rfl⟩
theorem dK_7 : Fet prog_32_method_2_code 7 8 (.aload_n 0) 1 := ⟨by decide +kernel, rfl⟩
theorem dK_8 : Fet prog_32_method_2_code 8 11 (.getfield 7) 3 := ⟨by decide +kernel, rfl⟩
theorem dK_11 : Fet prog_32_method_2_code 11 12 (.aastore) 1 := ⟨by decide +kernel, rfl⟩
theorem dK_12 : Fet prog_32_method_2_code 12 13 (.dup) 1 := ⟨by decide +kernel, rfl⟩
theorem dK_13 : Fet prog_32_method_2_code 13 14 (.iconst 1) 1 := ⟨by decide +kernel, rfl⟩
theorem dK_14 : Fet prog_32_method_2_code 14 15 (.aload_n 0) 1 := ⟨by decide +kernel, rfl⟩
theorem dK_15 : Fet prog_32_method_2_code 15 18 (.getfield 13) 3 := ⟨by decide +kernel, rfl⟩
theorem dK_18 : Fet prog_32_method_2_code 18 19 (.aastore) 1 := ⟨by decide +kernel, rfl⟩
theorem dK_19 : Fet prog_32_method_2_code 19 20 (.dup) 1 := ⟨by decide +kernel, rfl⟩
theorem dK_20 : Fet prog_32_method_2_code 20 21 (.iconst 2) 1 := ⟨by decide +kernel, rfl⟩
theorem dK_21 : Fet prog_32_method_2_code 21 22 (.aload_n 0) 1 := ⟨by decide +kernel, rfl⟩
theorem dK_22 : Fet prog_32_method_2_code 22 25 (.getfield 16) 3 := ⟨by decide +kernel, rfl⟩
theorem dK_25 : Fet prog_32_method_2_code 25 26 (.aastore) 1 := ⟨by decide +kernel, rfl⟩
theorem dK_26 : Fet prog_32_method_2_code 26 27 (.dup) 1 := ⟨by decide +kernel, rfl⟩
theorem dK_27 : Fet prog_32_method_2_code 27 28 (.iconst 3) 1 := ⟨by decide +kernel, rfl⟩
theorem dK_28 : Fet prog_32_method_2_code 28 29 (.aload_n 0) 1 := ⟨by decide +kernel, rfl⟩
theorem dK_29 : Fet prog_32_method_2_code 29 32 (.getfield 19) 3 := ⟨by decide +kernel, rfl⟩
theorem dK_32 : Fet prog_32_method_2_code 32 33 (.aastore) 1 := ⟨by decide +kernel, rfl⟩
theorem dK_33 : Fet prog_32_method_2_code 33 34 (.dup) 1 := ⟨by decide +kernel, rfl⟩
theorem dK_34 : Fet prog_32_method_2_code 34 35 (.iconst 4) 1 := ⟨by decide +kernel, rfl⟩
theorem dK_35 : Fet prog_32_method_2_code 35 36 (.aload_n 0) 1 := ⟨by decide +kernel, rfl⟩
theorem dK_36 : Fet prog_32_method_2_code 36 39 (.getfield 23) 3 := ⟨by decide +kernel, rfl⟩
theorem dK_39 : Fet prog_32_method_2_code 39 40 (.aastore) 1 := ⟨by decide +kernel, rfl⟩
theorem dK_40 : Fet prog_32_method_2_code 40 41 (.dup) 1 := ⟨by decide +kernel, rfl⟩
theorem dK_41 : Fet prog_32_method_2_code 41 42 (.iconst 5) 1 := ⟨by decide +kernel, rfl⟩
theorem dK_42 : Fet prog_32_method_2_code 42 43 (.aload_n 0) 1 := ⟨by decide +kernel, rfl⟩
theorem dK_43 : Fet prog_32_method_2_code 43 46 (.getfield 26) 3 := ⟨by decide +kernel, rfl⟩
theorem dK_46 : Fet prog_32_method_2_code 46 49 (.invokestatic 35) 3 := ⟨by decide +kernel, rfl⟩
theorem pd__J_Ljava_lang_Long_ : parseMethodDescriptor "(J)Ljava/lang/Long;" = some ⟨[.long], some (.object "java/lang/Long")⟩ := by decide +kernel
theorem dK_49 : Fet prog_32_method_2_code 49 50 (.aastore) 1 := ⟨by decide +kernel, rfl⟩
theorem dK_50 : Fet prog_32_method_2_code 50 51 (.dup) 1 := ⟨by decide +kernel, rfl⟩
theorem dK_51 : Fet prog_32_method_2_code 51 53 (.bipush 6) 2 := ⟨by decide +kernel, rfl⟩
theorem dK_53 : Fet prog_32_method_2_code 53 54 (.aload_n 0) 1 := ⟨by decide +kernel, rfl⟩
theorem dK_54 : Fet prog_32_method_2_code 54 57 (.getfield 30) 3 := ⟨by decide +kernel, rfl⟩
theorem dK_57 : Fet prog_32_method_2_code 57 60 (.invokestatic 35) 3 := ⟨by decide +kernel, rfl⟩
theorem dK_60 : Fet prog_32_method_2_code 60 61 (.aastore) 1 := ⟨by decide +kernel, rfl⟩
theorem dK_61 : Fet prog_32_method_2_code 61 62 (.areturn) 1 := ⟨by decide +kernel, rfl⟩
set_option maxRecDepth 65536 in
set_option maxHeartbeats 4000000 in
theorem rmKN (l : Launch) (Z : State) (a0 : Array Value) (hw : ∀ d ∈ tables_1, d.before a0 Z = true) (n0 : Nat) (a s1 s2 s3 fp : Addr) (x1 x2 : Int64) (h : Heap) (Z0 : n0 ≤ h.size) (E_a : Exa Z h a "com/example/idemnity/idemnity/SqlDialect$Row") (E_s1 : Exa Z h s1 "java/lang/String") (E_s2 : Exa Z h s2 "java/lang/String") (E_s3 : Exa Z h s3 "java/lang/String") (E_fp : Exa Z h fp "[B") (F_scope : Fld Z h a "com/example/idemnity/idemnity/SqlDialect$Row" "scope" "Ljava/lang/String;" (.ref s1)) (F_key : Fld Z h a "com/example/idemnity/idemnity/SqlDialect$Row" "key" "Ljava/lang/String;" (.ref s2)) (F_claimId : Fld Z h a "com/example/idemnity/idemnity/SqlDialect$Row" "claimId" "Ljava/lang/String;" (.ref s3)) (F_fingerprint : Fld Z h a "com/example/idemnity/idemnity/SqlDialect$Row" "fingerprint" "[B" (.ref fp)) (F_value : Fld Z h a "com/example/idemnity/idemnity/SqlDialect$Row" "value" "[B" .null) (F_holdsFor : Fld Z h a "com/example/idemnity/idemnity/SqlDialect$Row" "holdsFor" "J" (.long x1)) (F_keptFor : Fld Z h a "com/example/idemnity/idemnity/SqlDialect$Row" "keptFor" "J" (.long x2)) (lc : Addr) (cc : Cell) (L0 : Sta Z Z.heap "java/lang/Long$LongCache" "cache" "[Ljava/lang/Long;" (.ref lc)) (Bx : Bxs Z lc cc "java/lang/Long" "J" 256 (fun j => .long (j - 128).toInt64)) (Od : Old Z n0 h) :
    ConV l Z n0 (⟨"com/example/idemnity/idemnity/SqlDialect$Row", "columns", "()[Ljava/lang/Object;"⟩ : MethodName) prog_32_method_2_code 1 (some (.array (.object "java/lang/Object"))) [] ({ frames := 4, cells := 3, slots := 9, locals := 56 } : Room) #[(.ref a)] h (fun w h' => ∃ (arr l1 l2 : Addr), w = .ref arr ∧ Keep h h' [] ∧ AryR Z h' arr "java/lang/Object" [(.ref s1), (.ref s2), (.ref s3), (.ref fp), .null, (.ref l1), (.ref l2)] ∧ Exa Z h' l1 "java/lang/Long" ∧ Fld Z h' l1 "java/lang/Long" "value" "J" (.long x1) ∧ Exa Z h' l2 "java/lang/Long" ∧ Fld Z h' l2 "java/lang/Long" "value" "J" (.long x2)) := by
  refine con_of_wp (Ls := #[.val (.ref a)]) (plainFor_of_name pn_com_example_idemnity_idemnity_SqlDialect_Row) (fun m => by first | (simp [entryFrame, mkF, argsToLocals, Value.category]; done) | rfl) ?_
  intro K ok
  replace ok : Ok Z K prog_32_method_2_code "com/example/idemnity/idemnity/SqlDialect$Row" "columns" 1 (some (.array (.object "java/lang/Object"))) := ok
  show Wp l ({ frames := 4, cells := 3, slots := 9, locals := 56 } : Room) n0 K (fun v h' => ∃ w, v = some w ∧ ∃ (arr l1 l2 : Addr), w = .ref arr ∧ Keep h h' [] ∧ AryR Z h' arr "java/lang/Object" [(.ref s1), (.ref s2), (.ref s3), (.ref fp), .null, (.ref l1), (.ref l2)] ∧ Exa Z h' l1 "java/lang/Long" ∧ Fld Z h' l1 "java/lang/Long" "value" "J" (.long x1) ∧ Exa Z h' l2 "java/lang/Long" ∧ Fld Z h' l2 "java/lang/Long" "value" "J" (.long x2)) h 0 0 0 #[.val (.ref a)] []
  have Kp : Keep h h [] := Keep.refl _ _
  refine w_bipush ok (z := 7) dK_0 rfl ?_
  refine w_anewarray ok (cap := 7) (hw _ (List.mem_of_getElem? (i := 61) rfl)) (hw _ (List.mem_of_getElem? (i := 62) rfl)) dK_2 (by decide) (by decide) (by decide) (k' := 1) (n' := 7) rfl rfl (Nat.le_of_ble_eq_true rfl) (Nat.le_of_ble_eq_true rfl) (fun h1 b1 g1 E1 V_b1 => ?_)
  have ne_s1_b1 : s1 ≠ b1 := Nat.ne_of_lt (Nat.lt_of_lt_of_le E_s1.lt (Nat.le_of_eq g1.symm))
  have ne_s2_b1 : s2 ≠ b1 := Nat.ne_of_lt (Nat.lt_of_lt_of_le E_s2.lt (Nat.le_of_eq g1.symm))
  have ne_s3_b1 : s3 ≠ b1 := Nat.ne_of_lt (Nat.lt_of_lt_of_le E_s3.lt (Nat.le_of_eq g1.symm))
  have ne_fp_b1 : fp ≠ b1 := Nat.ne_of_lt (Nat.lt_of_lt_of_le E_fp.lt (Nat.le_of_eq g1.symm))
  have ne_a_b1 : a ≠ b1 := Nat.ne_of_lt (Nat.lt_of_lt_of_le E_a.lt (Nat.le_of_eq g1.symm))
  have gn_b1 : n0 ≤ b1 := Nat.le_trans Z0 (Nat.le_of_eq g1.symm)
  have Z0 := Nat.le_trans Z0 E1.1
  have hz_b1 := Nat.le_trans Kp.1 (Nat.le_of_eq g1.symm)
  have Kp := Kp.ext E1
  have Od := Od.ext E1
  have E_s1 := E_s1.ext E1
  have E_s2 := E_s2.ext E1
  have E_s3 := E_s3.ext E1
  have E_fp := E_fp.ext E1
  have E_a := E_a.ext E1
  have F_scope := F_scope.ext E1
  have F_key := F_key.ext E1
  have F_claimId := F_claimId.ext E1
  have F_fingerprint := F_fingerprint.ext E1
  have F_value := F_value.ext E1
  have F_holdsFor := F_holdsFor.ext E1
  have F_keptFor := F_keptFor.ext E1
  replace V_b1 : AryR Z h1 b1 "java/lang/Object" [.null, .null, .null, .null, .null, .null, .null] := V_b1
  refine w_dup ok dK_5 rfl ?_
  refine w_iconst ok (z := 0) dK_6 rfl ?_
  refine w_aloadN ok dK_7 rfl rfl ?_
  refine w_getfield ok (host := "") (Or.inl (hw _ (List.mem_of_getElem? (i := 42) rfl))) Via.refl F_scope dK_8 ?_
  refine w_aastore ok (i := 0) V_b1 (Nat.le_of_ble_eq_true rfl) (Nat.le_of_ble_eq_true rfl) gn_b1 (Or.inr ⟨_, rfl, (own_cast E_s1 (hw _ (List.mem_of_getElem? (i := 63) rfl)))⟩) dK_11 (fun h2 W2 V_b1 => ?_)
  have Od := Od.wr W2 gn_b1
  have E_s1 := E_s1.wr W2
  have E_s2 := E_s2.wr W2
  have E_s3 := E_s3.wr W2
  have E_fp := E_fp.wr W2
  have E_a := E_a.wr W2
  have F_scope := F_scope.other W2 (Or.inl ne_a_b1)
  have F_key := F_key.other W2 (Or.inl ne_a_b1)
  have F_claimId := F_claimId.other W2 (Or.inl ne_a_b1)
  have F_fingerprint := F_fingerprint.other W2 (Or.inl ne_a_b1)
  have F_value := F_value.other W2 (Or.inl ne_a_b1)
  have F_holdsFor := F_holdsFor.other W2 (Or.inl ne_a_b1)
  have F_keptFor := F_keptFor.other W2 (Or.inl ne_a_b1)
  have Z0 := Nat.le_trans Z0 (Keep.of_wr W2).1
  have Kp := Kp.wr W2 (Or.inr hz_b1)
  replace V_b1 : AryR Z h2 b1 "java/lang/Object" [(.ref s1), .null, .null, .null, .null, .null, .null] := V_b1
  refine w_dup ok dK_12 rfl ?_
  refine w_iconst ok (z := 1) dK_13 rfl ?_
  refine w_aloadN ok dK_14 rfl rfl ?_
  refine w_getfield ok (host := "") (Or.inl (hw _ (List.mem_of_getElem? (i := 44) rfl))) Via.refl F_key dK_15 ?_
  refine w_aastore ok (i := 1) V_b1 (Nat.le_of_ble_eq_true rfl) (Nat.le_of_ble_eq_true rfl) gn_b1 (Or.inr ⟨_, rfl, (own_cast E_s2 (hw _ (List.mem_of_getElem? (i := 63) rfl)))⟩) dK_18 (fun h3 W3 V_b1 => ?_)
  have Od := Od.wr W3 gn_b1
  have E_s1 := E_s1.wr W3
  have E_s2 := E_s2.wr W3
  have E_s3 := E_s3.wr W3
  have E_fp := E_fp.wr W3
  have E_a := E_a.wr W3
  have F_scope := F_scope.other W3 (Or.inl ne_a_b1)
  have F_key := F_key.other W3 (Or.inl ne_a_b1)
  have F_claimId := F_claimId.other W3 (Or.inl ne_a_b1)
  have F_fingerprint := F_fingerprint.other W3 (Or.inl ne_a_b1)
  have F_value := F_value.other W3 (Or.inl ne_a_b1)
  have F_holdsFor := F_holdsFor.other W3 (Or.inl ne_a_b1)
  have F_keptFor := F_keptFor.other W3 (Or.inl ne_a_b1)
  have Z0 := Nat.le_trans Z0 (Keep.of_wr W3).1
  have Kp := Kp.wr W3 (Or.inr hz_b1)
  replace V_b1 : AryR Z h3 b1 "java/lang/Object" [(.ref s1), (.ref s2), .null, .null, .null, .null, .null] := V_b1
  refine w_dup ok dK_19 rfl ?_
  refine w_iconst ok (z := 2) dK_20 rfl ?_
  refine w_aloadN ok dK_21 rfl rfl ?_
  refine w_getfield ok (host := "") (Or.inl (hw _ (List.mem_of_getElem? (i := 46) rfl))) Via.refl F_claimId dK_22 ?_
  refine w_aastore ok (i := 2) V_b1 (Nat.le_of_ble_eq_true rfl) (Nat.le_of_ble_eq_true rfl) gn_b1 (Or.inr ⟨_, rfl, (own_cast E_s3 (hw _ (List.mem_of_getElem? (i := 63) rfl)))⟩) dK_25 (fun h4 W4 V_b1 => ?_)
  have Od := Od.wr W4 gn_b1
  have E_s1 := E_s1.wr W4
  have E_s2 := E_s2.wr W4
  have E_s3 := E_s3.wr W4
  have E_fp := E_fp.wr W4
  have E_a := E_a.wr W4
  have F_scope := F_scope.other W4 (Or.inl ne_a_b1)
  have F_key := F_key.other W4 (Or.inl ne_a_b1)
  have F_claimId := F_claimId.other W4 (Or.inl ne_a_b1)
  have F_fingerprint := F_fingerprint.other W4 (Or.inl ne_a_b1)
  have F_value := F_value.other W4 (Or.inl ne_a_b1)
  have F_holdsFor := F_holdsFor.other W4 (Or.inl ne_a_b1)
  have F_keptFor := F_keptFor.other W4 (Or.inl ne_a_b1)
  have Z0 := Nat.le_trans Z0 (Keep.of_wr W4).1
  have Kp := Kp.wr W4 (Or.inr hz_b1)
  replace V_b1 : AryR Z h4 b1 "java/lang/Object" [(.ref s1), (.ref s2), (.ref s3), .null, .null, .null, .null] := V_b1
  refine w_dup ok dK_26 rfl ?_
  refine w_iconst ok (z := 3) dK_27 rfl ?_
  refine w_aloadN ok dK_28 rfl rfl ?_
  refine w_getfield ok (host := "") (Or.inl (hw _ (List.mem_of_getElem? (i := 48) rfl))) Via.refl F_fingerprint dK_29 ?_
  refine w_aastore ok (i := 3) V_b1 (Nat.le_of_ble_eq_true rfl) (Nat.le_of_ble_eq_true rfl) gn_b1 (Or.inr ⟨_, rfl, (own_cast E_fp (hw _ (List.mem_of_getElem? (i := 64) rfl)))⟩) dK_32 (fun h5 W5 V_b1 => ?_)
  have Od := Od.wr W5 gn_b1
  have E_s1 := E_s1.wr W5
  have E_s2 := E_s2.wr W5
  have E_s3 := E_s3.wr W5
  have E_fp := E_fp.wr W5
  have E_a := E_a.wr W5
  have F_scope := F_scope.other W5 (Or.inl ne_a_b1)
  have F_key := F_key.other W5 (Or.inl ne_a_b1)
  have F_claimId := F_claimId.other W5 (Or.inl ne_a_b1)
  have F_fingerprint := F_fingerprint.other W5 (Or.inl ne_a_b1)
  have F_value := F_value.other W5 (Or.inl ne_a_b1)
  have F_holdsFor := F_holdsFor.other W5 (Or.inl ne_a_b1)
  have F_keptFor := F_keptFor.other W5 (Or.inl ne_a_b1)
  have Z0 := Nat.le_trans Z0 (Keep.of_wr W5).1
  have Kp := Kp.wr W5 (Or.inr hz_b1)
  replace V_b1 : AryR Z h5 b1 "java/lang/Object" [(.ref s1), (.ref s2), (.ref s3), (.ref fp), .null, .null, .null] := V_b1
  refine w_dup ok dK_33 rfl ?_
  refine w_iconst ok (z := 4) dK_34 rfl ?_
  refine w_aloadN ok dK_35 rfl rfl ?_
  refine w_getfield ok (host := "") (Or.inl (hw _ (List.mem_of_getElem? (i := 50) rfl))) Via.refl F_value dK_36 ?_
  refine w_aastore ok (i := 4) V_b1 (Nat.le_of_ble_eq_true rfl) (Nat.le_of_ble_eq_true rfl) gn_b1 (Or.inl rfl) dK_39 (fun h6 W6 V_b1 => ?_)
  have Od := Od.wr W6 gn_b1
  have E_s1 := E_s1.wr W6
  have E_s2 := E_s2.wr W6
  have E_s3 := E_s3.wr W6
  have E_fp := E_fp.wr W6
  have E_a := E_a.wr W6
  have F_scope := F_scope.other W6 (Or.inl ne_a_b1)
  have F_key := F_key.other W6 (Or.inl ne_a_b1)
  have F_claimId := F_claimId.other W6 (Or.inl ne_a_b1)
  have F_fingerprint := F_fingerprint.other W6 (Or.inl ne_a_b1)
  have F_value := F_value.other W6 (Or.inl ne_a_b1)
  have F_holdsFor := F_holdsFor.other W6 (Or.inl ne_a_b1)
  have F_keptFor := F_keptFor.other W6 (Or.inl ne_a_b1)
  have Z0 := Nat.le_trans Z0 (Keep.of_wr W6).1
  have Kp := Kp.wr W6 (Or.inr hz_b1)
  replace V_b1 : AryR Z h6 b1 "java/lang/Object" [(.ref s1), (.ref s2), (.ref s3), (.ref fp), .null, .null, .null] := V_b1
  refine w_dup ok dK_40 rfl ?_
  refine w_iconst ok (z := 5) dK_41 rfl ?_
  refine w_aloadN ok dK_42 rfl rfl ?_
  refine w_getfield ok (host := "") (Or.inl (hw _ (List.mem_of_getElem? (i := 52) rfl))) Via.refl F_holdsFor dK_43 ?_
  refine w_callSV ok (argsL := [(.long x1)]) (rest := [(.int (5 : Int32)), (.ref b1), (.ref b1)]) (hw _ (List.mem_of_getElem? (i := 65) rfl)) (hw _ (List.mem_of_getElem? (i := 66) rfl)) (hw _ (List.mem_of_getElem? (i := 67) rfl)) (hw _ (List.mem_of_getElem? (i := 68) rfl)) (by decide) (rmV l Z a0 hw n0 x1 h6 Z0 lc cc L0 Bx Od) dK_46 (lenOf pd__J_Ljava_lang_Long_ rfl) rfl rfl (Nat.le_of_ble_eq_true rfl) (Nat.le_of_ble_eq_true rfl) (k' := 2) (n' := 8) rfl rfl (Nat.le_of_ble_eq_true rfl) (Nat.le_of_ble_eq_true rfl) ?_
  rintro _ hl1 ⟨l1, rfl, Kc, E_l1, F_l1⟩
  have Od := Od.keep Kc all0
  have E_s1 := E_s1.keep Kc
  have E_s2 := E_s2.keep Kc
  have E_s3 := E_s3.keep Kc
  have E_fp := E_fp.keep Kc
  have E_a := E_a.keep Kc
  have F_scope := F_scope.keep Kc nin0
  have F_key := F_key.keep Kc nin0
  have F_claimId := F_claimId.keep Kc nin0
  have F_fingerprint := F_fingerprint.keep Kc nin0
  have F_value := F_value.keep Kc nin0
  have F_holdsFor := F_holdsFor.keep Kc nin0
  have F_keptFor := F_keptFor.keep Kc nin0
  have V_b1 := V_b1.keep Kc nin0
  have Z0 := Nat.le_trans Z0 Kc.1
  have Kp := Kp.trans Kc all0
  have nl1 := own_nea E_l1 (hw _ (List.mem_of_getElem? (i := 75) rfl)) V_b1
  refine w_aastore ok (i := 5) V_b1 (Nat.le_of_ble_eq_true rfl) (Nat.le_of_ble_eq_true rfl) gn_b1 (Or.inr ⟨_, rfl, (own_cast E_l1 (hw _ (List.mem_of_getElem? (i := 73) rfl)))⟩) dK_49 (fun h7 W7 V_b1 => ?_)
  have Od := Od.wr W7 gn_b1
  have E_s1 := E_s1.wr W7
  have E_s2 := E_s2.wr W7
  have E_s3 := E_s3.wr W7
  have E_fp := E_fp.wr W7
  have E_a := E_a.wr W7
  have F_scope := F_scope.other W7 (Or.inl ne_a_b1)
  have F_key := F_key.other W7 (Or.inl ne_a_b1)
  have F_claimId := F_claimId.other W7 (Or.inl ne_a_b1)
  have F_fingerprint := F_fingerprint.other W7 (Or.inl ne_a_b1)
  have F_value := F_value.other W7 (Or.inl ne_a_b1)
  have F_holdsFor := F_holdsFor.other W7 (Or.inl ne_a_b1)
  have F_keptFor := F_keptFor.other W7 (Or.inl ne_a_b1)
  have E_l1 := E_l1.wr W7
  have F_l1 := F_l1.other W7 (Or.inl nl1)
  have Z0 := Nat.le_trans Z0 (Keep.of_wr W7).1
  have Kp := Kp.wr W7 (Or.inr hz_b1)
  replace V_b1 : AryR Z h7 b1 "java/lang/Object" [(.ref s1), (.ref s2), (.ref s3), (.ref fp), .null, (.ref l1), .null] := V_b1
  refine w_dup ok dK_50 rfl ?_
  refine w_bipush ok (z := 6) dK_51 rfl ?_
  refine w_aloadN ok dK_53 rfl rfl ?_
  refine w_getfield ok (host := "") (Or.inl (hw _ (List.mem_of_getElem? (i := 54) rfl))) Via.refl F_keptFor dK_54 ?_
  refine w_callSV ok (argsL := [(.long x2)]) (rest := [(.int (6 : Int32)), (.ref b1), (.ref b1)]) (hw _ (List.mem_of_getElem? (i := 65) rfl)) (hw _ (List.mem_of_getElem? (i := 66) rfl)) (hw _ (List.mem_of_getElem? (i := 67) rfl)) (hw _ (List.mem_of_getElem? (i := 68) rfl)) (by decide) (rmV l Z a0 hw n0 x2 h7 Z0 lc cc L0 Bx Od) dK_57 (lenOf pd__J_Ljava_lang_Long_ rfl) rfl rfl (Nat.le_of_ble_eq_true rfl) (Nat.le_of_ble_eq_true rfl) (k' := 3) (n' := 9) rfl rfl (Nat.le_of_ble_eq_true rfl) (Nat.le_of_ble_eq_true rfl) ?_
  rintro _ hl2 ⟨l2, rfl, Kc, E_l2, F_l2⟩
  have Od := Od.keep Kc all0
  have E_s1 := E_s1.keep Kc
  have E_s2 := E_s2.keep Kc
  have E_s3 := E_s3.keep Kc
  have E_fp := E_fp.keep Kc
  have E_a := E_a.keep Kc
  have F_scope := F_scope.keep Kc nin0
  have F_key := F_key.keep Kc nin0
  have F_claimId := F_claimId.keep Kc nin0
  have F_fingerprint := F_fingerprint.keep Kc nin0
  have F_value := F_value.keep Kc nin0
  have F_holdsFor := F_holdsFor.keep Kc nin0
  have F_keptFor := F_keptFor.keep Kc nin0
  have V_b1 := V_b1.keep Kc nin0
  have E_l1 := E_l1.keep Kc
  have F_l1 := F_l1.keep Kc nin0
  have Z0 := Nat.le_trans Z0 Kc.1
  have Kp := Kp.trans Kc all0
  have nl2 := own_nea E_l2 (hw _ (List.mem_of_getElem? (i := 75) rfl)) V_b1
  refine w_aastore ok (i := 6) V_b1 (Nat.le_of_ble_eq_true rfl) (Nat.le_of_ble_eq_true rfl) gn_b1 (Or.inr ⟨_, rfl, (own_cast E_l2 (hw _ (List.mem_of_getElem? (i := 73) rfl)))⟩) dK_60 (fun h8 W8 V_b1 => ?_)
  have Od := Od.wr W8 gn_b1
  have E_s1 := E_s1.wr W8
  have E_s2 := E_s2.wr W8
  have E_s3 := E_s3.wr W8
  have E_fp := E_fp.wr W8
  have E_a := E_a.wr W8
  have F_scope := F_scope.other W8 (Or.inl ne_a_b1)
  have F_key := F_key.other W8 (Or.inl ne_a_b1)
  have F_claimId := F_claimId.other W8 (Or.inl ne_a_b1)
  have F_fingerprint := F_fingerprint.other W8 (Or.inl ne_a_b1)
  have F_value := F_value.other W8 (Or.inl ne_a_b1)
  have F_holdsFor := F_holdsFor.other W8 (Or.inl ne_a_b1)
  have F_keptFor := F_keptFor.other W8 (Or.inl ne_a_b1)
  have E_l1 := E_l1.wr W8
  have F_l1 := F_l1.other W8 (Or.inl nl1)
  have E_l2 := E_l2.wr W8
  have F_l2 := F_l2.other W8 (Or.inl nl2)
  have Z0 := Nat.le_trans Z0 (Keep.of_wr W8).1
  have Kp := Kp.wr W8 (Or.inr hz_b1)
  replace V_b1 : AryR Z h8 b1 "java/lang/Object" [(.ref s1), (.ref s2), (.ref s3), (.ref fp), .null, (.ref l1), (.ref l2)] := V_b1
  refine w_areturn ok rfl rfl rfl dK_61 (Nat.le_of_ble_eq_true rfl) (Nat.le_of_ble_eq_true rfl) ?_
  exact ⟨_, rfl, _, l1, l2, rfl, Kp, V_b1, E_l1, F_l1, E_l2, F_l2⟩
set_option maxRecDepth 65536 in
set_option maxHeartbeats 4000000 in
theorem rmIR (l : Launch) (Z : State) (a0 : Array Value) (hw : ∀ d ∈ tables_1, d.before a0 Z = true) (n0 : Nat) (a s1 s2 s3 fp : Addr) (vl : Addr) (x1 x2 : Int64) (h : Heap) (Z0 : n0 ≤ h.size) (gn_a : n0 ≤ a) (E_a : Exa Z h a "com/example/idemnity/idemnity/SqlDialect$Row") (F_scope : Fld Z h a "com/example/idemnity/idemnity/SqlDialect$Row" "scope" "Ljava/lang/String;" .null) (F_key : Fld Z h a "com/example/idemnity/idemnity/SqlDialect$Row" "key" "Ljava/lang/String;" .null) (F_claimId : Fld Z h a "com/example/idemnity/idemnity/SqlDialect$Row" "claimId" "Ljava/lang/String;" .null) (F_fingerprint : Fld Z h a "com/example/idemnity/idemnity/SqlDialect$Row" "fingerprint" "[B" .null) (F_value : Fld Z h a "com/example/idemnity/idemnity/SqlDialect$Row" "value" "[B" .null) (F_holdsFor : Fld Z h a "com/example/idemnity/idemnity/SqlDialect$Row" "holdsFor" "J" (.long (0 : Int64))) (F_keptFor : Fld Z h a "com/example/idemnity/idemnity/SqlDialect$Row" "keptFor" "J" (.long (0 : Int64))) :
    ConN l Z n0 (⟨"com/example/idemnity/idemnity/SqlDialect$Row", "<init>", "(Ljava/lang/String;Ljava/lang/String;Ljava/lang/String;[B[BJJ)V"⟩ : MethodName) prog_32_method_1_code 10 none [] ({ frames := 2, cells := 0, slots := 0, locals := 24 } : Room) #[(.ref a), (.ref s1), (.ref s2), (.ref s3), (.ref fp), (.ref vl), (.long x1), (.long x2)] h (fun h' => Keep h h' [a] ∧ Exa Z h' a "com/example/idemnity/idemnity/SqlDialect$Row" ∧ Fld Z h' a "com/example/idemnity/idemnity/SqlDialect$Row" "scope" "Ljava/lang/String;" (.ref s1) ∧ Fld Z h' a "com/example/idemnity/idemnity/SqlDialect$Row" "key" "Ljava/lang/String;" (.ref s2) ∧ Fld Z h' a "com/example/idemnity/idemnity/SqlDialect$Row" "claimId" "Ljava/lang/String;" (.ref s3) ∧ Fld Z h' a "com/example/idemnity/idemnity/SqlDialect$Row" "fingerprint" "[B" (.ref fp) ∧ Fld Z h' a "com/example/idemnity/idemnity/SqlDialect$Row" "value" "[B" (.ref vl) ∧ Fld Z h' a "com/example/idemnity/idemnity/SqlDialect$Row" "holdsFor" "J" (.long x1) ∧ Fld Z h' a "com/example/idemnity/idemnity/SqlDialect$Row" "keptFor" "J" (.long x2)) := by
  refine con_of_wp (Ls := #[.val (.ref a), .val (.ref s1), .val (.ref s2), .val (.ref s3), .val (.ref fp), .val (.ref vl), .val (.long x1), .second, .val (.long x2), .second]) (plainFor_of_name pn_com_example_idemnity_idemnity_SqlDialect_Row) (fun m => by first | (simp [entryFrame, mkF, argsToLocals, Value.category]; done) | rfl) ?_
  intro K ok
  replace ok : Ok Z K prog_32_method_1_code "com/example/idemnity/idemnity/SqlDialect$Row" "<init>" 10 none := ok
  show Wp l ({ frames := 2, cells := 0, slots := 0, locals := 24 } : Room) n0 K (fun v h' => v = none ∧ Keep h h' [a] ∧ Exa Z h' a "com/example/idemnity/idemnity/SqlDialect$Row" ∧ Fld Z h' a "com/example/idemnity/idemnity/SqlDialect$Row" "scope" "Ljava/lang/String;" (.ref s1) ∧ Fld Z h' a "com/example/idemnity/idemnity/SqlDialect$Row" "key" "Ljava/lang/String;" (.ref s2) ∧ Fld Z h' a "com/example/idemnity/idemnity/SqlDialect$Row" "claimId" "Ljava/lang/String;" (.ref s3) ∧ Fld Z h' a "com/example/idemnity/idemnity/SqlDialect$Row" "fingerprint" "[B" (.ref fp) ∧ Fld Z h' a "com/example/idemnity/idemnity/SqlDialect$Row" "value" "[B" (.ref vl) ∧ Fld Z h' a "com/example/idemnity/idemnity/SqlDialect$Row" "holdsFor" "J" (.long x1) ∧ Fld Z h' a "com/example/idemnity/idemnity/SqlDialect$Row" "keptFor" "J" (.long x2)) h 0 0 0 #[.val (.ref a), .val (.ref s1), .val (.ref s2), .val (.ref s3), .val (.ref fp), .val (.ref vl), .val (.long x1), .second, .val (.long x2), .second] []
  have Kp : Keep h h [a] := Keep.refl _ _
  refine w_aloadN ok dI_0 rfl rfl ?_
  refine w_init ok (argsL := []) (rest := []) rfl rfl (hw _ (List.mem_of_getElem? (i := 36) rfl)) (hw _ (List.mem_of_getElem? (i := 37) rfl)) (hw _ (List.mem_of_getElem? (i := 39) rfl)) (hw _ (List.mem_of_getElem? (i := 40) rfl)) (by decide) (rmRe l Z a0 hw n0 a h) dI_1 (lenOf pd___V rfl) rfl rfl (Nat.le_of_ble_eq_true rfl) (Nat.le_of_ble_eq_true rfl) (k' := 0) (n' := 0) rfl rfl (Nat.le_of_ble_eq_true rfl) (Nat.le_of_ble_eq_true rfl) ?_
  rintro _ rfl
  refine w_aloadN ok dI_4 rfl rfl ?_
  refine w_aloadN ok dI_5 rfl rfl ?_
  refine w_putfield ok (host := "") (Or.inl (hw _ (List.mem_of_getElem? (i := 42) rfl))) Via.refl F_scope E_a (Or.inr ⟨(hw _ (List.mem_of_getElem? (i := 43) rfl)), rfl, rfl⟩) (hw _ (List.mem_of_getElem? (i := 31) rfl)) (ty := (.object "java/lang/String")) (by decide) rfl rfl gn_a dI_6 (fun h1 W1 => ?_)
  have E_a := E_a.wr W1
  have F_scope := F_scope.same W1
  have F_key := F_key.other W1 (Or.inr (slot_ne (Or.inr (hw _ (List.mem_of_getElem? (i := 45) rfl))) (Or.inr (hw _ (List.mem_of_getElem? (i := 43) rfl))) (by decide) (t := (.object "java/lang/String")) (t' := (.object "java/lang/String")) (by decide) (by decide)))
  have F_claimId := F_claimId.other W1 (Or.inr (slot_ne (Or.inr (hw _ (List.mem_of_getElem? (i := 47) rfl))) (Or.inr (hw _ (List.mem_of_getElem? (i := 43) rfl))) (by decide) (t := (.object "java/lang/String")) (t' := (.object "java/lang/String")) (by decide) (by decide)))
  have F_fingerprint := F_fingerprint.other W1 (Or.inr (slot_ne (Or.inr (hw _ (List.mem_of_getElem? (i := 49) rfl))) (Or.inr (hw _ (List.mem_of_getElem? (i := 43) rfl))) (by decide) (t := (.array .byte)) (t' := (.object "java/lang/String")) (by decide) (by decide)))
  have F_value := F_value.other W1 (Or.inr (slot_ne (Or.inr (hw _ (List.mem_of_getElem? (i := 51) rfl))) (Or.inr (hw _ (List.mem_of_getElem? (i := 43) rfl))) (by decide) (t := (.array .byte)) (t' := (.object "java/lang/String")) (by decide) (by decide)))
  have F_holdsFor := F_holdsFor.other W1 (Or.inr (slot_ne (Or.inr (hw _ (List.mem_of_getElem? (i := 53) rfl))) (Or.inr (hw _ (List.mem_of_getElem? (i := 43) rfl))) (by decide) (t := .long) (t' := (.object "java/lang/String")) (by decide) (by decide)))
  have F_keptFor := F_keptFor.other W1 (Or.inr (slot_ne (Or.inr (hw _ (List.mem_of_getElem? (i := 55) rfl))) (Or.inr (hw _ (List.mem_of_getElem? (i := 43) rfl))) (by decide) (t := .long) (t' := (.object "java/lang/String")) (by decide) (by decide)))
  have Z0 := Nat.le_trans Z0 (Keep.of_wr W1).1
  have Kp := Kp.wr W1 (Or.inl (List.mem_of_getElem? (i := 0) rfl))
  refine w_aloadN ok dI_9 rfl rfl ?_
  refine w_aloadN ok dI_10 rfl rfl ?_
  refine w_putfield ok (host := "") (Or.inl (hw _ (List.mem_of_getElem? (i := 44) rfl))) Via.refl F_key E_a (Or.inr ⟨(hw _ (List.mem_of_getElem? (i := 45) rfl)), rfl, rfl⟩) (hw _ (List.mem_of_getElem? (i := 31) rfl)) (ty := (.object "java/lang/String")) (by decide) rfl rfl gn_a dI_11 (fun h2 W2 => ?_)
  have E_a := E_a.wr W2
  have F_scope := F_scope.other W2 (Or.inr (slot_ne (Or.inr (hw _ (List.mem_of_getElem? (i := 43) rfl))) (Or.inr (hw _ (List.mem_of_getElem? (i := 45) rfl))) (by decide) (t := (.object "java/lang/String")) (t' := (.object "java/lang/String")) (by decide) (by decide)))
  have F_key := F_key.same W2
  have F_claimId := F_claimId.other W2 (Or.inr (slot_ne (Or.inr (hw _ (List.mem_of_getElem? (i := 47) rfl))) (Or.inr (hw _ (List.mem_of_getElem? (i := 45) rfl))) (by decide) (t := (.object "java/lang/String")) (t' := (.object "java/lang/String")) (by decide) (by decide)))
  have F_fingerprint := F_fingerprint.other W2 (Or.inr (slot_ne (Or.inr (hw _ (List.mem_of_getElem? (i := 49) rfl))) (Or.inr (hw _ (List.mem_of_getElem? (i := 45) rfl))) (by decide) (t := (.array .byte)) (t' := (.object "java/lang/String")) (by decide) (by decide)))
  have F_value := F_value.other W2 (Or.inr (slot_ne (Or.inr (hw _ (List.mem_of_getElem? (i := 51) rfl))) (Or.inr (hw _ (List.mem_of_getElem? (i := 45) rfl))) (by decide) (t := (.array .byte)) (t' := (.object "java/lang/String")) (by decide) (by decide)))
  have F_holdsFor := F_holdsFor.other W2 (Or.inr (slot_ne (Or.inr (hw _ (List.mem_of_getElem? (i := 53) rfl))) (Or.inr (hw _ (List.mem_of_getElem? (i := 45) rfl))) (by decide) (t := .long) (t' := (.object "java/lang/String")) (by decide) (by decide)))
  have F_keptFor := F_keptFor.other W2 (Or.inr (slot_ne (Or.inr (hw _ (List.mem_of_getElem? (i := 55) rfl))) (Or.inr (hw _ (List.mem_of_getElem? (i := 45) rfl))) (by decide) (t := .long) (t' := (.object "java/lang/String")) (by decide) (by decide)))
  have Z0 := Nat.le_trans Z0 (Keep.of_wr W2).1
  have Kp := Kp.wr W2 (Or.inl (List.mem_of_getElem? (i := 0) rfl))
  refine w_aloadN ok dI_14 rfl rfl ?_
  refine w_aloadN ok dI_15 rfl rfl ?_
  refine w_putfield ok (host := "") (Or.inl (hw _ (List.mem_of_getElem? (i := 46) rfl))) Via.refl F_claimId E_a (Or.inr ⟨(hw _ (List.mem_of_getElem? (i := 47) rfl)), rfl, rfl⟩) (hw _ (List.mem_of_getElem? (i := 31) rfl)) (ty := (.object "java/lang/String")) (by decide) rfl rfl gn_a dI_16 (fun h3 W3 => ?_)
  have E_a := E_a.wr W3
  have F_scope := F_scope.other W3 (Or.inr (slot_ne (Or.inr (hw _ (List.mem_of_getElem? (i := 43) rfl))) (Or.inr (hw _ (List.mem_of_getElem? (i := 47) rfl))) (by decide) (t := (.object "java/lang/String")) (t' := (.object "java/lang/String")) (by decide) (by decide)))
  have F_key := F_key.other W3 (Or.inr (slot_ne (Or.inr (hw _ (List.mem_of_getElem? (i := 45) rfl))) (Or.inr (hw _ (List.mem_of_getElem? (i := 47) rfl))) (by decide) (t := (.object "java/lang/String")) (t' := (.object "java/lang/String")) (by decide) (by decide)))
  have F_claimId := F_claimId.same W3
  have F_fingerprint := F_fingerprint.other W3 (Or.inr (slot_ne (Or.inr (hw _ (List.mem_of_getElem? (i := 49) rfl))) (Or.inr (hw _ (List.mem_of_getElem? (i := 47) rfl))) (by decide) (t := (.array .byte)) (t' := (.object "java/lang/String")) (by decide) (by decide)))
  have F_value := F_value.other W3 (Or.inr (slot_ne (Or.inr (hw _ (List.mem_of_getElem? (i := 51) rfl))) (Or.inr (hw _ (List.mem_of_getElem? (i := 47) rfl))) (by decide) (t := (.array .byte)) (t' := (.object "java/lang/String")) (by decide) (by decide)))
  have F_holdsFor := F_holdsFor.other W3 (Or.inr (slot_ne (Or.inr (hw _ (List.mem_of_getElem? (i := 53) rfl))) (Or.inr (hw _ (List.mem_of_getElem? (i := 47) rfl))) (by decide) (t := .long) (t' := (.object "java/lang/String")) (by decide) (by decide)))
  have F_keptFor := F_keptFor.other W3 (Or.inr (slot_ne (Or.inr (hw _ (List.mem_of_getElem? (i := 55) rfl))) (Or.inr (hw _ (List.mem_of_getElem? (i := 47) rfl))) (by decide) (t := .long) (t' := (.object "java/lang/String")) (by decide) (by decide)))
  have Z0 := Nat.le_trans Z0 (Keep.of_wr W3).1
  have Kp := Kp.wr W3 (Or.inl (List.mem_of_getElem? (i := 0) rfl))
  refine w_aloadN ok dI_19 rfl rfl ?_
  refine w_aload ok dI_20 rfl rfl ?_
  refine w_putfield ok (host := "") (Or.inl (hw _ (List.mem_of_getElem? (i := 48) rfl))) Via.refl F_fingerprint E_a (Or.inr ⟨(hw _ (List.mem_of_getElem? (i := 49) rfl)), rfl, rfl⟩) (hw _ (List.mem_of_getElem? (i := 31) rfl)) (ty := (.array .byte)) (by decide) rfl rfl gn_a dI_22 (fun h4 W4 => ?_)
  have E_a := E_a.wr W4
  have F_scope := F_scope.other W4 (Or.inr (slot_ne (Or.inr (hw _ (List.mem_of_getElem? (i := 43) rfl))) (Or.inr (hw _ (List.mem_of_getElem? (i := 49) rfl))) (by decide) (t := (.object "java/lang/String")) (t' := (.array .byte)) (by decide) (by decide)))
  have F_key := F_key.other W4 (Or.inr (slot_ne (Or.inr (hw _ (List.mem_of_getElem? (i := 45) rfl))) (Or.inr (hw _ (List.mem_of_getElem? (i := 49) rfl))) (by decide) (t := (.object "java/lang/String")) (t' := (.array .byte)) (by decide) (by decide)))
  have F_claimId := F_claimId.other W4 (Or.inr (slot_ne (Or.inr (hw _ (List.mem_of_getElem? (i := 47) rfl))) (Or.inr (hw _ (List.mem_of_getElem? (i := 49) rfl))) (by decide) (t := (.object "java/lang/String")) (t' := (.array .byte)) (by decide) (by decide)))
  have F_fingerprint := F_fingerprint.same W4
  have F_value := F_value.other W4 (Or.inr (slot_ne (Or.inr (hw _ (List.mem_of_getElem? (i := 51) rfl))) (Or.inr (hw _ (List.mem_of_getElem? (i := 49) rfl))) (by decide) (t := (.array .byte)) (t' := (.array .byte)) (by decide) (by decide)))
  have F_holdsFor := F_holdsFor.other W4 (Or.inr (slot_ne (Or.inr (hw _ (List.mem_of_getElem? (i := 53) rfl))) (Or.inr (hw _ (List.mem_of_getElem? (i := 49) rfl))) (by decide) (t := .long) (t' := (.array .byte)) (by decide) (by decide)))
  have F_keptFor := F_keptFor.other W4 (Or.inr (slot_ne (Or.inr (hw _ (List.mem_of_getElem? (i := 55) rfl))) (Or.inr (hw _ (List.mem_of_getElem? (i := 49) rfl))) (by decide) (t := .long) (t' := (.array .byte)) (by decide) (by decide)))
  have Z0 := Nat.le_trans Z0 (Keep.of_wr W4).1
  have Kp := Kp.wr W4 (Or.inl (List.mem_of_getElem? (i := 0) rfl))
  refine w_aloadN ok dI_25 rfl rfl ?_
  refine w_aload ok dI_26 rfl rfl ?_
  refine w_putfield ok (host := "") (Or.inl (hw _ (List.mem_of_getElem? (i := 50) rfl))) Via.refl F_value E_a (Or.inr ⟨(hw _ (List.mem_of_getElem? (i := 51) rfl)), rfl, rfl⟩) (hw _ (List.mem_of_getElem? (i := 31) rfl)) (ty := (.array .byte)) (by decide) rfl rfl gn_a dI_28 (fun h5 W5 => ?_)
  have E_a := E_a.wr W5
  have F_scope := F_scope.other W5 (Or.inr (slot_ne (Or.inr (hw _ (List.mem_of_getElem? (i := 43) rfl))) (Or.inr (hw _ (List.mem_of_getElem? (i := 51) rfl))) (by decide) (t := (.object "java/lang/String")) (t' := (.array .byte)) (by decide) (by decide)))
  have F_key := F_key.other W5 (Or.inr (slot_ne (Or.inr (hw _ (List.mem_of_getElem? (i := 45) rfl))) (Or.inr (hw _ (List.mem_of_getElem? (i := 51) rfl))) (by decide) (t := (.object "java/lang/String")) (t' := (.array .byte)) (by decide) (by decide)))
  have F_claimId := F_claimId.other W5 (Or.inr (slot_ne (Or.inr (hw _ (List.mem_of_getElem? (i := 47) rfl))) (Or.inr (hw _ (List.mem_of_getElem? (i := 51) rfl))) (by decide) (t := (.object "java/lang/String")) (t' := (.array .byte)) (by decide) (by decide)))
  have F_fingerprint := F_fingerprint.other W5 (Or.inr (slot_ne (Or.inr (hw _ (List.mem_of_getElem? (i := 49) rfl))) (Or.inr (hw _ (List.mem_of_getElem? (i := 51) rfl))) (by decide) (t := (.array .byte)) (t' := (.array .byte)) (by decide) (by decide)))
  have F_value := F_value.same W5
  have F_holdsFor := F_holdsFor.other W5 (Or.inr (slot_ne (Or.inr (hw _ (List.mem_of_getElem? (i := 53) rfl))) (Or.inr (hw _ (List.mem_of_getElem? (i := 51) rfl))) (by decide) (t := .long) (t' := (.array .byte)) (by decide) (by decide)))
  have F_keptFor := F_keptFor.other W5 (Or.inr (slot_ne (Or.inr (hw _ (List.mem_of_getElem? (i := 55) rfl))) (Or.inr (hw _ (List.mem_of_getElem? (i := 51) rfl))) (by decide) (t := .long) (t' := (.array .byte)) (by decide) (by decide)))
  have Z0 := Nat.le_trans Z0 (Keep.of_wr W5).1
  have Kp := Kp.wr W5 (Or.inl (List.mem_of_getElem? (i := 0) rfl))
  refine w_aloadN ok dI_31 rfl rfl ?_
  refine w_lload ok dI_32 rfl ?_
  refine w_putfield ok (host := "") (Or.inl (hw _ (List.mem_of_getElem? (i := 52) rfl))) Via.refl F_holdsFor E_a (Or.inr ⟨(hw _ (List.mem_of_getElem? (i := 53) rfl)), rfl, rfl⟩) (hw _ (List.mem_of_getElem? (i := 31) rfl)) (ty := .long) (by decide) rfl rfl gn_a dI_34 (fun h6 W6 => ?_)
  have E_a := E_a.wr W6
  have F_scope := F_scope.other W6 (Or.inr (slot_ne (Or.inr (hw _ (List.mem_of_getElem? (i := 43) rfl))) (Or.inr (hw _ (List.mem_of_getElem? (i := 53) rfl))) (by decide) (t := (.object "java/lang/String")) (t' := .long) (by decide) (by decide)))
  have F_key := F_key.other W6 (Or.inr (slot_ne (Or.inr (hw _ (List.mem_of_getElem? (i := 45) rfl))) (Or.inr (hw _ (List.mem_of_getElem? (i := 53) rfl))) (by decide) (t := (.object "java/lang/String")) (t' := .long) (by decide) (by decide)))
  have F_claimId := F_claimId.other W6 (Or.inr (slot_ne (Or.inr (hw _ (List.mem_of_getElem? (i := 47) rfl))) (Or.inr (hw _ (List.mem_of_getElem? (i := 53) rfl))) (by decide) (t := (.object "java/lang/String")) (t' := .long) (by decide) (by decide)))
  have F_fingerprint := F_fingerprint.other W6 (Or.inr (slot_ne (Or.inr (hw _ (List.mem_of_getElem? (i := 49) rfl))) (Or.inr (hw _ (List.mem_of_getElem? (i := 53) rfl))) (by decide) (t := (.array .byte)) (t' := .long) (by decide) (by decide)))
  have F_value := F_value.other W6 (Or.inr (slot_ne (Or.inr (hw _ (List.mem_of_getElem? (i := 51) rfl))) (Or.inr (hw _ (List.mem_of_getElem? (i := 53) rfl))) (by decide) (t := (.array .byte)) (t' := .long) (by decide) (by decide)))
  have F_holdsFor := F_holdsFor.same W6
  have F_keptFor := F_keptFor.other W6 (Or.inr (slot_ne (Or.inr (hw _ (List.mem_of_getElem? (i := 55) rfl))) (Or.inr (hw _ (List.mem_of_getElem? (i := 53) rfl))) (by decide) (t := .long) (t' := .long) (by decide) (by decide)))
  have Z0 := Nat.le_trans Z0 (Keep.of_wr W6).1
  have Kp := Kp.wr W6 (Or.inl (List.mem_of_getElem? (i := 0) rfl))
  refine w_aloadN ok dI_37 rfl rfl ?_
  refine w_lload ok dI_38 rfl ?_
  refine w_putfield ok (host := "") (Or.inl (hw _ (List.mem_of_getElem? (i := 54) rfl))) Via.refl F_keptFor E_a (Or.inr ⟨(hw _ (List.mem_of_getElem? (i := 55) rfl)), rfl, rfl⟩) (hw _ (List.mem_of_getElem? (i := 31) rfl)) (ty := .long) (by decide) rfl rfl gn_a dI_40 (fun h7 W7 => ?_)
  have E_a := E_a.wr W7
  have F_scope := F_scope.other W7 (Or.inr (slot_ne (Or.inr (hw _ (List.mem_of_getElem? (i := 43) rfl))) (Or.inr (hw _ (List.mem_of_getElem? (i := 55) rfl))) (by decide) (t := (.object "java/lang/String")) (t' := .long) (by decide) (by decide)))
  have F_key := F_key.other W7 (Or.inr (slot_ne (Or.inr (hw _ (List.mem_of_getElem? (i := 45) rfl))) (Or.inr (hw _ (List.mem_of_getElem? (i := 55) rfl))) (by decide) (t := (.object "java/lang/String")) (t' := .long) (by decide) (by decide)))
  have F_claimId := F_claimId.other W7 (Or.inr (slot_ne (Or.inr (hw _ (List.mem_of_getElem? (i := 47) rfl))) (Or.inr (hw _ (List.mem_of_getElem? (i := 55) rfl))) (by decide) (t := (.object "java/lang/String")) (t' := .long) (by decide) (by decide)))
  have F_fingerprint := F_fingerprint.other W7 (Or.inr (slot_ne (Or.inr (hw _ (List.mem_of_getElem? (i := 49) rfl))) (Or.inr (hw _ (List.mem_of_getElem? (i := 55) rfl))) (by decide) (t := (.array .byte)) (t' := .long) (by decide) (by decide)))
  have F_value := F_value.other W7 (Or.inr (slot_ne (Or.inr (hw _ (List.mem_of_getElem? (i := 51) rfl))) (Or.inr (hw _ (List.mem_of_getElem? (i := 55) rfl))) (by decide) (t := (.array .byte)) (t' := .long) (by decide) (by decide)))
  have F_holdsFor := F_holdsFor.other W7 (Or.inr (slot_ne (Or.inr (hw _ (List.mem_of_getElem? (i := 53) rfl))) (Or.inr (hw _ (List.mem_of_getElem? (i := 55) rfl))) (by decide) (t := .long) (t' := .long) (by decide) (by decide)))
  have F_keptFor := F_keptFor.same W7
  have Z0 := Nat.le_trans Z0 (Keep.of_wr W7).1
  have Kp := Kp.wr W7 (Or.inl (List.mem_of_getElem? (i := 0) rfl))
  refine w_return ok dI_43 (Nat.le_of_ble_eq_true rfl) (Nat.le_of_ble_eq_true rfl) ?_
  exact ⟨rfl, Kp, E_a, F_scope, F_key, F_claimId, F_fingerprint, F_value, F_holdsFor, F_keptFor⟩
set_option maxRecDepth 65536 in
set_option maxHeartbeats 4000000 in
theorem rmKR (l : Launch) (Z : State) (a0 : Array Value) (hw : ∀ d ∈ tables_1, d.before a0 Z = true) (n0 : Nat) (a s1 s2 s3 fp : Addr) (vl : Addr) (x1 x2 : Int64) (h : Heap) (Z0 : n0 ≤ h.size) (E_a : Exa Z h a "com/example/idemnity/idemnity/SqlDialect$Row") (E_s1 : Exa Z h s1 "java/lang/String") (E_s2 : Exa Z h s2 "java/lang/String") (E_s3 : Exa Z h s3 "java/lang/String") (E_fp : Exa Z h fp "[B") (E_vl : Exa Z h vl "[B") (F_scope : Fld Z h a "com/example/idemnity/idemnity/SqlDialect$Row" "scope" "Ljava/lang/String;" (.ref s1)) (F_key : Fld Z h a "com/example/idemnity/idemnity/SqlDialect$Row" "key" "Ljava/lang/String;" (.ref s2)) (F_claimId : Fld Z h a "com/example/idemnity/idemnity/SqlDialect$Row" "claimId" "Ljava/lang/String;" (.ref s3)) (F_fingerprint : Fld Z h a "com/example/idemnity/idemnity/SqlDialect$Row" "fingerprint" "[B" (.ref fp)) (F_value : Fld Z h a "com/example/idemnity/idemnity/SqlDialect$Row" "value" "[B" (.ref vl)) (F_holdsFor : Fld Z h a "com/example/idemnity/idemnity/SqlDialect$Row" "holdsFor" "J" (.long x1)) (F_keptFor : Fld Z h a "com/example/idemnity/idemnity/SqlDialect$Row" "keptFor" "J" (.long x2)) (lc : Addr) (cc : Cell) (L0 : Sta Z Z.heap "java/lang/Long$LongCache" "cache" "[Ljava/lang/Long;" (.ref lc)) (Bx : Bxs Z lc cc "java/lang/Long" "J" 256 (fun j => .long (j - 128).toInt64)) (Od : Old Z n0 h) :
    ConV l Z n0 (⟨"com/example/idemnity/idemnity/SqlDialect$Row", "columns", "()[Ljava/lang/Object;"⟩ : MethodName) prog_32_method_2_code 1 (some (.array (.object "java/lang/Object"))) [] ({ frames := 4, cells := 3, slots := 9, locals := 56 } : Room) #[(.ref a)] h (fun w h' => ∃ (arr l1 l2 : Addr), w = .ref arr ∧ Keep h h' [] ∧ AryR Z h' arr "java/lang/Object" [(.ref s1), (.ref s2), (.ref s3), (.ref fp), (.ref vl), (.ref l1), (.ref l2)] ∧ Exa Z h' l1 "java/lang/Long" ∧ Fld Z h' l1 "java/lang/Long" "value" "J" (.long x1) ∧ Exa Z h' l2 "java/lang/Long" ∧ Fld Z h' l2 "java/lang/Long" "value" "J" (.long x2)) := by
  refine con_of_wp (Ls := #[.val (.ref a)]) (plainFor_of_name pn_com_example_idemnity_idemnity_SqlDialect_Row) (fun m => by first | (simp [entryFrame, mkF, argsToLocals, Value.category]; done) | rfl) ?_
  intro K ok
  replace ok : Ok Z K prog_32_method_2_code "com/example/idemnity/idemnity/SqlDialect$Row" "columns" 1 (some (.array (.object "java/lang/Object"))) := ok
  show Wp l ({ frames := 4, cells := 3, slots := 9, locals := 56 } : Room) n0 K (fun v h' => ∃ w, v = some w ∧ ∃ (arr l1 l2 : Addr), w = .ref arr ∧ Keep h h' [] ∧ AryR Z h' arr "java/lang/Object" [(.ref s1), (.ref s2), (.ref s3), (.ref fp), (.ref vl), (.ref l1), (.ref l2)] ∧ Exa Z h' l1 "java/lang/Long" ∧ Fld Z h' l1 "java/lang/Long" "value" "J" (.long x1) ∧ Exa Z h' l2 "java/lang/Long" ∧ Fld Z h' l2 "java/lang/Long" "value" "J" (.long x2)) h 0 0 0 #[.val (.ref a)] []
  have Kp : Keep h h [] := Keep.refl _ _
  refine w_bipush ok (z := 7) dK_0 rfl ?_
  refine w_anewarray ok (cap := 7) (hw _ (List.mem_of_getElem? (i := 61) rfl)) (hw _ (List.mem_of_getElem? (i := 62) rfl)) dK_2 (by decide) (by decide) (by decide) (k' := 1) (n' := 7) rfl rfl (Nat.le_of_ble_eq_true rfl) (Nat.le_of_ble_eq_true rfl) (fun h1 b1 g1 E1 V_b1 => ?_)
  have ne_s1_b1 : s1 ≠ b1 := Nat.ne_of_lt (Nat.lt_of_lt_of_le E_s1.lt (Nat.le_of_eq g1.symm))
  have ne_s2_b1 : s2 ≠ b1 := Nat.ne_of_lt (Nat.lt_of_lt_of_le E_s2.lt (Nat.le_of_eq g1.symm))
  have ne_s3_b1 : s3 ≠ b1 := Nat.ne_of_lt (Nat.lt_of_lt_of_le E_s3.lt (Nat.le_of_eq g1.symm))
  have ne_fp_b1 : fp ≠ b1 := Nat.ne_of_lt (Nat.lt_of_lt_of_le E_fp.lt (Nat.le_of_eq g1.symm))
  have ne_vl_b1 : vl ≠ b1 := Nat.ne_of_lt (Nat.lt_of_lt_of_le E_vl.lt (Nat.le_of_eq g1.symm))
  have ne_a_b1 : a ≠ b1 := Nat.ne_of_lt (Nat.lt_of_lt_of_le E_a.lt (Nat.le_of_eq g1.symm))
  have gn_b1 : n0 ≤ b1 := Nat.le_trans Z0 (Nat.le_of_eq g1.symm)
  have Z0 := Nat.le_trans Z0 E1.1
  have hz_b1 := Nat.le_trans Kp.1 (Nat.le_of_eq g1.symm)
  have Kp := Kp.ext E1
  have Od := Od.ext E1
  have E_s1 := E_s1.ext E1
  have E_s2 := E_s2.ext E1
  have E_s3 := E_s3.ext E1
  have E_fp := E_fp.ext E1
  have E_vl := E_vl.ext E1
  have E_a := E_a.ext E1
  have F_scope := F_scope.ext E1
  have F_key := F_key.ext E1
  have F_claimId := F_claimId.ext E1
  have F_fingerprint := F_fingerprint.ext E1
  have F_value := F_value.ext E1
  have F_holdsFor := F_holdsFor.ext E1
  have F_keptFor := F_keptFor.ext E1
  replace V_b1 : AryR Z h1 b1 "java/lang/Object" [.null, .null, .null, .null, .null, .null, .null] := V_b1
  refine w_dup ok dK_5 rfl ?_
  refine w_iconst ok (z := 0) dK_6 rfl ?_
  refine w_aloadN ok dK_7 rfl rfl ?_
  refine w_getfield ok (host := "") (Or.inl (hw _ (List.mem_of_getElem? (i := 42) rfl))) Via.refl F_scope dK_8 ?_
  refine w_aastore ok (i := 0) V_b1 (Nat.le_of_ble_eq_true rfl) (Nat.le_of_ble_eq_true rfl) gn_b1 (Or.inr ⟨_, rfl, (own_cast E_s1 (hw _ (List.mem_of_getElem? (i := 63) rfl)))⟩) dK_11 (fun h2 W2 V_b1 => ?_)
  have Od := Od.wr W2 gn_b1
  have E_s1 := E_s1.wr W2
  have E_s2 := E_s2.wr W2
  have E_s3 := E_s3.wr W2
  have E_fp := E_fp.wr W2
  have E_vl := E_vl.wr W2
  have E_a := E_a.wr W2
  have F_scope := F_scope.other W2 (Or.inl ne_a_b1)
  have F_key := F_key.other W2 (Or.inl ne_a_b1)
  have F_claimId := F_claimId.other W2 (Or.inl ne_a_b1)
  have F_fingerprint := F_fingerprint.other W2 (Or.inl ne_a_b1)
  have F_value := F_value.other W2 (Or.inl ne_a_b1)
  have F_holdsFor := F_holdsFor.other W2 (Or.inl ne_a_b1)
  have F_keptFor := F_keptFor.other W2 (Or.inl ne_a_b1)
  have Z0 := Nat.le_trans Z0 (Keep.of_wr W2).1
  have Kp := Kp.wr W2 (Or.inr hz_b1)
  replace V_b1 : AryR Z h2 b1 "java/lang/Object" [(.ref s1), .null, .null, .null, .null, .null, .null] := V_b1
  refine w_dup ok dK_12 rfl ?_
  refine w_iconst ok (z := 1) dK_13 rfl ?_
  refine w_aloadN ok dK_14 rfl rfl ?_
  refine w_getfield ok (host := "") (Or.inl (hw _ (List.mem_of_getElem? (i := 44) rfl))) Via.refl F_key dK_15 ?_
  refine w_aastore ok (i := 1) V_b1 (Nat.le_of_ble_eq_true rfl) (Nat.le_of_ble_eq_true rfl) gn_b1 (Or.inr ⟨_, rfl, (own_cast E_s2 (hw _ (List.mem_of_getElem? (i := 63) rfl)))⟩) dK_18 (fun h3 W3 V_b1 => ?_)
  have Od := Od.wr W3 gn_b1
  have E_s1 := E_s1.wr W3
  have E_s2 := E_s2.wr W3
  have E_s3 := E_s3.wr W3
  have E_fp := E_fp.wr W3
  have E_vl := E_vl.wr W3
  have E_a := E_a.wr W3
  have F_scope := F_scope.other W3 (Or.inl ne_a_b1)
  have F_key := F_key.other W3 (Or.inl ne_a_b1)
  have F_claimId := F_claimId.other W3 (Or.inl ne_a_b1)
  have F_fingerprint := F_fingerprint.other W3 (Or.inl ne_a_b1)
  have F_value := F_value.other W3 (Or.inl ne_a_b1)
  have F_holdsFor := F_holdsFor.other W3 (Or.inl ne_a_b1)
  have F_keptFor := F_keptFor.other W3 (Or.inl ne_a_b1)
  have Z0 := Nat.le_trans Z0 (Keep.of_wr W3).1
  have Kp := Kp.wr W3 (Or.inr hz_b1)
  replace V_b1 : AryR Z h3 b1 "java/lang/Object" [(.ref s1), (.ref s2), .null, .null, .null, .null, .null] := V_b1
  refine w_dup ok dK_19 rfl ?_
  refine w_iconst ok (z := 2) dK_20 rfl ?_
  refine w_aloadN ok dK_21 rfl rfl ?_
  refine w_getfield ok (host := "") (Or.inl (hw _ (List.mem_of_getElem? (i := 46) rfl))) Via.refl F_claimId dK_22 ?_
  refine w_aastore ok (i := 2) V_b1 (Nat.le_of_ble_eq_true rfl) (Nat.le_of_ble_eq_true rfl) gn_b1 (Or.inr ⟨_, rfl, (own_cast E_s3 (hw _ (List.mem_of_getElem? (i := 63) rfl)))⟩) dK_25 (fun h4 W4 V_b1 => ?_)
  have Od := Od.wr W4 gn_b1
  have E_s1 := E_s1.wr W4
  have E_s2 := E_s2.wr W4
  have E_s3 := E_s3.wr W4
  have E_fp := E_fp.wr W4
  have E_vl := E_vl.wr W4
  have E_a := E_a.wr W4
  have F_scope := F_scope.other W4 (Or.inl ne_a_b1)
  have F_key := F_key.other W4 (Or.inl ne_a_b1)
  have F_claimId := F_claimId.other W4 (Or.inl ne_a_b1)
  have F_fingerprint := F_fingerprint.other W4 (Or.inl ne_a_b1)
  have F_value := F_value.other W4 (Or.inl ne_a_b1)
  have F_holdsFor := F_holdsFor.other W4 (Or.inl ne_a_b1)
  have F_keptFor := F_keptFor.other W4 (Or.inl ne_a_b1)
  have Z0 := Nat.le_trans Z0 (Keep.of_wr W4).1
  have Kp := Kp.wr W4 (Or.inr hz_b1)
  replace V_b1 : AryR Z h4 b1 "java/lang/Object" [(.ref s1), (.ref s2), (.ref s3), .null, .null, .null, .null] := V_b1
  refine w_dup ok dK_26 rfl ?_
  refine w_iconst ok (z := 3) dK_27 rfl ?_
  refine w_aloadN ok dK_28 rfl rfl ?_
  refine w_getfield ok (host := "") (Or.inl (hw _ (List.mem_of_getElem? (i := 48) rfl))) Via.refl F_fingerprint dK_29 ?_
  refine w_aastore ok (i := 3) V_b1 (Nat.le_of_ble_eq_true rfl) (Nat.le_of_ble_eq_true rfl) gn_b1 (Or.inr ⟨_, rfl, (own_cast E_fp (hw _ (List.mem_of_getElem? (i := 64) rfl)))⟩) dK_32 (fun h5 W5 V_b1 => ?_)
  have Od := Od.wr W5 gn_b1
  have E_s1 := E_s1.wr W5
  have E_s2 := E_s2.wr W5
  have E_s3 := E_s3.wr W5
  have E_fp := E_fp.wr W5
  have E_vl := E_vl.wr W5
  have E_a := E_a.wr W5
  have F_scope := F_scope.other W5 (Or.inl ne_a_b1)
  have F_key := F_key.other W5 (Or.inl ne_a_b1)
  have F_claimId := F_claimId.other W5 (Or.inl ne_a_b1)
  have F_fingerprint := F_fingerprint.other W5 (Or.inl ne_a_b1)
  have F_value := F_value.other W5 (Or.inl ne_a_b1)
  have F_holdsFor := F_holdsFor.other W5 (Or.inl ne_a_b1)
  have F_keptFor := F_keptFor.other W5 (Or.inl ne_a_b1)
  have Z0 := Nat.le_trans Z0 (Keep.of_wr W5).1
  have Kp := Kp.wr W5 (Or.inr hz_b1)
  replace V_b1 : AryR Z h5 b1 "java/lang/Object" [(.ref s1), (.ref s2), (.ref s3), (.ref fp), .null, .null, .null] := V_b1
  refine w_dup ok dK_33 rfl ?_
  refine w_iconst ok (z := 4) dK_34 rfl ?_
  refine w_aloadN ok dK_35 rfl rfl ?_
  refine w_getfield ok (host := "") (Or.inl (hw _ (List.mem_of_getElem? (i := 50) rfl))) Via.refl F_value dK_36 ?_
  refine w_aastore ok (i := 4) V_b1 (Nat.le_of_ble_eq_true rfl) (Nat.le_of_ble_eq_true rfl) gn_b1 (Or.inr ⟨_, rfl, (own_cast E_vl (hw _ (List.mem_of_getElem? (i := 64) rfl)))⟩) dK_39 (fun h6 W6 V_b1 => ?_)
  have Od := Od.wr W6 gn_b1
  have E_s1 := E_s1.wr W6
  have E_s2 := E_s2.wr W6
  have E_s3 := E_s3.wr W6
  have E_fp := E_fp.wr W6
  have E_vl := E_vl.wr W6
  have E_a := E_a.wr W6
  have F_scope := F_scope.other W6 (Or.inl ne_a_b1)
  have F_key := F_key.other W6 (Or.inl ne_a_b1)
  have F_claimId := F_claimId.other W6 (Or.inl ne_a_b1)
  have F_fingerprint := F_fingerprint.other W6 (Or.inl ne_a_b1)
  have F_value := F_value.other W6 (Or.inl ne_a_b1)
  have F_holdsFor := F_holdsFor.other W6 (Or.inl ne_a_b1)
  have F_keptFor := F_keptFor.other W6 (Or.inl ne_a_b1)
  have Z0 := Nat.le_trans Z0 (Keep.of_wr W6).1
  have Kp := Kp.wr W6 (Or.inr hz_b1)
  replace V_b1 : AryR Z h6 b1 "java/lang/Object" [(.ref s1), (.ref s2), (.ref s3), (.ref fp), (.ref vl), .null, .null] := V_b1
  refine w_dup ok dK_40 rfl ?_
  refine w_iconst ok (z := 5) dK_41 rfl ?_
  refine w_aloadN ok dK_42 rfl rfl ?_
  refine w_getfield ok (host := "") (Or.inl (hw _ (List.mem_of_getElem? (i := 52) rfl))) Via.refl F_holdsFor dK_43 ?_
  refine w_callSV ok (argsL := [(.long x1)]) (rest := [(.int (5 : Int32)), (.ref b1), (.ref b1)]) (hw _ (List.mem_of_getElem? (i := 65) rfl)) (hw _ (List.mem_of_getElem? (i := 66) rfl)) (hw _ (List.mem_of_getElem? (i := 67) rfl)) (hw _ (List.mem_of_getElem? (i := 68) rfl)) (by decide) (rmV l Z a0 hw n0 x1 h6 Z0 lc cc L0 Bx Od) dK_46 (lenOf pd__J_Ljava_lang_Long_ rfl) rfl rfl (Nat.le_of_ble_eq_true rfl) (Nat.le_of_ble_eq_true rfl) (k' := 2) (n' := 8) rfl rfl (Nat.le_of_ble_eq_true rfl) (Nat.le_of_ble_eq_true rfl) ?_
  rintro _ hl1 ⟨l1, rfl, Kc, E_l1, F_l1⟩
  have Od := Od.keep Kc all0
  have E_s1 := E_s1.keep Kc
  have E_s2 := E_s2.keep Kc
  have E_s3 := E_s3.keep Kc
  have E_fp := E_fp.keep Kc
  have E_vl := E_vl.keep Kc
  have E_a := E_a.keep Kc
  have F_scope := F_scope.keep Kc nin0
  have F_key := F_key.keep Kc nin0
  have F_claimId := F_claimId.keep Kc nin0
  have F_fingerprint := F_fingerprint.keep Kc nin0
  have F_value := F_value.keep Kc nin0
  have F_holdsFor := F_holdsFor.keep Kc nin0
  have F_keptFor := F_keptFor.keep Kc nin0
  have V_b1 := V_b1.keep Kc nin0
  have Z0 := Nat.le_trans Z0 Kc.1
  have Kp := Kp.trans Kc all0
  have nl1 := own_nea E_l1 (hw _ (List.mem_of_getElem? (i := 75) rfl)) V_b1
  refine w_aastore ok (i := 5) V_b1 (Nat.le_of_ble_eq_true rfl) (Nat.le_of_ble_eq_true rfl) gn_b1 (Or.inr ⟨_, rfl, (own_cast E_l1 (hw _ (List.mem_of_getElem? (i := 73) rfl)))⟩) dK_49 (fun h7 W7 V_b1 => ?_)
  have Od := Od.wr W7 gn_b1
  have E_s1 := E_s1.wr W7
  have E_s2 := E_s2.wr W7
  have E_s3 := E_s3.wr W7
  have E_fp := E_fp.wr W7
  have E_vl := E_vl.wr W7
  have E_a := E_a.wr W7
  have F_scope := F_scope.other W7 (Or.inl ne_a_b1)
  have F_key := F_key.other W7 (Or.inl ne_a_b1)
  have F_claimId := F_claimId.other W7 (Or.inl ne_a_b1)
  have F_fingerprint := F_fingerprint.other W7 (Or.inl ne_a_b1)
  have F_value := F_value.other W7 (Or.inl ne_a_b1)
  have F_holdsFor := F_holdsFor.other W7 (Or.inl ne_a_b1)
  have F_keptFor := F_keptFor.other W7 (Or.inl ne_a_b1)
  have E_l1 := E_l1.wr W7
  have F_l1 := F_l1.other W7 (Or.inl nl1)
  have Z0 := Nat.le_trans Z0 (Keep.of_wr W7).1
  have Kp := Kp.wr W7 (Or.inr hz_b1)
  replace V_b1 : AryR Z h7 b1 "java/lang/Object" [(.ref s1), (.ref s2), (.ref s3), (.ref fp), (.ref vl), (.ref l1), .null] := V_b1
  refine w_dup ok dK_50 rfl ?_
  refine w_bipush ok (z := 6) dK_51 rfl ?_
  refine w_aloadN ok dK_53 rfl rfl ?_
  refine w_getfield ok (host := "") (Or.inl (hw _ (List.mem_of_getElem? (i := 54) rfl))) Via.refl F_keptFor dK_54 ?_
  refine w_callSV ok (argsL := [(.long x2)]) (rest := [(.int (6 : Int32)), (.ref b1), (.ref b1)]) (hw _ (List.mem_of_getElem? (i := 65) rfl)) (hw _ (List.mem_of_getElem? (i := 66) rfl)) (hw _ (List.mem_of_getElem? (i := 67) rfl)) (hw _ (List.mem_of_getElem? (i := 68) rfl)) (by decide) (rmV l Z a0 hw n0 x2 h7 Z0 lc cc L0 Bx Od) dK_57 (lenOf pd__J_Ljava_lang_Long_ rfl) rfl rfl (Nat.le_of_ble_eq_true rfl) (Nat.le_of_ble_eq_true rfl) (k' := 3) (n' := 9) rfl rfl (Nat.le_of_ble_eq_true rfl) (Nat.le_of_ble_eq_true rfl) ?_
  rintro _ hl2 ⟨l2, rfl, Kc, E_l2, F_l2⟩
  have Od := Od.keep Kc all0
  have E_s1 := E_s1.keep Kc
  have E_s2 := E_s2.keep Kc
  have E_s3 := E_s3.keep Kc
  have E_fp := E_fp.keep Kc
  have E_vl := E_vl.keep Kc
  have E_a := E_a.keep Kc
  have F_scope := F_scope.keep Kc nin0
  have F_key := F_key.keep Kc nin0
  have F_claimId := F_claimId.keep Kc nin0
  have F_fingerprint := F_fingerprint.keep Kc nin0
  have F_value := F_value.keep Kc nin0
  have F_holdsFor := F_holdsFor.keep Kc nin0
  have F_keptFor := F_keptFor.keep Kc nin0
  have V_b1 := V_b1.keep Kc nin0
  have E_l1 := E_l1.keep Kc
  have F_l1 := F_l1.keep Kc nin0
  have Z0 := Nat.le_trans Z0 Kc.1
  have Kp := Kp.trans Kc all0
  have nl2 := own_nea E_l2 (hw _ (List.mem_of_getElem? (i := 75) rfl)) V_b1
  refine w_aastore ok (i := 6) V_b1 (Nat.le_of_ble_eq_true rfl) (Nat.le_of_ble_eq_true rfl) gn_b1 (Or.inr ⟨_, rfl, (own_cast E_l2 (hw _ (List.mem_of_getElem? (i := 73) rfl)))⟩) dK_60 (fun h8 W8 V_b1 => ?_)
  have Od := Od.wr W8 gn_b1
  have E_s1 := E_s1.wr W8
  have E_s2 := E_s2.wr W8
  have E_s3 := E_s3.wr W8
  have E_fp := E_fp.wr W8
  have E_vl := E_vl.wr W8
  have E_a := E_a.wr W8
  have F_scope := F_scope.other W8 (Or.inl ne_a_b1)
  have F_key := F_key.other W8 (Or.inl ne_a_b1)
  have F_claimId := F_claimId.other W8 (Or.inl ne_a_b1)
  have F_fingerprint := F_fingerprint.other W8 (Or.inl ne_a_b1)
  have F_value := F_value.other W8 (Or.inl ne_a_b1)
  have F_holdsFor := F_holdsFor.other W8 (Or.inl ne_a_b1)
  have F_keptFor := F_keptFor.other W8 (Or.inl ne_a_b1)
  have E_l1 := E_l1.wr W8
  have F_l1 := F_l1.other W8 (Or.inl nl1)
  have E_l2 := E_l2.wr W8
  have F_l2 := F_l2.other W8 (Or.inl nl2)
  have Z0 := Nat.le_trans Z0 (Keep.of_wr W8).1
  have Kp := Kp.wr W8 (Or.inr hz_b1)
  replace V_b1 : AryR Z h8 b1 "java/lang/Object" [(.ref s1), (.ref s2), (.ref s3), (.ref fp), (.ref vl), (.ref l1), (.ref l2)] := V_b1
  refine w_areturn ok rfl rfl rfl dK_61 (Nat.le_of_ble_eq_true rfl) (Nat.le_of_ble_eq_true rfl) ?_
  exact ⟨_, rfl, _, l1, l2, rfl, Kp, V_b1, E_l1, F_l1, E_l2, F_l2⟩
theorem d0_0 : Fet code 0 3 (.new 7) 3 := ⟨by decide +kernel, rfl⟩
theorem d0_3 : Fet code 3 4 (.dup) 1 := ⟨by decide +kernel, rfl⟩
theorem d0_4 : Fet code 4 5 (.iconst 1) 1 := ⟨by decide +kernel, rfl⟩
theorem d0_5 : Fet code 5 7 (.newarray .char) 2 := ⟨by decide +kernel, rfl⟩
theorem d0_7 : Fet code 7 8 (.dup) 1 := ⟨by decide +kernel, rfl⟩
theorem d0_8 : Fet code 8 9 (.iconst 0) 1 := ⟨by decide +kernel, rfl⟩
theorem d0_9 : Fet code 9 10 (.iload_n 0) 1 := ⟨by decide +kernel, rfl⟩
theorem d0_10 : Fet code 10 13 (.sipush 255) 3 := ⟨by decide +kernel, rfl⟩
theorem d0_13 : Fet code 13 14 (.iand) 1 := ⟨by decide +kernel, rfl⟩
theorem d0_14 : Fet code 14 15 (.i2c) 1 := ⟨by decide +kernel, rfl⟩
theorem d0_15 : Fet code 15 16 (.castore) 1 := ⟨by decide +kernel, rfl⟩
theorem d0_16 : Fet code 16 19 (.invokespecial 9) 3 := ⟨by decide +kernel, rfl⟩
theorem pd__ArC_V : parseMethodDescriptor "([C)V" = some ⟨[(.array .char)], none⟩ := by decide +kernel
theorem d0_19 : Fet code 19 21 (.astore 6) 2 := ⟨by decide +kernel, rfl⟩
theorem d0_21 : Fet code 21 24 (.new 7) 3 := ⟨by decide +kernel, rfl⟩
theorem d0_24 : Fet code 24 25 (.dup) 1 := ⟨by decide +kernel, rfl⟩
theorem d0_25 : Fet code 25 26 (.iconst 1) 1 := ⟨by decide +kernel, rfl⟩
theorem d0_26 : Fet code 26 28 (.newarray .char) 2 := ⟨by decide +kernel, rfl⟩
theorem d0_28 : Fet code 28 29 (.dup) 1 := ⟨by decide +kernel, rfl⟩
theorem d0_29 : Fet code 29 30 (.iconst 0) 1 := ⟨by decide +kernel, rfl⟩
theorem d0_30 : Fet code 30 31 (.iload_n 0) 1 := ⟨by decide +kernel, rfl⟩
theorem d0_31 : Fet code 31 33 (.bipush 8) 2 := ⟨by decide +kernel, rfl⟩
theorem d0_33 : Fet code 33 34 (.iushr) 1 := ⟨by decide +kernel, rfl⟩
theorem d0_34 : Fet code 34 37 (.sipush 255) 3 := ⟨by decide +kernel, rfl⟩
theorem d0_37 : Fet code 37 38 (.iand) 1 := ⟨by decide +kernel, rfl⟩
theorem d0_38 : Fet code 38 39 (.i2c) 1 := ⟨by decide +kernel, rfl⟩
theorem d0_39 : Fet code 39 40 (.castore) 1 := ⟨by decide +kernel, rfl⟩
theorem d0_40 : Fet code 40 43 (.invokespecial 9) 3 := ⟨by decide +kernel, rfl⟩
theorem d0_43 : Fet code 43 45 (.astore 7) 2 := ⟨by decide +kernel, rfl⟩
theorem d0_45 : Fet code 45 48 (.new 7) 3 := ⟨by decide +kernel, rfl⟩
theorem d0_48 : Fet code 48 49 (.dup) 1 := ⟨by decide +kernel, rfl⟩
theorem d0_49 : Fet code 49 50 (.iconst 1) 1 := ⟨by decide +kernel, rfl⟩
theorem d0_50 : Fet code 50 52 (.newarray .char) 2 := ⟨by decide +kernel, rfl⟩
theorem d0_52 : Fet code 52 53 (.dup) 1 := ⟨by decide +kernel, rfl⟩
theorem d0_53 : Fet code 53 54 (.iconst 0) 1 := ⟨by decide +kernel, rfl⟩
theorem d0_54 : Fet code 54 55 (.iload_n 0) 1 := ⟨by decide +kernel, rfl⟩
theorem d0_55 : Fet code 55 57 (.bipush 16) 2 := ⟨by decide +kernel, rfl⟩
theorem d0_57 : Fet code 57 58 (.iushr) 1 := ⟨by decide +kernel, rfl⟩
theorem d0_58 : Fet code 58 61 (.sipush 255) 3 := ⟨by decide +kernel, rfl⟩
theorem d0_61 : Fet code 61 62 (.iand) 1 := ⟨by decide +kernel, rfl⟩
theorem d0_62 : Fet code 62 63 (.i2c) 1 := ⟨by decide +kernel, rfl⟩
theorem d0_63 : Fet code 63 64 (.castore) 1 := ⟨by decide +kernel, rfl⟩
theorem d0_64 : Fet code 64 67 (.invokespecial 9) 3 := ⟨by decide +kernel, rfl⟩
theorem d0_67 : Fet code 67 69 (.astore 8) 2 := ⟨by decide +kernel, rfl⟩
theorem d0_69 : Fet code 69 70 (.iconst 1) 1 := ⟨by decide +kernel, rfl⟩
theorem d0_70 : Fet code 70 72 (.newarray .byte) 2 := ⟨by decide +kernel, rfl⟩
theorem d0_72 : Fet code 72 73 (.dup) 1 := ⟨by decide +kernel, rfl⟩
theorem d0_73 : Fet code 73 74 (.iconst 0) 1 := ⟨by decide +kernel, rfl⟩
theorem d0_74 : Fet code 74 75 (.iload_n 0) 1 := ⟨by decide +kernel, rfl⟩
theorem d0_75 : Fet code 75 77 (.bipush 24) 2 := ⟨by decide +kernel, rfl⟩
theorem d0_77 : Fet code 77 78 (.iushr) 1 := ⟨by decide +kernel, rfl⟩
theorem d0_78 : Fet code 78 79 (.i2b) 1 := ⟨by decide +kernel, rfl⟩
theorem d0_79 : Fet code 79 80 (.bastore) 1 := ⟨by decide +kernel, rfl⟩
theorem d0_80 : Fet code 80 82 (.astore 9) 2 := ⟨by decide +kernel, rfl⟩
theorem d0_82 : Fet code 82 83 (.iload_n 1) 1 := ⟨by decide +kernel, rfl⟩
theorem d0_83 : Fet code 83 84 (.iconst 1) 1 := ⟨by decide +kernel, rfl⟩
theorem d0_84 : Fet code 84 85 (.iand) 1 := ⟨by decide +kernel, rfl⟩
theorem d0_85 : Brn code 85 88 92 (.ifCond .eq 7) 7 := ⟨by decide +kernel, rfl, by decide, by decide⟩
theorem d0_88 : Fet code 88 89 (.aconst_null) 1 := ⟨by decide +kernel, rfl⟩
theorem d0_89 : Brn code 89 92 110 (.goto 21) 21 := ⟨by decide +kernel, rfl, by decide, by decide⟩
theorem d0_110 : Fet code 110 112 (.astore 10) 2 := ⟨by decide +kernel, rfl⟩
theorem d0_112 : Fet code 112 115 (.new 12) 3 := ⟨by decide +kernel, rfl⟩
theorem d0_115 : Fet code 115 116 (.dup) 1 := ⟨by decide +kernel, rfl⟩
theorem d0_116 : Fet code 116 118 (.aload 6) 2 := ⟨by decide +kernel, rfl⟩
theorem d0_118 : Fet code 118 120 (.aload 7) 2 := ⟨by decide +kernel, rfl⟩
theorem d0_120 : Fet code 120 122 (.aload 8) 2 := ⟨by decide +kernel, rfl⟩
theorem d0_122 : Fet code 122 124 (.aload 9) 2 := ⟨by decide +kernel, rfl⟩
theorem d0_124 : Fet code 124 126 (.aload 10) 2 := ⟨by decide +kernel, rfl⟩
theorem d0_126 : Fet code 126 127 (.lload_n 2) 1 := ⟨by decide +kernel, rfl⟩
theorem d0_127 : Fet code 127 129 (.lload 4) 2 := ⟨by decide +kernel, rfl⟩
theorem d0_129 : Fet code 129 132 (.invokespecial 14) 3 := ⟨by decide +kernel, rfl⟩
theorem pd__Ljava_lang_String_Ljava_lang_String_Ljava_lang_String_ArBArBJJ_V : parseMethodDescriptor "(Ljava/lang/String;Ljava/lang/String;Ljava/lang/String;[B[BJJ)V" = some ⟨[(.object "java/lang/String"), (.object "java/lang/String"), (.object "java/lang/String"), (.array .byte), (.array .byte), .long, .long], none⟩ := by decide +kernel
theorem d0_132 : Fet code 132 134 (.astore 11) 2 := ⟨by decide +kernel, rfl⟩
theorem d0_134 : Fet code 134 136 (.aload 11) 2 := ⟨by decide +kernel, rfl⟩
theorem d0_136 : Fet code 136 139 (.invokevirtual 17) 3 := ⟨by decide +kernel, rfl⟩
theorem pd___ArLjava_lang_Object_ : parseMethodDescriptor "()[Ljava/lang/Object;" = some ⟨[], some (.array (.object "java/lang/Object"))⟩ := by decide +kernel
theorem d0_139 : Fet code 139 141 (.astore 12) 2 := ⟨by decide +kernel, rfl⟩
theorem d0_141 : Fet code 141 143 (.aload 12) 2 := ⟨by decide +kernel, rfl⟩
theorem d0_143 : Brn code 143 146 154 (.ifnull 11) 11 := ⟨by decide +kernel, rfl, by decide, by decide⟩
theorem d0_146 : Fet code 146 148 (.aload 12) 2 := ⟨by decide +kernel, rfl⟩
theorem d0_148 : Fet code 148 149 (.arraylength) 1 := ⟨by decide +kernel, rfl⟩
theorem d0_149 : Fet code 149 151 (.bipush 7) 2 := ⟨by decide +kernel, rfl⟩
theorem d0_151 : Brn code 151 154 156 (.if_icmp .eq 5) 5 := ⟨by decide +kernel, rfl, by decide, by decide⟩
theorem d0_156 : Fet code 156 158 (.aload 12) 2 := ⟨by decide +kernel, rfl⟩
theorem d0_158 : Fet code 158 159 (.iconst 0) 1 := ⟨by decide +kernel, rfl⟩
theorem d0_159 : Fet code 159 160 (.aaload) 1 := ⟨by decide +kernel, rfl⟩
theorem d0_160 : Fet code 160 162 (.aload 6) 2 := ⟨by decide +kernel, rfl⟩
theorem d0_162 : Brn code 162 165 205 (.if_acmp .ne 43) 43 := ⟨by decide +kernel, rfl, by decide, by decide⟩
theorem d0_165 : Fet code 165 167 (.aload 12) 2 := ⟨by decide +kernel, rfl⟩
theorem d0_167 : Fet code 167 168 (.iconst 1) 1 := ⟨by decide +kernel, rfl⟩
theorem d0_168 : Fet code 168 169 (.aaload) 1 := ⟨by decide +kernel, rfl⟩
theorem d0_169 : Fet code 169 171 (.aload 7) 2 := ⟨by decide +kernel, rfl⟩
theorem d0_171 : Brn code 171 174 205 (.if_acmp .ne 34) 34 := ⟨by decide +kernel, rfl, by decide, by decide⟩
theorem d0_174 : Fet code 174 176 (.aload 12) 2 := ⟨by decide +kernel, rfl⟩
theorem d0_176 : Fet code 176 177 (.iconst 2) 1 := ⟨by decide +kernel, rfl⟩
theorem d0_177 : Fet code 177 178 (.aaload) 1 := ⟨by decide +kernel, rfl⟩
theorem d0_178 : Fet code 178 180 (.aload 8) 2 := ⟨by decide +kernel, rfl⟩
theorem d0_180 : Brn code 180 183 205 (.if_acmp .ne 25) 25 := ⟨by decide +kernel, rfl, by decide, by decide⟩
theorem d0_183 : Fet code 183 185 (.aload 12) 2 := ⟨by decide +kernel, rfl⟩
theorem d0_185 : Fet code 185 186 (.iconst 3) 1 := ⟨by decide +kernel, rfl⟩
theorem d0_186 : Fet code 186 187 (.aaload) 1 := ⟨by decide +kernel, rfl⟩
theorem d0_187 : Fet code 187 189 (.aload 9) 2 := ⟨by decide +kernel, rfl⟩
theorem d0_189 : Brn code 189 192 205 (.if_acmp .ne 16) 16 := ⟨by decide +kernel, rfl, by decide, by decide⟩
theorem d0_192 : Fet code 192 194 (.aload 12) 2 := ⟨by decide +kernel, rfl⟩
theorem d0_194 : Fet code 194 195 (.iconst 4) 1 := ⟨by decide +kernel, rfl⟩
theorem d0_195 : Fet code 195 196 (.aaload) 1 := ⟨by decide +kernel, rfl⟩
theorem d0_196 : Fet code 196 198 (.aload 10) 2 := ⟨by decide +kernel, rfl⟩
theorem d0_198 : Brn code 198 201 205 (.if_acmp .ne 7) 7 := ⟨by decide +kernel, rfl, by decide, by decide⟩
theorem d0_201 : Fet code 201 202 (.iconst 1) 1 := ⟨by decide +kernel, rfl⟩
theorem d0_202 : Brn code 202 205 206 (.goto 4) 4 := ⟨by decide +kernel, rfl, by decide, by decide⟩
theorem d0_206 : Fet code 206 208 (.istore 13) 2 := ⟨by decide +kernel, rfl⟩
theorem d0_208 : Fet code 208 210 (.aload 12) 2 := ⟨by decide +kernel, rfl⟩
theorem d0_210 : Fet code 210 211 (.iconst 5) 1 := ⟨by decide +kernel, rfl⟩
theorem d0_211 : Fet code 211 212 (.aaload) 1 := ⟨by decide +kernel, rfl⟩
theorem d0_212 : Fet code 212 215 (.instanceof 21) 3 := ⟨by decide +kernel, rfl⟩
theorem d0_215 : Brn code 215 218 237 (.ifCond .eq 22) 22 := ⟨by decide +kernel, rfl, by decide, by decide⟩
theorem d0_218 : Fet code 218 220 (.aload 12) 2 := ⟨by decide +kernel, rfl⟩
theorem d0_220 : Fet code 220 221 (.iconst 5) 1 := ⟨by decide +kernel, rfl⟩
theorem d0_221 : Fet code 221 222 (.aaload) 1 := ⟨by decide +kernel, rfl⟩
theorem d0_222 : Fet code 222 225 (.checkcast 21) 3 := ⟨by decide +kernel, rfl⟩
theorem d0_225 : Fet code 225 228 (.invokevirtual 23) 3 := ⟨by decide +kernel, rfl⟩
theorem pd___J : parseMethodDescriptor "()J" = some ⟨[], some .long⟩ := by decide +kernel
theorem d0_228 : Fet code 228 229 (.lload_n 2) 1 := ⟨by decide +kernel, rfl⟩
theorem d0_229 : Fet code 229 230 (.lcmp) 1 := ⟨by decide +kernel, rfl⟩
theorem d0_230 : Brn code 230 233 237 (.ifCond .ne 7) 7 := ⟨by decide +kernel, rfl, by decide, by decide⟩
theorem d0_233 : Fet code 233 234 (.iconst 1) 1 := ⟨by decide +kernel, rfl⟩
theorem d0_234 : Brn code 234 237 238 (.goto 4) 4 := ⟨by decide +kernel, rfl, by decide, by decide⟩
theorem d0_238 : Fet code 238 240 (.istore 14) 2 := ⟨by decide +kernel, rfl⟩
theorem d0_240 : Fet code 240 242 (.aload 12) 2 := ⟨by decide +kernel, rfl⟩
theorem d0_242 : Fet code 242 244 (.bipush 6) 2 := ⟨by decide +kernel, rfl⟩
theorem d0_244 : Fet code 244 245 (.aaload) 1 := ⟨by decide +kernel, rfl⟩
theorem d0_245 : Fet code 245 248 (.instanceof 21) 3 := ⟨by decide +kernel, rfl⟩
theorem d0_248 : Brn code 248 251 272 (.ifCond .eq 24) 24 := ⟨by decide +kernel, rfl, by decide, by decide⟩
theorem d0_251 : Fet code 251 253 (.aload 12) 2 := ⟨by decide +kernel, rfl⟩
theorem d0_253 : Fet code 253 255 (.bipush 6) 2 := ⟨by decide +kernel, rfl⟩
theorem d0_255 : Fet code 255 256 (.aaload) 1 := ⟨by decide +kernel, rfl⟩
theorem d0_256 : Fet code 256 259 (.checkcast 21) 3 := ⟨by decide +kernel, rfl⟩
theorem d0_259 : Fet code 259 262 (.invokevirtual 23) 3 := ⟨by decide +kernel, rfl⟩
theorem d0_262 : Fet code 262 264 (.lload 4) 2 := ⟨by decide +kernel, rfl⟩
theorem d0_264 : Fet code 264 265 (.lcmp) 1 := ⟨by decide +kernel, rfl⟩
theorem d0_265 : Brn code 265 268 272 (.ifCond .ne 7) 7 := ⟨by decide +kernel, rfl, by decide, by decide⟩
theorem d0_268 : Fet code 268 269 (.iconst 1) 1 := ⟨by decide +kernel, rfl⟩
theorem d0_269 : Brn code 269 272 273 (.goto 4) 4 := ⟨by decide +kernel, rfl, by decide, by decide⟩
theorem d0_273 : Fet code 273 275 (.istore 15) 2 := ⟨by decide +kernel, rfl⟩
theorem d0_275 : Fet code 275 277 (.iload 13) 2 := ⟨by decide +kernel, rfl⟩
theorem d0_277 : Brn code 277 280 294 (.ifCond .eq 17) 17 := ⟨by decide +kernel, rfl, by decide, by decide⟩
theorem d0_280 : Fet code 280 282 (.iload 14) 2 := ⟨by decide +kernel, rfl⟩
theorem d0_282 : Brn code 282 285 294 (.ifCond .eq 12) 12 := ⟨by decide +kernel, rfl, by decide, by decide⟩
theorem d0_285 : Fet code 285 287 (.iload 15) 2 := ⟨by decide +kernel, rfl⟩
theorem d0_287 : Brn code 287 290 294 (.ifCond .eq 7) 7 := ⟨by decide +kernel, rfl, by decide, by decide⟩
theorem d0_290 : Fet code 290 291 (.iconst 1) 1 := ⟨by decide +kernel, rfl⟩
theorem d0_291 : Brn code 291 294 295 (.goto 4) 4 := ⟨by decide +kernel, rfl, by decide, by decide⟩
theorem d0_295 : Fet code 295 296 (.ireturn) 1 := ⟨by decide +kernel, rfl⟩
theorem d0_92 : Fet code 92 93 (.iconst 2) 1 := ⟨by decide +kernel, rfl⟩
theorem d0_93 : Fet code 93 95 (.newarray .byte) 2 := ⟨by decide +kernel, rfl⟩
theorem d0_95 : Fet code 95 96 (.dup) 1 := ⟨by decide +kernel, rfl⟩
theorem d0_96 : Fet code 96 97 (.iconst 0) 1 := ⟨by decide +kernel, rfl⟩
theorem d0_97 : Fet code 97 98 (.iload_n 1) 1 := ⟨by decide +kernel, rfl⟩
theorem d0_98 : Fet code 98 99 (.iconst 1) 1 := ⟨by decide +kernel, rfl⟩
theorem d0_99 : Fet code 99 100 (.iushr) 1 := ⟨by decide +kernel, rfl⟩
theorem d0_100 : Fet code 100 101 (.i2b) 1 := ⟨by decide +kernel, rfl⟩
theorem d0_101 : Fet code 101 102 (.bastore) 1 := ⟨by decide +kernel, rfl⟩
theorem d0_102 : Fet code 102 103 (.dup) 1 := ⟨by decide +kernel, rfl⟩
theorem d0_103 : Fet code 103 104 (.iconst 1) 1 := ⟨by decide +kernel, rfl⟩
theorem d0_104 : Fet code 104 105 (.iload_n 1) 1 := ⟨by decide +kernel, rfl⟩
theorem d0_105 : Fet code 105 107 (.bipush 9) 2 := ⟨by decide +kernel, rfl⟩
theorem d0_107 : Fet code 107 108 (.iushr) 1 := ⟨by decide +kernel, rfl⟩
theorem d0_108 : Fet code 108 109 (.i2b) 1 := ⟨by decide +kernel, rfl⟩
theorem d0_109 : Fet code 109 110 (.bastore) 1 := ⟨by decide +kernel, rfl⟩
theorem pn_com_example_idemnity_idemnity_RowColumnsPinLaw : plainName "com/example/idemnity/idemnity/RowColumnsPinLaw" = true := by first | (simp [plainName, overriddenIn]; done) | decide +kernel
set_option maxRecDepth 65536 in
set_option maxHeartbeats 4000000 in
theorem rm0 (l : Launch) (Z : State) (a0 : Array Value) (hw : ∀ d ∈ tables_1, d.before a0 Z = true) (n0 : Nat) (ch fl : Int32) (x1 x2 : Int64) (h : Heap) (Z0 : n0 ≤ h.size) (Od : Old Z n0 h) (cs : Int32) (hcs : cs ≠ 0) (S0 : Sta Z Z.heap "java/lang/String" "COMPACT_STRINGS" "Z" (.int cs)) (lc : Addr) (cc : Cell) (L0 : Sta Z Z.heap "java/lang/Long$LongCache" "cache" "[Ljava/lang/Long;" (.ref lc)) (Bx : Bxs Z lc cc "java/lang/Long" "J" 256 (fun j => .long (j - 128).toInt64)) :
    ConV l Z n0 x code maxLocals ret tables_1 room_1 #[(.int ch), (.int fl), (.long x1), (.long x2)] h (fun w h' => w = .int 1) := by
  refine con_of_wp (Ls := #[.val (.int ch), .val (.int fl), .val (.long x1), .second, .val (.long x2), .second, .unset, .unset, .unset, .unset, .unset, .unset, .unset, .unset, .unset, .unset]) (plainFor_of_name pn_com_example_idemnity_idemnity_RowColumnsPinLaw) (fun m => by first | (simp [entryFrame, mkF, argsToLocals, Value.category, maxLocals]; done) | rfl) ?_
  intro K ok
  replace ok : Ok Z K code "com/example/idemnity/idemnity/RowColumnsPinLaw" "law" 16 (some .boolean) := ok
  show Wp l room_1 n0 K (fun v h' => ∃ w, v = some w ∧ w = .int 1) h 0 0 0 #[.val (.int ch), .val (.int fl), .val (.long x1), .second, .val (.long x2), .second, .unset, .unset, .unset, .unset, .unset, .unset, .unset, .unset, .unset, .unset] []
  refine w_new ok (hw _ (List.mem_of_getElem? (i := 0) rfl)) (hw _ (List.mem_of_getElem? (i := 1) rfl)) (hw _ (List.mem_of_getElem? (i := 2) rfl)) d0_0 (k' := 1) (n' := 4) rfl rfl (Nat.le_of_ble_eq_true rfl) (Nat.le_of_ble_eq_true rfl) (fun h1 b1 g1 E1 A1 D1 => ?_)
  have gn_b1 : n0 ≤ b1 := Nat.le_trans Z0 (Nat.le_of_eq g1.symm)
  have Z0 := Nat.le_trans Z0 E1.1
  have Od := Od.ext E1
  have F_b1_coder : Fld Z h1 b1 "java/lang/String" "coder" "B" (.int (0 : Int32)) := D1 (Or.inr (hw _ (List.mem_of_getElem? (i := 27) rfl))) (ty := .byte) (by decide)
  have F_b1_value : Fld Z h1 b1 "java/lang/String" "value" "[B" .null := D1 (Or.inr (hw _ (List.mem_of_getElem? (i := 29) rfl))) (ty := (.array .byte)) (by decide)
  refine w_dup ok d0_3 rfl ?_
  refine w_iconst ok (z := 1) d0_4 rfl ?_
  refine w_newarrayE ok (cap := 1) (ad := "[C") (by decide) (hw _ (List.mem_of_getElem? (i := 3) rfl)) d0_5 (by decide) (by decide) (by decide) (k' := 2) (n' := 5) rfl rfl (Nat.le_of_ble_eq_true rfl) (Nat.le_of_ble_eq_true rfl) (fun h2 b2 cA2 g2 E2 A2 G2 => ?_)
  have ne_b1_b2 : b1 ≠ b2 := Nat.ne_of_lt (Nat.lt_of_lt_of_le A1.lt (Nat.le_of_eq g2.symm))
  have gn_b2 : n0 ≤ b2 := Nat.le_trans Z0 (Nat.le_of_eq g2.symm)
  have Z0 := Nat.le_trans Z0 E2.1
  have Od := Od.ext E2
  have A1 := A1.ext E2
  have F_b1_coder := F_b1_coder.ext E2
  have F_b1_value := F_b1_value.ext E2
  have V_b2 : Ary Z h2 b2 .char [(.int (0 : Int32))] := ary_new A2
  refine w_dup ok d0_7 rfl ?_
  refine w_iconst ok (z := 0) d0_8 rfl ?_
  refine w_iloadN ok d0_9 rfl ?_
  refine w_sipush ok (z := 255) d0_10 rfl ?_
  refine w_iand ok d0_13 ?_
  refine w_i2c ok d0_14 ?_
  refine w_int (b := (ch &&& (255 : Int32))) (i2c_mask _) ?_
  refine w_castore' ok (i := 0) V_b2 (Nat.le_of_ble_eq_true rfl) (Nat.le_of_ble_eq_true rfl) gn_b2 d0_15 (fun h3 W3 V_b2 => ?_)
  have Od := Od.wr W3 gn_b2
  have A1 := A1.wr W3
  have F_b1_coder := F_b1_coder.other W3 (Or.inl ne_b1_b2)
  have F_b1_value := F_b1_value.other W3 (Or.inl ne_b1_b2)
  have G2 := G2.wr W3
  have Z0 := Nat.le_trans Z0 (Keep.of_wr W3).1
  replace V_b2 : Ary Z h3 b2 .char [(.int (nar .char (ch &&& (255 : Int32))))] := V_b2
  rw [own_char] at V_b2
  refine w_init ok (argsL := [(.ref b2)]) (rest := [(.ref b1)]) rfl rfl (hw _ (List.mem_of_getElem? (i := 4) rfl)) (hw _ (List.mem_of_getElem? (i := 5) rfl)) (hw _ (List.mem_of_getElem? (i := 2) rfl)) (hw _ (List.mem_of_getElem? (i := 6) rfl)) (by decide) (rmF l Z a0 hw n0 b1 b2 _ h3 Z0 gn_b1 A1 F_b1_value F_b1_coder V_b2 (own_m255 _) cs hcs S0 Od) d0_16 (lenOf pd__ArC_V rfl) rfl rfl (Nat.le_of_ble_eq_true rfl) (Nat.le_of_ble_eq_true rfl) (k' := 3) (n' := 6) rfl rfl (Nat.le_of_ble_eq_true rfl) (Nat.le_of_ble_eq_true rfl) ?_
  rintro hs1 ⟨Kc, A1⟩
  have Od := Od.keep Kc (allS gn_b1 all0)
  have V_b2 := V_b2.keep Kc (ninS (Ne.symm ne_b1_b2) nin0)
  have G2 := G2.keep Kc
  have Z0 := Nat.le_trans Z0 Kc.1
  refine w_astore ok (Ls' := #[.val (.int ch), .val (.int fl), .val (.long x1), .second, .val (.long x2), .second, .val (.ref b1), .unset, .unset, .unset, .unset, .unset, .unset, .unset, .unset, .unset]) d0_19 rfl rfl ?_
  refine w_new ok (hw _ (List.mem_of_getElem? (i := 0) rfl)) (hw _ (List.mem_of_getElem? (i := 1) rfl)) (hw _ (List.mem_of_getElem? (i := 2) rfl)) d0_21 (k' := 4) (n' := 10) rfl rfl (Nat.le_of_ble_eq_true rfl) (Nat.le_of_ble_eq_true rfl) (fun h4 b4 g4 E4 A4 D4 => ?_)
  have ne_b1_b4 : b1 ≠ b4 := Nat.ne_of_lt (Nat.lt_of_lt_of_le A1.lt (Nat.le_of_eq g4.symm))
  have ne_b2_b4 : b2 ≠ b4 := Nat.ne_of_lt (Nat.lt_of_lt_of_le V_b2.lt (Nat.le_of_eq g4.symm))
  have gn_b4 : n0 ≤ b4 := Nat.le_trans Z0 (Nat.le_of_eq g4.symm)
  have Z0 := Nat.le_trans Z0 E4.1
  have Od := Od.ext E4
  have A1 := A1.ext E4
  have V_b2 := V_b2.ext E4
  have G2 := G2.ext E4
  have F_b4_coder : Fld Z h4 b4 "java/lang/String" "coder" "B" (.int (0 : Int32)) := D4 (Or.inr (hw _ (List.mem_of_getElem? (i := 27) rfl))) (ty := .byte) (by decide)
  have F_b4_value : Fld Z h4 b4 "java/lang/String" "value" "[B" .null := D4 (Or.inr (hw _ (List.mem_of_getElem? (i := 29) rfl))) (ty := (.array .byte)) (by decide)
  refine w_dup ok d0_24 rfl ?_
  refine w_iconst ok (z := 1) d0_25 rfl ?_
  refine w_newarrayE ok (cap := 1) (ad := "[C") (by decide) (hw _ (List.mem_of_getElem? (i := 3) rfl)) d0_26 (by decide) (by decide) (by decide) (k' := 5) (n' := 11) rfl rfl (Nat.le_of_ble_eq_true rfl) (Nat.le_of_ble_eq_true rfl) (fun h5 b5 cA5 g5 E5 A5 G5 => ?_)
  have ne_b1_b5 : b1 ≠ b5 := Nat.ne_of_lt (Nat.lt_of_lt_of_le A1.lt (Nat.le_of_eq g5.symm))
  have ne_b2_b5 : b2 ≠ b5 := Nat.ne_of_lt (Nat.lt_of_lt_of_le V_b2.lt (Nat.le_of_eq g5.symm))
  have ne_b4_b5 : b4 ≠ b5 := Nat.ne_of_lt (Nat.lt_of_lt_of_le A4.lt (Nat.le_of_eq g5.symm))
  have gn_b5 : n0 ≤ b5 := Nat.le_trans Z0 (Nat.le_of_eq g5.symm)
  have Z0 := Nat.le_trans Z0 E5.1
  have Od := Od.ext E5
  have A1 := A1.ext E5
  have V_b2 := V_b2.ext E5
  have G2 := G2.ext E5
  have A4 := A4.ext E5
  have F_b4_coder := F_b4_coder.ext E5
  have F_b4_value := F_b4_value.ext E5
  have V_b5 : Ary Z h5 b5 .char [(.int (0 : Int32))] := ary_new A5
  refine w_dup ok d0_28 rfl ?_
  refine w_iconst ok (z := 0) d0_29 rfl ?_
  refine w_iloadN ok d0_30 rfl ?_
  refine w_bipush ok (z := 8) d0_31 rfl ?_
  refine w_iushr ok d0_33 ?_
  refine w_sipush ok (z := 255) d0_34 rfl ?_
  refine w_iand ok d0_37 ?_
  refine w_i2c ok d0_38 ?_
  refine w_int (b := (((ch.toUInt32 >>> ((8 : Int32) &&& 31).toUInt32).toInt32) &&& (255 : Int32))) (i2c_mask _) ?_
  refine w_castore' ok (i := 0) V_b5 (Nat.le_of_ble_eq_true rfl) (Nat.le_of_ble_eq_true rfl) gn_b5 d0_39 (fun h6 W6 V_b5 => ?_)
  have Od := Od.wr W6 gn_b5
  have A1 := A1.wr W6
  have V_b2 := V_b2.other W6 ne_b2_b5
  have G2 := G2.wr W6
  have A4 := A4.wr W6
  have F_b4_coder := F_b4_coder.other W6 (Or.inl ne_b4_b5)
  have F_b4_value := F_b4_value.other W6 (Or.inl ne_b4_b5)
  have G5 := G5.wr W6
  have Z0 := Nat.le_trans Z0 (Keep.of_wr W6).1
  replace V_b5 : Ary Z h6 b5 .char [(.int (nar .char (((ch.toUInt32 >>> ((8 : Int32) &&& 31).toUInt32).toInt32) &&& (255 : Int32))))] := V_b5
  rw [own_char] at V_b5
  refine w_init ok (argsL := [(.ref b5)]) (rest := [(.ref b4)]) rfl rfl (hw _ (List.mem_of_getElem? (i := 4) rfl)) (hw _ (List.mem_of_getElem? (i := 5) rfl)) (hw _ (List.mem_of_getElem? (i := 2) rfl)) (hw _ (List.mem_of_getElem? (i := 6) rfl)) (by decide) (rmF l Z a0 hw n0 b4 b5 _ h6 Z0 gn_b4 A4 F_b4_value F_b4_coder V_b5 (own_m255 _) cs hcs S0 Od) d0_40 (lenOf pd__ArC_V rfl) rfl rfl (Nat.le_of_ble_eq_true rfl) (Nat.le_of_ble_eq_true rfl) (k' := 6) (n' := 12) rfl rfl (Nat.le_of_ble_eq_true rfl) (Nat.le_of_ble_eq_true rfl) ?_
  rintro hs4 ⟨Kc, A4⟩
  have Od := Od.keep Kc (allS gn_b4 all0)
  have A1 := A1.keep Kc
  have V_b2 := V_b2.keep Kc (ninS ne_b2_b4 nin0)
  have G2 := G2.keep Kc
  have V_b5 := V_b5.keep Kc (ninS (Ne.symm ne_b4_b5) nin0)
  have G5 := G5.keep Kc
  have Z0 := Nat.le_trans Z0 Kc.1
  refine w_astore ok (Ls' := #[.val (.int ch), .val (.int fl), .val (.long x1), .second, .val (.long x2), .second, .val (.ref b1), .val (.ref b4), .unset, .unset, .unset, .unset, .unset, .unset, .unset, .unset]) d0_43 rfl rfl ?_
  refine w_new ok (hw _ (List.mem_of_getElem? (i := 0) rfl)) (hw _ (List.mem_of_getElem? (i := 1) rfl)) (hw _ (List.mem_of_getElem? (i := 2) rfl)) d0_45 (k' := 7) (n' := 16) rfl rfl (Nat.le_of_ble_eq_true rfl) (Nat.le_of_ble_eq_true rfl) (fun h7 b7 g7 E7 A7 D7 => ?_)
  have ne_b1_b7 : b1 ≠ b7 := Nat.ne_of_lt (Nat.lt_of_lt_of_le A1.lt (Nat.le_of_eq g7.symm))
  have ne_b2_b7 : b2 ≠ b7 := Nat.ne_of_lt (Nat.lt_of_lt_of_le V_b2.lt (Nat.le_of_eq g7.symm))
  have ne_b4_b7 : b4 ≠ b7 := Nat.ne_of_lt (Nat.lt_of_lt_of_le A4.lt (Nat.le_of_eq g7.symm))
  have ne_b5_b7 : b5 ≠ b7 := Nat.ne_of_lt (Nat.lt_of_lt_of_le V_b5.lt (Nat.le_of_eq g7.symm))
  have gn_b7 : n0 ≤ b7 := Nat.le_trans Z0 (Nat.le_of_eq g7.symm)
  have Z0 := Nat.le_trans Z0 E7.1
  have Od := Od.ext E7
  have A1 := A1.ext E7
  have V_b2 := V_b2.ext E7
  have G2 := G2.ext E7
  have A4 := A4.ext E7
  have V_b5 := V_b5.ext E7
  have G5 := G5.ext E7
  have F_b7_coder : Fld Z h7 b7 "java/lang/String" "coder" "B" (.int (0 : Int32)) := D7 (Or.inr (hw _ (List.mem_of_getElem? (i := 27) rfl))) (ty := .byte) (by decide)
  have F_b7_value : Fld Z h7 b7 "java/lang/String" "value" "[B" .null := D7 (Or.inr (hw _ (List.mem_of_getElem? (i := 29) rfl))) (ty := (.array .byte)) (by decide)
  refine w_dup ok d0_48 rfl ?_
  refine w_iconst ok (z := 1) d0_49 rfl ?_
  refine w_newarrayE ok (cap := 1) (ad := "[C") (by decide) (hw _ (List.mem_of_getElem? (i := 3) rfl)) d0_50 (by decide) (by decide) (by decide) (k' := 8) (n' := 17) rfl rfl (Nat.le_of_ble_eq_true rfl) (Nat.le_of_ble_eq_true rfl) (fun h8 b8 cA8 g8 E8 A8 G8 => ?_)
  have ne_b1_b8 : b1 ≠ b8 := Nat.ne_of_lt (Nat.lt_of_lt_of_le A1.lt (Nat.le_of_eq g8.symm))
  have ne_b2_b8 : b2 ≠ b8 := Nat.ne_of_lt (Nat.lt_of_lt_of_le V_b2.lt (Nat.le_of_eq g8.symm))
  have ne_b4_b8 : b4 ≠ b8 := Nat.ne_of_lt (Nat.lt_of_lt_of_le A4.lt (Nat.le_of_eq g8.symm))
  have ne_b5_b8 : b5 ≠ b8 := Nat.ne_of_lt (Nat.lt_of_lt_of_le V_b5.lt (Nat.le_of_eq g8.symm))
  have ne_b7_b8 : b7 ≠ b8 := Nat.ne_of_lt (Nat.lt_of_lt_of_le A7.lt (Nat.le_of_eq g8.symm))
  have gn_b8 : n0 ≤ b8 := Nat.le_trans Z0 (Nat.le_of_eq g8.symm)
  have Z0 := Nat.le_trans Z0 E8.1
  have Od := Od.ext E8
  have A1 := A1.ext E8
  have V_b2 := V_b2.ext E8
  have G2 := G2.ext E8
  have A4 := A4.ext E8
  have V_b5 := V_b5.ext E8
  have G5 := G5.ext E8
  have A7 := A7.ext E8
  have F_b7_coder := F_b7_coder.ext E8
  have F_b7_value := F_b7_value.ext E8
  have V_b8 : Ary Z h8 b8 .char [(.int (0 : Int32))] := ary_new A8
  refine w_dup ok d0_52 rfl ?_
  refine w_iconst ok (z := 0) d0_53 rfl ?_
  refine w_iloadN ok d0_54 rfl ?_
  refine w_bipush ok (z := 16) d0_55 rfl ?_
  refine w_iushr ok d0_57 ?_
  refine w_sipush ok (z := 255) d0_58 rfl ?_
  refine w_iand ok d0_61 ?_
  refine w_i2c ok d0_62 ?_
  refine w_int (b := (((ch.toUInt32 >>> ((16 : Int32) &&& 31).toUInt32).toInt32) &&& (255 : Int32))) (i2c_mask _) ?_
  refine w_castore' ok (i := 0) V_b8 (Nat.le_of_ble_eq_true rfl) (Nat.le_of_ble_eq_true rfl) gn_b8 d0_63 (fun h9 W9 V_b8 => ?_)
  have Od := Od.wr W9 gn_b8
  have A1 := A1.wr W9
  have V_b2 := V_b2.other W9 ne_b2_b8
  have G2 := G2.wr W9
  have A4 := A4.wr W9
  have V_b5 := V_b5.other W9 ne_b5_b8
  have G5 := G5.wr W9
  have A7 := A7.wr W9
  have F_b7_coder := F_b7_coder.other W9 (Or.inl ne_b7_b8)
  have F_b7_value := F_b7_value.other W9 (Or.inl ne_b7_b8)
  have G8 := G8.wr W9
  have Z0 := Nat.le_trans Z0 (Keep.of_wr W9).1
  replace V_b8 : Ary Z h9 b8 .char [(.int (nar .char (((ch.toUInt32 >>> ((16 : Int32) &&& 31).toUInt32).toInt32) &&& (255 : Int32))))] := V_b8
  rw [own_char] at V_b8
  refine w_init ok (argsL := [(.ref b8)]) (rest := [(.ref b7)]) rfl rfl (hw _ (List.mem_of_getElem? (i := 4) rfl)) (hw _ (List.mem_of_getElem? (i := 5) rfl)) (hw _ (List.mem_of_getElem? (i := 2) rfl)) (hw _ (List.mem_of_getElem? (i := 6) rfl)) (by decide) (rmF l Z a0 hw n0 b7 b8 _ h9 Z0 gn_b7 A7 F_b7_value F_b7_coder V_b8 (own_m255 _) cs hcs S0 Od) d0_64 (lenOf pd__ArC_V rfl) rfl rfl (Nat.le_of_ble_eq_true rfl) (Nat.le_of_ble_eq_true rfl) (k' := 9) (n' := 18) rfl rfl (Nat.le_of_ble_eq_true rfl) (Nat.le_of_ble_eq_true rfl) ?_
  rintro hs7 ⟨Kc, A7⟩
  have Od := Od.keep Kc (allS gn_b7 all0)
  have A1 := A1.keep Kc
  have V_b2 := V_b2.keep Kc (ninS ne_b2_b7 nin0)
  have G2 := G2.keep Kc
  have A4 := A4.keep Kc
  have V_b5 := V_b5.keep Kc (ninS ne_b5_b7 nin0)
  have G5 := G5.keep Kc
  have V_b8 := V_b8.keep Kc (ninS (Ne.symm ne_b7_b8) nin0)
  have G8 := G8.keep Kc
  have Z0 := Nat.le_trans Z0 Kc.1
  refine w_astore ok (Ls' := #[.val (.int ch), .val (.int fl), .val (.long x1), .second, .val (.long x2), .second, .val (.ref b1), .val (.ref b4), .val (.ref b7), .unset, .unset, .unset, .unset, .unset, .unset, .unset]) d0_67 rfl rfl ?_
  refine w_iconst ok (z := 1) d0_69 rfl ?_
  refine w_newarrayE ok (cap := 1) (ad := "[B") (by decide) (hw _ (List.mem_of_getElem? (i := 19) rfl)) d0_70 (by decide) (by decide) (by decide) (k' := 10) (n' := 19) rfl rfl (Nat.le_of_ble_eq_true rfl) (Nat.le_of_ble_eq_true rfl) (fun h10 b10 cA10 g10 E10 A10 G10 => ?_)
  have ne_b1_b10 : b1 ≠ b10 := Nat.ne_of_lt (Nat.lt_of_lt_of_le A1.lt (Nat.le_of_eq g10.symm))
  have ne_b2_b10 : b2 ≠ b10 := Nat.ne_of_lt (Nat.lt_of_lt_of_le V_b2.lt (Nat.le_of_eq g10.symm))
  have ne_b4_b10 : b4 ≠ b10 := Nat.ne_of_lt (Nat.lt_of_lt_of_le A4.lt (Nat.le_of_eq g10.symm))
  have ne_b5_b10 : b5 ≠ b10 := Nat.ne_of_lt (Nat.lt_of_lt_of_le V_b5.lt (Nat.le_of_eq g10.symm))
  have ne_b7_b10 : b7 ≠ b10 := Nat.ne_of_lt (Nat.lt_of_lt_of_le A7.lt (Nat.le_of_eq g10.symm))
  have ne_b8_b10 : b8 ≠ b10 := Nat.ne_of_lt (Nat.lt_of_lt_of_le V_b8.lt (Nat.le_of_eq g10.symm))
  have gn_b10 : n0 ≤ b10 := Nat.le_trans Z0 (Nat.le_of_eq g10.symm)
  have Z0 := Nat.le_trans Z0 E10.1
  have Od := Od.ext E10
  have A1 := A1.ext E10
  have V_b2 := V_b2.ext E10
  have G2 := G2.ext E10
  have A4 := A4.ext E10
  have V_b5 := V_b5.ext E10
  have G5 := G5.ext E10
  have A7 := A7.ext E10
  have V_b8 := V_b8.ext E10
  have G8 := G8.ext E10
  have V_b10 : Ary Z h10 b10 .byte [(.int (0 : Int32))] := ary_new A10
  refine w_dup ok d0_72 rfl ?_
  refine w_iconst ok (z := 0) d0_73 rfl ?_
  refine w_iloadN ok d0_74 rfl ?_
  refine w_bipush ok (z := 24) d0_75 rfl ?_
  refine w_iushr ok d0_77 ?_
  refine w_i2b ok d0_78 ?_
  refine w_bastoreB' ok (i := 0) V_b10 (Nat.le_of_ble_eq_true rfl) (Nat.le_of_ble_eq_true rfl) gn_b10 d0_79 (fun h11 W11 V_b10 => ?_)
  have Od := Od.wr W11 gn_b10
  have A1 := A1.wr W11
  have V_b2 := V_b2.other W11 ne_b2_b10
  have G2 := G2.wr W11
  have A4 := A4.wr W11
  have V_b5 := V_b5.other W11 ne_b5_b10
  have G5 := G5.wr W11
  have A7 := A7.wr W11
  have V_b8 := V_b8.other W11 ne_b8_b10
  have G8 := G8.wr W11
  have G10 := G10.wr W11
  have Z0 := Nat.le_trans Z0 (Keep.of_wr W11).1
  replace V_b10 : Ary Z h11 b10 .byte [(.int (nar .byte (((ch.toUInt32 >>> ((24 : Int32) &&& 31).toUInt32).toInt32).toInt8.toInt32)))] := V_b10
  refine w_astore ok (Ls' := #[.val (.int ch), .val (.int fl), .val (.long x1), .second, .val (.long x2), .second, .val (.ref b1), .val (.ref b4), .val (.ref b7), .val (.ref b10), .unset, .unset, .unset, .unset, .unset, .unset]) d0_80 rfl rfl ?_
  refine w_iloadN ok d0_82 rfl ?_
  refine w_iconst ok (z := 1) d0_83 rfl ?_
  refine w_iand ok d0_84 ?_
  refine w_if_eq ok d0_85 (fun q => ?_) (fun q => ?_)
  · refine w_iconst ok (z := 2) d0_92 rfl ?_
    refine w_newarrayE ok (cap := 2) (ad := "[B") (by decide) (hw _ (List.mem_of_getElem? (i := 19) rfl)) d0_93 (by decide) (by decide) (by decide) (k' := 11) (n' := 21) rfl rfl (Nat.le_of_ble_eq_true rfl) (Nat.le_of_ble_eq_true rfl) (fun h13 b13 cA13 g13 E13 A13 G13 => ?_)
    have ne_b1_b13 : b1 ≠ b13 := Nat.ne_of_lt (Nat.lt_of_lt_of_le A1.lt (Nat.le_of_eq g13.symm))
    have ne_b2_b13 : b2 ≠ b13 := Nat.ne_of_lt (Nat.lt_of_lt_of_le V_b2.lt (Nat.le_of_eq g13.symm))
    have ne_b4_b13 : b4 ≠ b13 := Nat.ne_of_lt (Nat.lt_of_lt_of_le A4.lt (Nat.le_of_eq g13.symm))
    have ne_b5_b13 : b5 ≠ b13 := Nat.ne_of_lt (Nat.lt_of_lt_of_le V_b5.lt (Nat.le_of_eq g13.symm))
    have ne_b7_b13 : b7 ≠ b13 := Nat.ne_of_lt (Nat.lt_of_lt_of_le A7.lt (Nat.le_of_eq g13.symm))
    have ne_b8_b13 : b8 ≠ b13 := Nat.ne_of_lt (Nat.lt_of_lt_of_le V_b8.lt (Nat.le_of_eq g13.symm))
    have ne_b10_b13 : b10 ≠ b13 := Nat.ne_of_lt (Nat.lt_of_lt_of_le V_b10.lt (Nat.le_of_eq g13.symm))
    have gn_b13 : n0 ≤ b13 := Nat.le_trans Z0 (Nat.le_of_eq g13.symm)
    have Z0 := Nat.le_trans Z0 E13.1
    have Od := Od.ext E13
    have A1 := A1.ext E13
    have V_b2 := V_b2.ext E13
    have G2 := G2.ext E13
    have A4 := A4.ext E13
    have V_b5 := V_b5.ext E13
    have G5 := G5.ext E13
    have A7 := A7.ext E13
    have V_b8 := V_b8.ext E13
    have G8 := G8.ext E13
    have V_b10 := V_b10.ext E13
    have G10 := G10.ext E13
    have V_b13 : Ary Z h13 b13 .byte [(.int (0 : Int32)), (.int (0 : Int32))] := ary_new A13
    refine w_dup ok d0_95 rfl ?_
    refine w_iconst ok (z := 0) d0_96 rfl ?_
    refine w_iloadN ok d0_97 rfl ?_
    refine w_iconst ok (z := 1) d0_98 rfl ?_
    refine w_iushr ok d0_99 ?_
    refine w_i2b ok d0_100 ?_
    refine w_bastoreB' ok (i := 0) V_b13 (Nat.le_of_ble_eq_true rfl) (Nat.le_of_ble_eq_true rfl) gn_b13 d0_101 (fun h14 W14 V_b13 => ?_)
    have Od := Od.wr W14 gn_b13
    have A1 := A1.wr W14
    have V_b2 := V_b2.other W14 ne_b2_b13
    have G2 := G2.wr W14
    have A4 := A4.wr W14
    have V_b5 := V_b5.other W14 ne_b5_b13
    have G5 := G5.wr W14
    have A7 := A7.wr W14
    have V_b8 := V_b8.other W14 ne_b8_b13
    have G8 := G8.wr W14
    have V_b10 := V_b10.other W14 ne_b10_b13
    have G10 := G10.wr W14
    have G13 := G13.wr W14
    have Z0 := Nat.le_trans Z0 (Keep.of_wr W14).1
    replace V_b13 : Ary Z h14 b13 .byte [(.int (nar .byte (((fl.toUInt32 >>> ((1 : Int32) &&& 31).toUInt32).toInt32).toInt8.toInt32))), (.int (0 : Int32))] := V_b13
    refine w_dup ok d0_102 rfl ?_
    refine w_iconst ok (z := 1) d0_103 rfl ?_
    refine w_iloadN ok d0_104 rfl ?_
    refine w_bipush ok (z := 9) d0_105 rfl ?_
    refine w_iushr ok d0_107 ?_
    refine w_i2b ok d0_108 ?_
    refine w_bastoreB' ok (i := 1) V_b13 (Nat.le_of_ble_eq_true rfl) (Nat.le_of_ble_eq_true rfl) gn_b13 d0_109 (fun h15 W15 V_b13 => ?_)
    have Od := Od.wr W15 gn_b13
    have A1 := A1.wr W15
    have V_b2 := V_b2.other W15 ne_b2_b13
    have G2 := G2.wr W15
    have A4 := A4.wr W15
    have V_b5 := V_b5.other W15 ne_b5_b13
    have G5 := G5.wr W15
    have A7 := A7.wr W15
    have V_b8 := V_b8.other W15 ne_b8_b13
    have G8 := G8.wr W15
    have V_b10 := V_b10.other W15 ne_b10_b13
    have G10 := G10.wr W15
    have G13 := G13.wr W15
    have Z0 := Nat.le_trans Z0 (Keep.of_wr W15).1
    replace V_b13 : Ary Z h15 b13 .byte [(.int (nar .byte (((fl.toUInt32 >>> ((1 : Int32) &&& 31).toUInt32).toInt32).toInt8.toInt32))), (.int (nar .byte (((fl.toUInt32 >>> ((9 : Int32) &&& 31).toUInt32).toInt32).toInt8.toInt32)))] := V_b13
    refine w_astore ok (Ls' := #[.val (.int ch), .val (.int fl), .val (.long x1), .second, .val (.long x2), .second, .val (.ref b1), .val (.ref b4), .val (.ref b7), .val (.ref b10), .val (.ref b13), .unset, .unset, .unset, .unset, .unset]) d0_110 rfl rfl ?_
    refine w_new ok (hw _ (List.mem_of_getElem? (i := 30) rfl)) (hw _ (List.mem_of_getElem? (i := 31) rfl)) (hw _ (List.mem_of_getElem? (i := 32) rfl)) d0_112 (k' := 12) (n' := 28) rfl rfl (Nat.le_of_ble_eq_true rfl) (Nat.le_of_ble_eq_true rfl) (fun h16 b16 g16 E16 A16 D16 => ?_)
    have ne_b1_b16 : b1 ≠ b16 := Nat.ne_of_lt (Nat.lt_of_lt_of_le A1.lt (Nat.le_of_eq g16.symm))
    have ne_b2_b16 : b2 ≠ b16 := Nat.ne_of_lt (Nat.lt_of_lt_of_le V_b2.lt (Nat.le_of_eq g16.symm))
    have ne_b4_b16 : b4 ≠ b16 := Nat.ne_of_lt (Nat.lt_of_lt_of_le A4.lt (Nat.le_of_eq g16.symm))
    have ne_b5_b16 : b5 ≠ b16 := Nat.ne_of_lt (Nat.lt_of_lt_of_le V_b5.lt (Nat.le_of_eq g16.symm))
    have ne_b7_b16 : b7 ≠ b16 := Nat.ne_of_lt (Nat.lt_of_lt_of_le A7.lt (Nat.le_of_eq g16.symm))
    have ne_b8_b16 : b8 ≠ b16 := Nat.ne_of_lt (Nat.lt_of_lt_of_le V_b8.lt (Nat.le_of_eq g16.symm))
    have ne_b10_b16 : b10 ≠ b16 := Nat.ne_of_lt (Nat.lt_of_lt_of_le V_b10.lt (Nat.le_of_eq g16.symm))
    have ne_b13_b16 : b13 ≠ b16 := Nat.ne_of_lt (Nat.lt_of_lt_of_le V_b13.lt (Nat.le_of_eq g16.symm))
    have gn_b16 : n0 ≤ b16 := Nat.le_trans Z0 (Nat.le_of_eq g16.symm)
    have Z0 := Nat.le_trans Z0 E16.1
    have Od := Od.ext E16
    have A1 := A1.ext E16
    have V_b2 := V_b2.ext E16
    have G2 := G2.ext E16
    have A4 := A4.ext E16
    have V_b5 := V_b5.ext E16
    have G5 := G5.ext E16
    have A7 := A7.ext E16
    have V_b8 := V_b8.ext E16
    have G8 := G8.ext E16
    have V_b10 := V_b10.ext E16
    have G10 := G10.ext E16
    have V_b13 := V_b13.ext E16
    have G13 := G13.ext E16
    have F_b16_scope : Fld Z h16 b16 "com/example/idemnity/idemnity/SqlDialect$Row" "scope" "Ljava/lang/String;" .null := D16 (Or.inr (hw _ (List.mem_of_getElem? (i := 43) rfl))) (ty := (.object "java/lang/String")) (by decide)
    have F_b16_key : Fld Z h16 b16 "com/example/idemnity/idemnity/SqlDialect$Row" "key" "Ljava/lang/String;" .null := D16 (Or.inr (hw _ (List.mem_of_getElem? (i := 45) rfl))) (ty := (.object "java/lang/String")) (by decide)
    have F_b16_claimId : Fld Z h16 b16 "com/example/idemnity/idemnity/SqlDialect$Row" "claimId" "Ljava/lang/String;" .null := D16 (Or.inr (hw _ (List.mem_of_getElem? (i := 47) rfl))) (ty := (.object "java/lang/String")) (by decide)
    have F_b16_fingerprint : Fld Z h16 b16 "com/example/idemnity/idemnity/SqlDialect$Row" "fingerprint" "[B" .null := D16 (Or.inr (hw _ (List.mem_of_getElem? (i := 49) rfl))) (ty := (.array .byte)) (by decide)
    have F_b16_value : Fld Z h16 b16 "com/example/idemnity/idemnity/SqlDialect$Row" "value" "[B" .null := D16 (Or.inr (hw _ (List.mem_of_getElem? (i := 51) rfl))) (ty := (.array .byte)) (by decide)
    have F_b16_holdsFor : Fld Z h16 b16 "com/example/idemnity/idemnity/SqlDialect$Row" "holdsFor" "J" (.long (0 : Int64)) := D16 (Or.inr (hw _ (List.mem_of_getElem? (i := 53) rfl))) (ty := .long) (by decide)
    have F_b16_keptFor : Fld Z h16 b16 "com/example/idemnity/idemnity/SqlDialect$Row" "keptFor" "J" (.long (0 : Int64)) := D16 (Or.inr (hw _ (List.mem_of_getElem? (i := 55) rfl))) (ty := .long) (by decide)
    refine w_dup ok d0_115 rfl ?_
    refine w_aload ok d0_116 rfl rfl ?_
    refine w_aload ok d0_118 rfl rfl ?_
    refine w_aload ok d0_120 rfl rfl ?_
    refine w_aload ok d0_122 rfl rfl ?_
    refine w_aload ok d0_124 rfl rfl ?_
    refine w_lloadN ok d0_126 rfl ?_
    refine w_lload ok d0_127 rfl ?_
    refine w_init ok (argsL := [(.ref b1), (.ref b4), (.ref b7), (.ref b10), (.ref b13), (.long x1), (.long x2)]) (rest := [(.ref b16)]) rfl rfl (hw _ (List.mem_of_getElem? (i := 33) rfl)) (hw _ (List.mem_of_getElem? (i := 34) rfl)) (hw _ (List.mem_of_getElem? (i := 32) rfl)) (hw _ (List.mem_of_getElem? (i := 35) rfl)) (by decide) (rmIR l Z a0 hw n0 b16 b1 b4 b7 b10 b13 x1 x2 h16 Z0 gn_b16 A16 F_b16_scope F_b16_key F_b16_claimId F_b16_fingerprint F_b16_value F_b16_holdsFor F_b16_keptFor) d0_129 (lenOf pd__Ljava_lang_String_Ljava_lang_String_Ljava_lang_String_ArBArBJJ_V rfl) rfl rfl (Nat.le_of_ble_eq_true rfl) (Nat.le_of_ble_eq_true rfl) (k' := 12) (n' := 28) rfl rfl (Nat.le_of_ble_eq_true rfl) (Nat.le_of_ble_eq_true rfl) ?_
    rintro hr ⟨Kc, A16, F_scope, F_key, F_claimId, F_fingerprint, F_value, F_holdsFor, F_keptFor⟩
    have Od := Od.keep Kc (allS gn_b16 all0)
    have A1 := A1.keep Kc
    have V_b2 := V_b2.keep Kc (ninS ne_b2_b16 nin0)
    have G2 := G2.keep Kc
    have A4 := A4.keep Kc
    have V_b5 := V_b5.keep Kc (ninS ne_b5_b16 nin0)
    have G5 := G5.keep Kc
    have A7 := A7.keep Kc
    have V_b8 := V_b8.keep Kc (ninS ne_b8_b16 nin0)
    have G8 := G8.keep Kc
    have V_b10 := V_b10.keep Kc (ninS ne_b10_b16 nin0)
    have G10 := G10.keep Kc
    have V_b13 := V_b13.keep Kc (ninS ne_b13_b16 nin0)
    have G13 := G13.keep Kc
    have Z0 := Nat.le_trans Z0 Kc.1
    refine w_astore ok (Ls' := #[.val (.int ch), .val (.int fl), .val (.long x1), .second, .val (.long x2), .second, .val (.ref b1), .val (.ref b4), .val (.ref b7), .val (.ref b10), .val (.ref b13), .val (.ref b16), .unset, .unset, .unset, .unset]) d0_132 rfl rfl ?_
    refine w_aload ok d0_134 rfl rfl ?_
    refine w_virtV ok (argsL := []) (rest := []) (hw _ (List.mem_of_getElem? (i := 56) rfl)) (hw _ (List.mem_of_getElem? (i := 57) rfl)) (hw _ (List.mem_of_getElem? (i := 59) rfl)) (hw _ (List.mem_of_getElem? (i := 58) rfl)) (hw _ (List.mem_of_getElem? (i := 32) rfl)) (hw _ (List.mem_of_getElem? (i := 60) rfl)) A16 (by decide) (rmKR l Z a0 hw n0 b16 b1 b4 b7 b10 b13 x1 x2 hr Z0 A16 A1 A4 A7 G10 G13 F_scope F_key F_claimId F_fingerprint F_value F_holdsFor F_keptFor lc cc L0 Bx Od) d0_136 (lenOf pd___ArLjava_lang_Object_ rfl) rfl rfl (Nat.le_of_ble_eq_true rfl) (Nat.le_of_ble_eq_true rfl) (k' := 15) (n' := 37) rfl rfl (Nat.le_of_ble_eq_true rfl) (Nat.le_of_ble_eq_true rfl) ?_
    rintro _ hk ⟨arr, l1, l2, rfl, Kc, V_arr, E_l1, F_l1, E_l2, F_l2⟩
    refine w_astore ok (Ls' := #[.val (.int ch), .val (.int fl), .val (.long x1), .second, .val (.long x2), .second, .val (.ref b1), .val (.ref b4), .val (.ref b7), .val (.ref b10), .val (.ref b13), .val (.ref b16), .val (.ref arr), .unset, .unset, .unset]) d0_139 rfl rfl ?_
    refine w_aload ok d0_141 rfl rfl ?_
    refine w_ifnull_no ok d0_143 ?_
    refine w_aload ok d0_146 rfl rfl ?_
    refine w_arraylength ok V_arr.len d0_148 ?_
    refine w_int (b := 7) rfl ?_
    refine w_bipush ok (z := 7) d0_149 rfl ?_
    refine w_ic_eq ok d0_151 (fun _ => ?_) (fun q => absurd (by decide) q)
    refine w_aload ok d0_156 rfl rfl ?_
    refine w_iconst ok (z := 0) d0_158 rfl ?_
    refine w_aaloadR ok (i := 0) V_arr (Nat.le_of_ble_eq_true rfl) rfl d0_159 ?_
    refine w_aload ok d0_160 rfl rfl ?_
    refine w_acmp_ne ok d0_162 rfl rfl (fun q => absurd (rfl) q) (fun _ => ?_)
    refine w_aload ok d0_165 rfl rfl ?_
    refine w_iconst ok (z := 1) d0_167 rfl ?_
    refine w_aaloadR ok (i := 1) V_arr (Nat.le_of_ble_eq_true rfl) rfl d0_168 ?_
    refine w_aload ok d0_169 rfl rfl ?_
    refine w_acmp_ne ok d0_171 rfl rfl (fun q => absurd (rfl) q) (fun _ => ?_)
    refine w_aload ok d0_174 rfl rfl ?_
    refine w_iconst ok (z := 2) d0_176 rfl ?_
    refine w_aaloadR ok (i := 2) V_arr (Nat.le_of_ble_eq_true rfl) rfl d0_177 ?_
    refine w_aload ok d0_178 rfl rfl ?_
    refine w_acmp_ne ok d0_180 rfl rfl (fun q => absurd (rfl) q) (fun _ => ?_)
    refine w_aload ok d0_183 rfl rfl ?_
    refine w_iconst ok (z := 3) d0_185 rfl ?_
    refine w_aaloadR ok (i := 3) V_arr (Nat.le_of_ble_eq_true rfl) rfl d0_186 ?_
    refine w_aload ok d0_187 rfl rfl ?_
    refine w_acmp_ne ok d0_189 rfl rfl (fun q => absurd (rfl) q) (fun _ => ?_)
    refine w_aload ok d0_192 rfl rfl ?_
    refine w_iconst ok (z := 4) d0_194 rfl ?_
    refine w_aaloadR ok (i := 4) V_arr (Nat.le_of_ble_eq_true rfl) rfl d0_195 ?_
    refine w_aload ok d0_196 rfl rfl ?_
    refine w_acmp_ne ok d0_198 rfl rfl (fun q => absurd (rfl) q) (fun _ => ?_)
    refine w_iconst ok (z := 1) d0_201 rfl ?_
    refine w_goto ok d0_202 ?_
    refine w_istore ok (Ls' := #[.val (.int ch), .val (.int fl), .val (.long x1), .second, .val (.long x2), .second, .val (.ref b1), .val (.ref b4), .val (.ref b7), .val (.ref b10), .val (.ref b13), .val (.ref b16), .val (.ref arr), .val (.int (1 : Int32)), .unset, .unset]) d0_206 rfl ?_
    refine w_aload ok d0_208 rfl rfl ?_
    refine w_iconst ok (z := 5) d0_210 rfl ?_
    refine w_aaloadR ok (i := 5) V_arr (Nat.le_of_ble_eq_true rfl) rfl d0_211 ?_
    refine w_instanceof ok (hw _ (List.mem_of_getElem? (i := 89) rfl)) (own_cast E_l1 (hw _ (List.mem_of_getElem? (i := 78) rfl))) d0_212 ?_
    refine w_if_eq ok d0_215 (fun q => absurd q (by decide)) (fun _ => ?_)
    refine w_aload ok d0_218 rfl rfl ?_
    refine w_iconst ok (z := 5) d0_220 rfl ?_
    refine w_aaloadR ok (i := 5) V_arr (Nat.le_of_ble_eq_true rfl) rfl d0_221 ?_
    refine w_checkcast ok (hw _ (List.mem_of_getElem? (i := 89) rfl)) (own_cast E_l1 (hw _ (List.mem_of_getElem? (i := 78) rfl))) d0_222 ?_
    refine w_virtV ok (argsL := []) (rest := []) (hw _ (List.mem_of_getElem? (i := 90) rfl)) (hw _ (List.mem_of_getElem? (i := 91) rfl)) (hw _ (List.mem_of_getElem? (i := 93) rfl)) (hw _ (List.mem_of_getElem? (i := 92) rfl)) (hw _ (List.mem_of_getElem? (i := 67) rfl)) (hw _ (List.mem_of_getElem? (i := 94) rfl)) E_l1 (by decide) (rmX l Z a0 hw n0 l1 x1 hk F_l1) d0_225 (lenOf pd___J rfl) rfl rfl (Nat.le_of_ble_eq_true rfl) (Nat.le_of_ble_eq_true rfl) (k' := 15) (n' := 37) rfl rfl (Nat.le_of_ble_eq_true rfl) (Nat.le_of_ble_eq_true rfl) ?_
    rintro _ _ ⟨rfl, rfl⟩
    refine w_lloadN ok d0_228 rfl ?_
    refine w_lc_ne ok d0_229 d0_230 (fun q9 => ?_) (fun q9 => ?_)
    · exact absurd rfl q9
    · refine w_iconst ok (z := 1) d0_233 rfl ?_
      refine w_goto ok d0_234 ?_
      refine w_istore ok (Ls' := #[.val (.int ch), .val (.int fl), .val (.long x1), .second, .val (.long x2), .second, .val (.ref b1), .val (.ref b4), .val (.ref b7), .val (.ref b10), .val (.ref b13), .val (.ref b16), .val (.ref arr), .val (.int (1 : Int32)), .val (.int (1 : Int32)), .unset]) d0_238 rfl ?_
      refine w_aload ok d0_240 rfl rfl ?_
      refine w_bipush ok (z := 6) d0_242 rfl ?_
      refine w_aaloadR ok (i := 6) V_arr (Nat.le_of_ble_eq_true rfl) rfl d0_244 ?_
      refine w_instanceof ok (hw _ (List.mem_of_getElem? (i := 89) rfl)) (own_cast E_l2 (hw _ (List.mem_of_getElem? (i := 78) rfl))) d0_245 ?_
      refine w_if_eq ok d0_248 (fun q => absurd q (by decide)) (fun _ => ?_)
      refine w_aload ok d0_251 rfl rfl ?_
      refine w_bipush ok (z := 6) d0_253 rfl ?_
      refine w_aaloadR ok (i := 6) V_arr (Nat.le_of_ble_eq_true rfl) rfl d0_255 ?_
      refine w_checkcast ok (hw _ (List.mem_of_getElem? (i := 89) rfl)) (own_cast E_l2 (hw _ (List.mem_of_getElem? (i := 78) rfl))) d0_256 ?_
      refine w_virtV ok (argsL := []) (rest := []) (hw _ (List.mem_of_getElem? (i := 90) rfl)) (hw _ (List.mem_of_getElem? (i := 91) rfl)) (hw _ (List.mem_of_getElem? (i := 93) rfl)) (hw _ (List.mem_of_getElem? (i := 92) rfl)) (hw _ (List.mem_of_getElem? (i := 67) rfl)) (hw _ (List.mem_of_getElem? (i := 94) rfl)) E_l2 (by decide) (rmX l Z a0 hw n0 l2 x2 hk F_l2) d0_259 (lenOf pd___J rfl) rfl rfl (Nat.le_of_ble_eq_true rfl) (Nat.le_of_ble_eq_true rfl) (k' := 15) (n' := 37) rfl rfl (Nat.le_of_ble_eq_true rfl) (Nat.le_of_ble_eq_true rfl) ?_
      rintro _ _ ⟨rfl, rfl⟩
      refine w_lload ok d0_262 rfl ?_
      refine w_lc_ne ok d0_264 d0_265 (fun q9 => ?_) (fun q9 => ?_)
      · exact absurd rfl q9
      · refine w_iconst ok (z := 1) d0_268 rfl ?_
        refine w_goto ok d0_269 ?_
        refine w_istore ok (Ls' := #[.val (.int ch), .val (.int fl), .val (.long x1), .second, .val (.long x2), .second, .val (.ref b1), .val (.ref b4), .val (.ref b7), .val (.ref b10), .val (.ref b13), .val (.ref b16), .val (.ref arr), .val (.int (1 : Int32)), .val (.int (1 : Int32)), .val (.int (1 : Int32))]) d0_273 rfl ?_
        refine w_iload ok d0_275 rfl ?_
        refine w_if_eq ok d0_277 (fun q => absurd q (by decide)) (fun _ => ?_)
        refine w_iload ok d0_280 rfl ?_
        refine w_if_eq ok d0_282 (fun q => absurd q (by decide)) (fun _ => ?_)
        refine w_iload ok d0_285 rfl ?_
        refine w_if_eq ok d0_287 (fun q => absurd q (by decide)) (fun _ => ?_)
        refine w_iconst ok (z := 1) d0_290 rfl ?_
        refine w_goto ok d0_291 ?_
        refine w_ireturnN ok (by simp) d0_295 (Nat.le_of_ble_eq_true rfl) (Nat.le_of_ble_eq_true rfl) ?_
        exact ⟨_, rfl, rfl⟩
  · refine w_aconstNull ok d0_88 ?_
    refine w_goto ok d0_89 ?_
    refine w_astore ok (Ls' := #[.val (.int ch), .val (.int fl), .val (.long x1), .second, .val (.long x2), .second, .val (.ref b1), .val (.ref b4), .val (.ref b7), .val (.ref b10), .val .null, .unset, .unset, .unset, .unset, .unset]) d0_110 rfl rfl ?_
    refine w_new ok (hw _ (List.mem_of_getElem? (i := 30) rfl)) (hw _ (List.mem_of_getElem? (i := 31) rfl)) (hw _ (List.mem_of_getElem? (i := 32) rfl)) d0_112 (k' := 11) (n' := 26) rfl rfl (Nat.le_of_ble_eq_true rfl) (Nat.le_of_ble_eq_true rfl) (fun h12 b12 g12 E12 A12 D12 => ?_)
    have ne_b1_b12 : b1 ≠ b12 := Nat.ne_of_lt (Nat.lt_of_lt_of_le A1.lt (Nat.le_of_eq g12.symm))
    have ne_b2_b12 : b2 ≠ b12 := Nat.ne_of_lt (Nat.lt_of_lt_of_le V_b2.lt (Nat.le_of_eq g12.symm))
    have ne_b4_b12 : b4 ≠ b12 := Nat.ne_of_lt (Nat.lt_of_lt_of_le A4.lt (Nat.le_of_eq g12.symm))
    have ne_b5_b12 : b5 ≠ b12 := Nat.ne_of_lt (Nat.lt_of_lt_of_le V_b5.lt (Nat.le_of_eq g12.symm))
    have ne_b7_b12 : b7 ≠ b12 := Nat.ne_of_lt (Nat.lt_of_lt_of_le A7.lt (Nat.le_of_eq g12.symm))
    have ne_b8_b12 : b8 ≠ b12 := Nat.ne_of_lt (Nat.lt_of_lt_of_le V_b8.lt (Nat.le_of_eq g12.symm))
    have ne_b10_b12 : b10 ≠ b12 := Nat.ne_of_lt (Nat.lt_of_lt_of_le V_b10.lt (Nat.le_of_eq g12.symm))
    have gn_b12 : n0 ≤ b12 := Nat.le_trans Z0 (Nat.le_of_eq g12.symm)
    have Z0 := Nat.le_trans Z0 E12.1
    have Od := Od.ext E12
    have A1 := A1.ext E12
    have V_b2 := V_b2.ext E12
    have G2 := G2.ext E12
    have A4 := A4.ext E12
    have V_b5 := V_b5.ext E12
    have G5 := G5.ext E12
    have A7 := A7.ext E12
    have V_b8 := V_b8.ext E12
    have G8 := G8.ext E12
    have V_b10 := V_b10.ext E12
    have G10 := G10.ext E12
    have F_b12_scope : Fld Z h12 b12 "com/example/idemnity/idemnity/SqlDialect$Row" "scope" "Ljava/lang/String;" .null := D12 (Or.inr (hw _ (List.mem_of_getElem? (i := 43) rfl))) (ty := (.object "java/lang/String")) (by decide)
    have F_b12_key : Fld Z h12 b12 "com/example/idemnity/idemnity/SqlDialect$Row" "key" "Ljava/lang/String;" .null := D12 (Or.inr (hw _ (List.mem_of_getElem? (i := 45) rfl))) (ty := (.object "java/lang/String")) (by decide)
    have F_b12_claimId : Fld Z h12 b12 "com/example/idemnity/idemnity/SqlDialect$Row" "claimId" "Ljava/lang/String;" .null := D12 (Or.inr (hw _ (List.mem_of_getElem? (i := 47) rfl))) (ty := (.object "java/lang/String")) (by decide)
    have F_b12_fingerprint : Fld Z h12 b12 "com/example/idemnity/idemnity/SqlDialect$Row" "fingerprint" "[B" .null := D12 (Or.inr (hw _ (List.mem_of_getElem? (i := 49) rfl))) (ty := (.array .byte)) (by decide)
    have F_b12_value : Fld Z h12 b12 "com/example/idemnity/idemnity/SqlDialect$Row" "value" "[B" .null := D12 (Or.inr (hw _ (List.mem_of_getElem? (i := 51) rfl))) (ty := (.array .byte)) (by decide)
    have F_b12_holdsFor : Fld Z h12 b12 "com/example/idemnity/idemnity/SqlDialect$Row" "holdsFor" "J" (.long (0 : Int64)) := D12 (Or.inr (hw _ (List.mem_of_getElem? (i := 53) rfl))) (ty := .long) (by decide)
    have F_b12_keptFor : Fld Z h12 b12 "com/example/idemnity/idemnity/SqlDialect$Row" "keptFor" "J" (.long (0 : Int64)) := D12 (Or.inr (hw _ (List.mem_of_getElem? (i := 55) rfl))) (ty := .long) (by decide)
    refine w_dup ok d0_115 rfl ?_
    refine w_aload ok d0_116 rfl rfl ?_
    refine w_aload ok d0_118 rfl rfl ?_
    refine w_aload ok d0_120 rfl rfl ?_
    refine w_aload ok d0_122 rfl rfl ?_
    refine w_aload ok d0_124 rfl rfl ?_
    refine w_lloadN ok d0_126 rfl ?_
    refine w_lload ok d0_127 rfl ?_
    refine w_init ok (argsL := [(.ref b1), (.ref b4), (.ref b7), (.ref b10), .null, (.long x1), (.long x2)]) (rest := [(.ref b12)]) rfl rfl (hw _ (List.mem_of_getElem? (i := 33) rfl)) (hw _ (List.mem_of_getElem? (i := 34) rfl)) (hw _ (List.mem_of_getElem? (i := 32) rfl)) (hw _ (List.mem_of_getElem? (i := 35) rfl)) (by decide) (rmIN l Z a0 hw n0 b12 b1 b4 b7 b10 x1 x2 h12 Z0 gn_b12 A12 F_b12_scope F_b12_key F_b12_claimId F_b12_fingerprint F_b12_value F_b12_holdsFor F_b12_keptFor) d0_129 (lenOf pd__Ljava_lang_String_Ljava_lang_String_Ljava_lang_String_ArBArBJJ_V rfl) rfl rfl (Nat.le_of_ble_eq_true rfl) (Nat.le_of_ble_eq_true rfl) (k' := 11) (n' := 26) rfl rfl (Nat.le_of_ble_eq_true rfl) (Nat.le_of_ble_eq_true rfl) ?_
    rintro hr ⟨Kc, A12, F_scope, F_key, F_claimId, F_fingerprint, F_value, F_holdsFor, F_keptFor⟩
    have Od := Od.keep Kc (allS gn_b12 all0)
    have A1 := A1.keep Kc
    have V_b2 := V_b2.keep Kc (ninS ne_b2_b12 nin0)
    have G2 := G2.keep Kc
    have A4 := A4.keep Kc
    have V_b5 := V_b5.keep Kc (ninS ne_b5_b12 nin0)
    have G5 := G5.keep Kc
    have A7 := A7.keep Kc
    have V_b8 := V_b8.keep Kc (ninS ne_b8_b12 nin0)
    have G8 := G8.keep Kc
    have V_b10 := V_b10.keep Kc (ninS ne_b10_b12 nin0)
    have G10 := G10.keep Kc
    have Z0 := Nat.le_trans Z0 Kc.1
    refine w_astore ok (Ls' := #[.val (.int ch), .val (.int fl), .val (.long x1), .second, .val (.long x2), .second, .val (.ref b1), .val (.ref b4), .val (.ref b7), .val (.ref b10), .val .null, .val (.ref b12), .unset, .unset, .unset, .unset]) d0_132 rfl rfl ?_
    refine w_aload ok d0_134 rfl rfl ?_
    refine w_virtV ok (argsL := []) (rest := []) (hw _ (List.mem_of_getElem? (i := 56) rfl)) (hw _ (List.mem_of_getElem? (i := 57) rfl)) (hw _ (List.mem_of_getElem? (i := 59) rfl)) (hw _ (List.mem_of_getElem? (i := 58) rfl)) (hw _ (List.mem_of_getElem? (i := 32) rfl)) (hw _ (List.mem_of_getElem? (i := 60) rfl)) A12 (by decide) (rmKN l Z a0 hw n0 b12 b1 b4 b7 b10 x1 x2 hr Z0 A12 A1 A4 A7 G10 F_scope F_key F_claimId F_fingerprint F_value F_holdsFor F_keptFor lc cc L0 Bx Od) d0_136 (lenOf pd___ArLjava_lang_Object_ rfl) rfl rfl (Nat.le_of_ble_eq_true rfl) (Nat.le_of_ble_eq_true rfl) (k' := 14) (n' := 35) rfl rfl (Nat.le_of_ble_eq_true rfl) (Nat.le_of_ble_eq_true rfl) ?_
    rintro _ hk ⟨arr, l1, l2, rfl, Kc, V_arr, E_l1, F_l1, E_l2, F_l2⟩
    refine w_astore ok (Ls' := #[.val (.int ch), .val (.int fl), .val (.long x1), .second, .val (.long x2), .second, .val (.ref b1), .val (.ref b4), .val (.ref b7), .val (.ref b10), .val .null, .val (.ref b12), .val (.ref arr), .unset, .unset, .unset]) d0_139 rfl rfl ?_
    refine w_aload ok d0_141 rfl rfl ?_
    refine w_ifnull_no ok d0_143 ?_
    refine w_aload ok d0_146 rfl rfl ?_
    refine w_arraylength ok V_arr.len d0_148 ?_
    refine w_int (b := 7) rfl ?_
    refine w_bipush ok (z := 7) d0_149 rfl ?_
    refine w_ic_eq ok d0_151 (fun _ => ?_) (fun q => absurd (by decide) q)
    refine w_aload ok d0_156 rfl rfl ?_
    refine w_iconst ok (z := 0) d0_158 rfl ?_
    refine w_aaloadR ok (i := 0) V_arr (Nat.le_of_ble_eq_true rfl) rfl d0_159 ?_
    refine w_aload ok d0_160 rfl rfl ?_
    refine w_acmp_ne ok d0_162 rfl rfl (fun q => absurd (rfl) q) (fun _ => ?_)
    refine w_aload ok d0_165 rfl rfl ?_
    refine w_iconst ok (z := 1) d0_167 rfl ?_
    refine w_aaloadR ok (i := 1) V_arr (Nat.le_of_ble_eq_true rfl) rfl d0_168 ?_
    refine w_aload ok d0_169 rfl rfl ?_
    refine w_acmp_ne ok d0_171 rfl rfl (fun q => absurd (rfl) q) (fun _ => ?_)
    refine w_aload ok d0_174 rfl rfl ?_
    refine w_iconst ok (z := 2) d0_176 rfl ?_
    refine w_aaloadR ok (i := 2) V_arr (Nat.le_of_ble_eq_true rfl) rfl d0_177 ?_
    refine w_aload ok d0_178 rfl rfl ?_
    refine w_acmp_ne ok d0_180 rfl rfl (fun q => absurd (rfl) q) (fun _ => ?_)
    refine w_aload ok d0_183 rfl rfl ?_
    refine w_iconst ok (z := 3) d0_185 rfl ?_
    refine w_aaloadR ok (i := 3) V_arr (Nat.le_of_ble_eq_true rfl) rfl d0_186 ?_
    refine w_aload ok d0_187 rfl rfl ?_
    refine w_acmp_ne ok d0_189 rfl rfl (fun q => absurd (rfl) q) (fun _ => ?_)
    refine w_aload ok d0_192 rfl rfl ?_
    refine w_iconst ok (z := 4) d0_194 rfl ?_
    refine w_aaloadR ok (i := 4) V_arr (Nat.le_of_ble_eq_true rfl) rfl d0_195 ?_
    refine w_aload ok d0_196 rfl rfl ?_
    refine w_acmp_ne ok d0_198 rfl rfl (fun q => absurd (rfl) q) (fun _ => ?_)
    refine w_iconst ok (z := 1) d0_201 rfl ?_
    refine w_goto ok d0_202 ?_
    refine w_istore ok (Ls' := #[.val (.int ch), .val (.int fl), .val (.long x1), .second, .val (.long x2), .second, .val (.ref b1), .val (.ref b4), .val (.ref b7), .val (.ref b10), .val .null, .val (.ref b12), .val (.ref arr), .val (.int (1 : Int32)), .unset, .unset]) d0_206 rfl ?_
    refine w_aload ok d0_208 rfl rfl ?_
    refine w_iconst ok (z := 5) d0_210 rfl ?_
    refine w_aaloadR ok (i := 5) V_arr (Nat.le_of_ble_eq_true rfl) rfl d0_211 ?_
    refine w_instanceof ok (hw _ (List.mem_of_getElem? (i := 89) rfl)) (own_cast E_l1 (hw _ (List.mem_of_getElem? (i := 78) rfl))) d0_212 ?_
    refine w_if_eq ok d0_215 (fun q => absurd q (by decide)) (fun _ => ?_)
    refine w_aload ok d0_218 rfl rfl ?_
    refine w_iconst ok (z := 5) d0_220 rfl ?_
    refine w_aaloadR ok (i := 5) V_arr (Nat.le_of_ble_eq_true rfl) rfl d0_221 ?_
    refine w_checkcast ok (hw _ (List.mem_of_getElem? (i := 89) rfl)) (own_cast E_l1 (hw _ (List.mem_of_getElem? (i := 78) rfl))) d0_222 ?_
    refine w_virtV ok (argsL := []) (rest := []) (hw _ (List.mem_of_getElem? (i := 90) rfl)) (hw _ (List.mem_of_getElem? (i := 91) rfl)) (hw _ (List.mem_of_getElem? (i := 93) rfl)) (hw _ (List.mem_of_getElem? (i := 92) rfl)) (hw _ (List.mem_of_getElem? (i := 67) rfl)) (hw _ (List.mem_of_getElem? (i := 94) rfl)) E_l1 (by decide) (rmX l Z a0 hw n0 l1 x1 hk F_l1) d0_225 (lenOf pd___J rfl) rfl rfl (Nat.le_of_ble_eq_true rfl) (Nat.le_of_ble_eq_true rfl) (k' := 14) (n' := 35) rfl rfl (Nat.le_of_ble_eq_true rfl) (Nat.le_of_ble_eq_true rfl) ?_
    rintro _ _ ⟨rfl, rfl⟩
    refine w_lloadN ok d0_228 rfl ?_
    refine w_lc_ne ok d0_229 d0_230 (fun q9 => ?_) (fun q9 => ?_)
    · exact absurd rfl q9
    · refine w_iconst ok (z := 1) d0_233 rfl ?_
      refine w_goto ok d0_234 ?_
      refine w_istore ok (Ls' := #[.val (.int ch), .val (.int fl), .val (.long x1), .second, .val (.long x2), .second, .val (.ref b1), .val (.ref b4), .val (.ref b7), .val (.ref b10), .val .null, .val (.ref b12), .val (.ref arr), .val (.int (1 : Int32)), .val (.int (1 : Int32)), .unset]) d0_238 rfl ?_
      refine w_aload ok d0_240 rfl rfl ?_
      refine w_bipush ok (z := 6) d0_242 rfl ?_
      refine w_aaloadR ok (i := 6) V_arr (Nat.le_of_ble_eq_true rfl) rfl d0_244 ?_
      refine w_instanceof ok (hw _ (List.mem_of_getElem? (i := 89) rfl)) (own_cast E_l2 (hw _ (List.mem_of_getElem? (i := 78) rfl))) d0_245 ?_
      refine w_if_eq ok d0_248 (fun q => absurd q (by decide)) (fun _ => ?_)
      refine w_aload ok d0_251 rfl rfl ?_
      refine w_bipush ok (z := 6) d0_253 rfl ?_
      refine w_aaloadR ok (i := 6) V_arr (Nat.le_of_ble_eq_true rfl) rfl d0_255 ?_
      refine w_checkcast ok (hw _ (List.mem_of_getElem? (i := 89) rfl)) (own_cast E_l2 (hw _ (List.mem_of_getElem? (i := 78) rfl))) d0_256 ?_
      refine w_virtV ok (argsL := []) (rest := []) (hw _ (List.mem_of_getElem? (i := 90) rfl)) (hw _ (List.mem_of_getElem? (i := 91) rfl)) (hw _ (List.mem_of_getElem? (i := 93) rfl)) (hw _ (List.mem_of_getElem? (i := 92) rfl)) (hw _ (List.mem_of_getElem? (i := 67) rfl)) (hw _ (List.mem_of_getElem? (i := 94) rfl)) E_l2 (by decide) (rmX l Z a0 hw n0 l2 x2 hk F_l2) d0_259 (lenOf pd___J rfl) rfl rfl (Nat.le_of_ble_eq_true rfl) (Nat.le_of_ble_eq_true rfl) (k' := 14) (n' := 35) rfl rfl (Nat.le_of_ble_eq_true rfl) (Nat.le_of_ble_eq_true rfl) ?_
      rintro _ _ ⟨rfl, rfl⟩
      refine w_lload ok d0_262 rfl ?_
      refine w_lc_ne ok d0_264 d0_265 (fun q9 => ?_) (fun q9 => ?_)
      · exact absurd rfl q9
      · refine w_iconst ok (z := 1) d0_268 rfl ?_
        refine w_goto ok d0_269 ?_
        refine w_istore ok (Ls' := #[.val (.int ch), .val (.int fl), .val (.long x1), .second, .val (.long x2), .second, .val (.ref b1), .val (.ref b4), .val (.ref b7), .val (.ref b10), .val .null, .val (.ref b12), .val (.ref arr), .val (.int (1 : Int32)), .val (.int (1 : Int32)), .val (.int (1 : Int32))]) d0_273 rfl ?_
        refine w_iload ok d0_275 rfl ?_
        refine w_if_eq ok d0_277 (fun q => absurd q (by decide)) (fun _ => ?_)
        refine w_iload ok d0_280 rfl ?_
        refine w_if_eq ok d0_282 (fun q => absurd q (by decide)) (fun _ => ?_)
        refine w_iload ok d0_285 rfl ?_
        refine w_if_eq ok d0_287 (fun q => absurd q (by decide)) (fun _ => ?_)
        refine w_iconst ok (z := 1) d0_290 rfl ?_
        refine w_goto ok d0_291 ?_
        refine w_ireturnN ok (by simp) d0_295 (Nat.le_of_ble_eq_true rfl) (Nat.le_of_ble_eq_true rfl) ?_
        exact ⟨_, rfl, rfl⟩
set_option maxRecDepth 65536 in
set_option maxHeartbeats 4000000 in
theorem comes_1 {Post : Tables → Env → Array Value → State → Outcome → State → Prop} (hpost : ∀ tb e args s v u, (limb_1_1.after args s (.returned v) u = true ∧ limb_1_2.after args s (.returned v) u = true ∧ True) → FrameEnd s (.returned v) u (Jvm.fieldLocs frame_1_writes args s ++ Jvm.arrayLocs frame_1_arrays args s ++ Jvm.staticLocs frame_1_statics s) 40 192 → Post tb e args s (.returned v) u) :
    ArmFor flags0 classFile x code maxLocals ret World_1 tables_1 room_1 Calls_1 rest_1 Pre_1 Post := by
  intro l hfl _ _ p e ha hc hk s m args below hf hA hF happ hP
  obtain ⟨hcalls, hrest, hpre⟩ := hP
  obtain ⟨-, -, -, hnamed, -, -, -, hat⟩ := (Spec.applies_iff hf).mp happ
  obtain ⟨hg, hn⟩ := and_e (Cond.before_iff.mp (show (Jvm.Cond.and given_1 narrow_1).before args s = true from hpre))
  obtain ⟨hct, hg0⟩ := and_e hg
  obtain ⟨hk0, hg1⟩ := and_e hg0
  obtain ⟨hk1, hg2⟩ := and_e hg1
  obtain ⟨hk2, hg3⟩ := and_e hg2
  have hk3 := hg3
  obtain ⟨w0, w1, w2, w3, rfl⟩ : ∃ w0 w1 w2 w3 : Value, args = #[w0, w1, w2, w3] := by
    have hs : args.size = 4 := by simpa [Cond.value, given_1] using hct
    obtain ⟨L⟩ := args
    match L, hs with
    | [w0, w1, w2, w3], _ => exact ⟨w0, w1, w2, w3, rfl⟩
  have hw := fun d (hd : d ∈ tables_1) => atoms_spec (ws := Jvm.Cond.code x code maxLocals ret :: tables_1) hat d (List.mem_cons_of_mem _ hd)
  obtain ⟨i0, ei0⟩ := is_v hk0
  obtain rfl : w0 = (.int i0) := Option.some.inj ei0
  obtain ⟨i1, ei1⟩ := is_v hk1
  obtain rfl : w1 = (.int i1) := Option.some.inj ei1
  obtain ⟨i2, ei2⟩ := isL_v hk2
  obtain rfl : w2 = (.long i2) := Option.some.inj ei2
  obtain ⟨i3, ei3⟩ := isL_v hk3
  obtain rfl : w3 = (.long i3) := Option.some.inj ei3
  have hsets := (atoms_of jdkStatics_1 (show (jdkStatics_1.foldr Jvm.Cond.and restOwn_1).before _ s = true from hrest)).1
  have hv (i : Nat) (w : Jvm.Cond) (e : jdkStatics_1[i]? = some w) : w.value #[Value.int i0, Value.int i1, Value.long i2, Value.long i3] s none s [] = some true := Cond.before_iff.mp (hsets w (List.mem_of_getElem? e))
  obtain ⟨cs, evs⟩ := is_v (hv 1 _ rfl)
  have hcs : cs ≠ 0 := fun e => by
    have q := not_v (hv 2 _ rfl)
    rw [Cond.eq_ints evs (Term.int_eval _), e] at q
    simp at q
  have S0 := Sta.start evs (Or.inl (hsets _ (List.mem_of_getElem? (i := 0) rfl)))
  obtain ⟨lc, evc⟩ := arr_v (hv 11 _ rfl)
  have L0 := Sta.start evc (Or.inl (hsets _ (List.mem_of_getElem? (i := 10) rfl)))
  obtain ⟨cc, A⟩ := Arr.start evc (hv 11 _ rfl)
  have hlen := eqv_i (Term.int_eval _) (hv 13 _ rfl)
  have hsz : cc.slots.size < 2 ^ 31 := own_len evc (A.fin (Vm.Alike.refl _)) hlen
  have hl2 : cc.slots.size.toInt32 = 256 := by
    have := (len_f evc (A.fin (Vm.Alike.refl _)) hsz).symm.trans hlen
    simpa using this
  have Bx : Bxs s lc cc "java/lang/Long" "J" 256 (fun j => .long (j - 128).toInt64) := Bxs.start (fun idx => evc) A hsz hl2 (by decide) (hv 14 _ rfl) (fun X j hj h => eqv_l (i2l_at (own_idx hj)) h)
  obtain ⟨n, o, h1, h2, h3, _, L, rfl, ⟨⟨_, rfl, rfl⟩, N⟩, hq⟩ := rm0 l s _ hw s.heap.size i0 i1 i2 i3 s.heap (Nat.le_refl _) (Old.start s) cs hcs S0 lc cc L0 Bx p e ha hc hk s m _ below hf ((Spec.applies_iff_loose hf).mp happ).1 ⟨rfl, State.Warmed39.refl s, rfl⟩ trivial
  refine ⟨n, _, h1, h2, h3, hpost _ _ _ _ _ _ ⟨Cond.after_iff.mpr rfl, Cond.after_iff.mpr (eq_i res_at (Term.int_eval (1)) rfl), trivial⟩ ⟨hq.1, hq.2.1, (hq.2.2.sift fun y hy => Or.inr (N y hy)).mono (by decide) (by decide)⟩⟩
theorem main_1_1 : Claimed_1_1 := comes_1 fun _ _ _ _ _ _ h hF => ⟨h.1, hF⟩
theorem main_1_2 : Claimed_1_2 := comes_1 fun _ _ _ _ _ _ h hF => ⟨h.2.1, hF⟩
end Jvm.Pilot.@@N@@
namespace Jvm.Pilot.@@N@@
open Jvm Jvm.ClassFile Sem Op Lib Jvm.Free Jvm.Stand Jvm.Pilot.@@N@@.Jvm.D
/-! MADE BY PROGRAM (witnessworld.py) out of the Statement's table words and the real class files: 26 classes; the members and pool entries that the words name. The judged class is class 1, her method 1. -/
namespace start1
open Jvm.ClassFile
def u (s : String) : CpInfo := .utf8 (stringToUtf16 s)
/-- a pool by its gaps: so many unusable entries, then the entry; so many at the end -/
def gap : Nat → List CpInfo → List CpInfo
  | 0, r => r
  | n + 1, r => .unusable :: gap n r
def poolList (es : List (Nat × CpInfo)) (last : Nat) : List CpInfo := es.foldr (fun e r => gap e.1 (e.2 :: r)) (gap last [])
def pool (es : List (Nat × CpInfo)) (last : Nat) : Array CpInfo := ⟨poolList es last⟩
def fileOf (pool : Array CpInfo) (this : Nat) (attrs : Array Attribute := #[]) (ms : Array MethodInfo := #[]) (fl : Nat := 33) (sup : Nat := 0) (ifs : Array Nat := #[]) (fds : Array FieldInfo := #[]) : ClassFile where
  minorVersion := 0
  majorVersion := 65
  constantPool := pool
  accessFlags := fl
  thisClass := this
  superClass := sup
  interfaces := ifs
  fields := fds
  methods := ms
  attributes := attrs
def plain (name : String) (sup : Option ClassId) : Class where
  name := name
  kind := .ordinary
  loader := none
  accessFlags := 33
  super := sup
  interfaces := #[]
  cf := none
  fields := #[]
  methods := #[]
  instanceTypes := #[]
  staticTypes := #[]
  resolved := #[]
  callSites := []
  init := .initialized
  statics := none
  mirror := none

def pool0 : Array CpInfo := pool [(5, u "<init>"), (0, u "()V"), (1, .class_ 10), (1, u "java/lang/Object")] 113

def k0c0 : Code := { maxStack := 0, maxLocals := 1, code := object_method_1_code, exceptionTable := #[], attributes := #[] }
def k0m0 : Method := { name := "<init>", desc := "()V", sig := { parameters := [], returnType := none }, accessFlags := 1, code := some k0c0 }
/-- java/lang/Object -/
def k0 : Class := { plain "java/lang/Object" none with
  accessFlags := 33
  interfaces := #[]
  cf := some (fileOf pool0 8 #[] #[{ accessFlags := 1, nameIndex := 5, descriptorIndex := 6, attributes := #[] }] 33 0 #[] #[])
  fields := #[]
  methods := #[k0m0]
  instanceTypes := #[]
  staticTypes := #[]
  resolved := Array.replicate 124 none
  statics := none }

def pool1 : Array CpInfo := pool [(2, .class_ 4), (1, u "java/lang/Object"), (0, u "<init>"), (0, u "()V"), (0, .class_ 8), (0, u "java/lang/String"), (0, .methodref 7 10), (0, .nameAndType 5 11), (0, u "([C)V"), (0, .class_ 13), (0, u "com/example/idemnity/idemnity/SqlDialect$Row"), (0, .methodref 12 15), (0, .nameAndType 5 16), (0, u "(Ljava/lang/String;Ljava/lang/String;Ljava/lang/String;[B[BJJ)V"), (0, .methodref 12 18), (0, .nameAndType 19 20), (0, u "columns"), (0, u "()[Ljava/lang/Object;"), (0, .class_ 22), (0, u "java/lang/Long"), (0, .methodref 21 24), (0, .nameAndType 25 26), (0, u "longValue"), (0, u "()J"), (0, .class_ 28), (0, u "com/example/idemnity/idemnity/RowColumnsPinLaw"), (2, u "law"), (0, u "(IIJJ)Z")] 11

def k1m0 : Method := { name := "<init>", desc := "()V", sig := { parameters := [], returnType := none }, accessFlags := 1, code := none }
def k1c1 : Code := { maxStack := 11, maxLocals := 16, code := code, exceptionTable := #[], attributes := #[] }
def k1m1 : Method := { name := "law", desc := "(IIJJ)Z", sig := { parameters := [.int, .int, .long, .long], returnType := some .boolean }, accessFlags := 9, code := some k1c1 }
/-- com/example/idemnity/idemnity/RowColumnsPinLaw -/
def k1 : Class := { plain "com/example/idemnity/idemnity/RowColumnsPinLaw" (some 0) with
  accessFlags := 49
  interfaces := #[]
  cf := some (fileOf pool1 27 #[] #[{ accessFlags := 1, nameIndex := 5, descriptorIndex := 6, attributes := #[] }, { accessFlags := 9, nameIndex := 31, descriptorIndex := 32, attributes := #[] }] 49 2 #[] #[])
  fields := #[]
  methods := #[k1m0, k1m1]
  instanceTypes := #[]
  staticTypes := #[]
  resolved := Array.replicate 44 none
  statics := none }

def pool2 : Array CpInfo := pool [(1, .class_ 2), (0, u "java/io/Serializable"), (0, .class_ 4), (0, u "java/lang/Object")] 2

/-- java/io/Serializable -/
def k2 : Class := { plain "java/io/Serializable" (some 0) with
  accessFlags := 1537
  interfaces := #[]
  cf := some (fileOf pool2 1 #[] #[] 1537 3 #[] #[])
  fields := #[]
  methods := #[]
  instanceTypes := #[]
  staticTypes := #[]
  resolved := Array.replicate 7 none
  statics := none }

def pool3 : Array CpInfo := pool [(1, .class_ 2), (0, u "java/lang/Comparable"), (0, .class_ 4), (0, u "java/lang/Object")] 7

/-- java/lang/Comparable -/
def k3 : Class := { plain "java/lang/Comparable" (some 0) with
  accessFlags := 1537
  interfaces := #[]
  cf := some (fileOf pool3 1 #[] #[] 1537 3 #[] #[])
  fields := #[]
  methods := #[]
  instanceTypes := #[]
  staticTypes := #[]
  resolved := Array.replicate 12 none
  statics := none }

def pool4 : Array CpInfo := pool [(2, .class_ 4), (1, u "java/lang/CharSequence"), (42, .class_ 48), (0, u "java/lang/CharSequence$1CodePointIterator"), (10, .class_ 60), (0, u "java/lang/CharSequence$1CharIterator"), (5, .class_ 67), (0, u "java/lang/Object")] 63

/-- java/lang/CharSequence -/
def k4 : Class := { plain "java/lang/CharSequence" (some 0) with
  accessFlags := 1537
  interfaces := #[]
  cf := some (fileOf pool4 2 #[.nestMembers #[47, 59]] #[] 1537 66 #[] #[])
  fields := #[]
  methods := #[]
  instanceTypes := #[]
  staticTypes := #[]
  resolved := Array.replicate 131 none
  statics := none }

def pool5 : Array CpInfo := pool [(1, .class_ 2), (0, u "java/lang/constant/Constable"), (0, .class_ 4), (0, u "java/lang/Object")] 6

/-- java/lang/constant/Constable -/
def k5 : Class := { plain "java/lang/constant/Constable" (some 0) with
  accessFlags := 1537
  interfaces := #[]
  cf := some (fileOf pool5 1 #[] #[] 1537 3 #[] #[])
  fields := #[]
  methods := #[]
  instanceTypes := #[]
  staticTypes := #[]
  resolved := Array.replicate 11 none
  statics := none }

def pool6 : Array CpInfo := pool [(1, .class_ 2), (0, u "java/lang/constant/ConstantDesc"), (0, .class_ 4), (0, u "java/lang/Object")] 32

/-- java/lang/constant/ConstantDesc -/
def k6 : Class := { plain "java/lang/constant/ConstantDesc" (some 0) with
  accessFlags := 1537
  interfaces := #[]
  cf := some (fileOf pool6 1 #[] #[] 1537 3 #[] #[])
  fields := #[]
  methods := #[]
  instanceTypes := #[]
  staticTypes := #[]
  resolved := Array.replicate 37 none
  statics := none }

def pool7 : Array CpInfo := pool [(1, .methodref 2 3), (0, .class_ 4), (0, .nameAndType 5 6), (0, u "java/lang/Object"), (0, u "<init>"), (0, u "()V"), (2, .fieldref 10 11), (0, .class_ 12), (0, .nameAndType 13 14), (0, u "java/lang/String"), (0, u "value"), (0, u "[B"), (0, .fieldref 10 16), (0, .nameAndType 17 18), (0, u "coder"), (0, u "B"), (2, u "hash"), (0, u "I"), (2, u "hashIsZero"), (0, u "Z"), (0, .methodref 10 28), (0, .nameAndType 5 29), (0, u "([CIILjava/lang/Void;)V"), (8, .fieldref 10 39), (0, .nameAndType 40 26), (0, u "COMPACT_STRINGS"), (1, .class_ 44), (1, u "java/lang/StringUTF16"), (0, u "compress"), (1, .methodref 42 48), (0, .nameAndType 49 50), (0, u "coderFromArrayLen"), (0, u "([BI)B"), (126, .methodref 42 178), (0, .nameAndType 45 179), (0, u "([CII)[B"), (395, .class_ 576), (0, u "java/lang/CharSequence"), (22, u "CASE_INSENSITIVE_ORDER"), (0, u "Ljava/util/Comparator;"), (409, u "([C)V"), (90, u "serialPersistentFields"), (0, u "[Ljava/io/ObjectStreamField;"), (0, .class_ 1104), (0, u "java/lang/String$CaseInsensitiveComparator"), (1, .class_ 1107), (0, u "java/io/Serializable"), (0, .class_ 1109), (0, u "java/lang/Comparable"), (0, .class_ 1111), (0, u "java/lang/constant/Constable"), (0, .class_ 1113), (0, u "java/lang/constant/ConstantDesc"), (2, u "serialVersionUID"), (0, u "J"), (3, u "REPL"), (0, u "C"), (2, u "LATIN1"), (1, u "UTF16")] 323

def k7m0 : Method := { name := "<init>", desc := "()V", sig := { parameters := [], returnType := none }, accessFlags := 1, code := none }
def k7c1 : Code := { maxStack := 5, maxLocals := 2, code := jdk_42_method_3_code, exceptionTable := #[], attributes := #[] }
def k7m1 : Method := { name := "<init>", desc := "([C)V", sig := { parameters := [(.array .char)], returnType := none }, accessFlags := 1, code := some k7c1 }
def k7c2 : Code := { maxStack := 4, maxLocals := 6, code := jdk_42_method_149_code, exceptionTable := #[], attributes := #[] }
def k7m2 : Method := { name := "<init>", desc := "([CIILjava/lang/Void;)V", sig := { parameters := [(.array .char), .int, .int, (.object "java/lang/Void")], returnType := none }, accessFlags := 2, code := some k7c2 }
/-- java/lang/String -/
def k7 : Class := { plain "java/lang/String" (some 0) with
  accessFlags := 49
  interfaces := #[2, 3, 4, 5, 6]
  cf := some (fileOf pool7 10 #[.nestMembers #[1103]] #[{ accessFlags := 1, nameIndex := 5, descriptorIndex := 6, attributes := #[] }, { accessFlags := 1, nameIndex := 5, descriptorIndex := 1010, attributes := #[] }, { accessFlags := 2, nameIndex := 5, descriptorIndex := 29, attributes := #[] }] 49 2 #[1106, 1108, 575, 1110, 1112] #[{ accessFlags := 18, nameIndex := 13, descriptorIndex := 14, attributes := #[] }, { accessFlags := 18, nameIndex := 17, descriptorIndex := 18, attributes := #[] }, { accessFlags := 2, nameIndex := 21, descriptorIndex := 22, attributes := #[] }, { accessFlags := 2, nameIndex := 25, descriptorIndex := 26, attributes := #[] }, { accessFlags := 26, nameIndex := 1116, descriptorIndex := 1117, attributes := #[] }, { accessFlags := 24, nameIndex := 40, descriptorIndex := 26, attributes := #[] }, { accessFlags := 26, nameIndex := 1101, descriptorIndex := 1102, attributes := #[] }, { accessFlags := 26, nameIndex := 1121, descriptorIndex := 1122, attributes := #[] }, { accessFlags := 25, nameIndex := 599, descriptorIndex := 600, attributes := #[] }, { accessFlags := 24, nameIndex := 1125, descriptorIndex := 18, attributes := #[] }, { accessFlags := 24, nameIndex := 1127, descriptorIndex := 18, attributes := #[] }])
  fields := #[{ name := "value", type := (.array .byte), accessFlags := 18, slot := 0, constantValue := 0 }, { name := "coder", type := .byte, accessFlags := 18, slot := 1, constantValue := 0 }, { name := "hash", type := .int, accessFlags := 2, slot := 2, constantValue := 0 }, { name := "hashIsZero", type := .boolean, accessFlags := 2, slot := 3, constantValue := 0 }, { name := "serialVersionUID", type := .long, accessFlags := 26, slot := 0, constantValue := 0 }, { name := "COMPACT_STRINGS", type := .boolean, accessFlags := 24, slot := 1, constantValue := 0 }, { name := "serialPersistentFields", type := (.array (.object "java/io/ObjectStreamField")), accessFlags := 26, slot := 2, constantValue := 0 }, { name := "REPL", type := .char, accessFlags := 26, slot := 3, constantValue := 0 }, { name := "CASE_INSENSITIVE_ORDER", type := (.object "java/util/Comparator"), accessFlags := 25, slot := 4, constantValue := 0 }, { name := "LATIN1", type := .byte, accessFlags := 24, slot := 5, constantValue := 0 }, { name := "UTF16", type := .byte, accessFlags := 24, slot := 6, constantValue := 0 }]
  methods := #[k7m0, k7m1, k7m2]
  instanceTypes := #[(.array .byte), .byte, .int, .boolean]
  staticTypes := #[.long, .boolean, (.array (.object "java/io/ObjectStreamField")), .char, (.object "java/util/Comparator"), .byte, .byte]
  resolved := Array.replicate 1451 none
  statics := some 0 }

def pool8 : Array CpInfo := pool [(6, .class_ 8), (1, u "java/lang/Object"), (0, u "<init>"), (0, u "()V"), (1, .class_ 14), (1, u "java/lang/StringUTF16"), (31, u "$assertionsDisabled"), (0, u "Z"), (13, u "HI_BYTE_SHIFT"), (0, u "I"), (2, u "LO_BYTE_SHIFT"), (49, .methodref 12 116), (0, .nameAndType 117 118), (0, u "compress"), (0, u "([CI[BII)I"), (3, u "([CII)[B"), (138, u "coderFromArrayLen"), (0, u "([BI)B"), (106, .class_ 371), (1, u "java/lang/StringUTF16$LinesSpliterator"), (58, u "MAX_LENGTH"), (196, .class_ 628), (0, u "java/lang/StringUTF16$CodePointsSpliterator"), (0, .class_ 630), (0, u "java/lang/StringUTF16$CharsSpliterator")] 4

def k8m0 : Method := { name := "<init>", desc := "()V", sig := { parameters := [], returnType := none }, accessFlags := 0, code := none }
def k8c1 : Code := { maxStack := 2, maxLocals := 2, code := jdk_52_method_15_code, exceptionTable := #[], attributes := #[] }
def k8m1 : Method := { name := "coderFromArrayLen", desc := "([BI)B", sig := { parameters := [(.array .byte), .int], returnType := some .byte }, accessFlags := 8, code := some k8c1 }
def k8c2 : Code := { maxStack := 5, maxLocals := 6, code := jdk_52_method_16_code, exceptionTable := #[], attributes := #[] }
def k8m2 : Method := { name := "compress", desc := "([CII)[B", sig := { parameters := [(.array .char), .int, .int], returnType := some (.array .byte) }, accessFlags := 9, code := some k8c2 }
def k8c3 : Code := { maxStack := 3, maxLocals := 7, code := jdk_52_method_21_code, exceptionTable := #[], attributes := #[] }
def k8m3 : Method := { name := "compress", desc := "([CI[BII)I", sig := { parameters := [(.array .char), .int, (.array .byte), .int, .int], returnType := some .int }, accessFlags := 9, code := some k8c3 }
/-- java/lang/StringUTF16 -/
def k8 : Class := { plain "java/lang/StringUTF16" (some 0) with
  accessFlags := 48
  interfaces := #[]
  cf := some (fileOf pool8 12 #[.nestMembers #[627, 629, 369]] #[{ accessFlags := 0, nameIndex := 9, descriptorIndex := 10, attributes := #[] }, { accessFlags := 8, nameIndex := 261, descriptorIndex := 262, attributes := #[] }, { accessFlags := 9, nameIndex := 117, descriptorIndex := 122, attributes := #[] }, { accessFlags := 9, nameIndex := 117, descriptorIndex := 118, attributes := #[] }] 48 6 #[] #[{ accessFlags := 26, nameIndex := 61, descriptorIndex := 62, attributes := #[] }, { accessFlags := 26, nameIndex := 65, descriptorIndex := 62, attributes := #[] }, { accessFlags := 24, nameIndex := 430, descriptorIndex := 62, attributes := #[] }, { accessFlags := 4120, nameIndex := 46, descriptorIndex := 47, attributes := #[] }])
  fields := #[{ name := "HI_BYTE_SHIFT", type := .int, accessFlags := 26, slot := 0, constantValue := 0 }, { name := "LO_BYTE_SHIFT", type := .int, accessFlags := 26, slot := 1, constantValue := 0 }, { name := "MAX_LENGTH", type := .int, accessFlags := 24, slot := 2, constantValue := 0 }, { name := "$assertionsDisabled", type := .boolean, accessFlags := 4120, slot := 3, constantValue := 0 }]
  methods := #[k8m0, k8m1, k8m2, k8m3]
  instanceTypes := #[]
  staticTypes := #[.int, .int, .int, .boolean]
  resolved := Array.replicate 635 none
  statics := none }

def pool9 : Array CpInfo := pool [(1, .methodref 2 3), (0, .class_ 4), (0, .nameAndType 5 6), (0, u "java/lang/Object"), (0, u "<init>"), (0, u "()V"), (0, .class_ 8), (0, u "java/lang/Record")] 13

def k9c0 : Code := { maxStack := 1, maxLocals := 1, code := jdk_30_method_1_code, exceptionTable := #[], attributes := #[] }
def k9m0 : Method := { name := "<init>", desc := "()V", sig := { parameters := [], returnType := none }, accessFlags := 4, code := some k9c0 }
/-- java/lang/Record -/
def k9 : Class := { plain "java/lang/Record" (some 0) with
  accessFlags := 1057
  interfaces := #[]
  cf := some (fileOf pool9 7 #[] #[{ accessFlags := 4, nameIndex := 5, descriptorIndex := 6, attributes := #[] }] 1057 2 #[] #[])
  fields := #[]
  methods := #[k9m0]
  instanceTypes := #[]
  staticTypes := #[]
  resolved := Array.replicate 22 none
  statics := none }

def pool10 : Array CpInfo := pool [(1, .methodref 2 3), (0, .class_ 4), (0, .nameAndType 5 6), (0, u "java/lang/Record"), (0, u "<init>"), (0, u "()V"), (0, .fieldref 8 9), (0, .class_ 10), (0, .nameAndType 11 12), (0, u "com/example/idemnity/idemnity/SqlDialect$Row"), (0, u "scope"), (0, u "Ljava/lang/String;"), (0, .fieldref 8 14), (0, .nameAndType 15 12), (0, u "key"), (0, .fieldref 8 17), (0, .nameAndType 18 12), (0, u "claimId"), (0, .fieldref 8 20), (0, .nameAndType 21 22), (0, u "fingerprint"), (0, u "[B"), (0, .fieldref 8 24), (0, .nameAndType 25 22), (0, u "value"), (0, .fieldref 8 27), (0, .nameAndType 28 29), (0, u "holdsFor"), (0, u "J"), (0, .fieldref 8 31), (0, .nameAndType 32 29), (0, u "keptFor"), (0, .class_ 34), (0, u "java/lang/Object"), (0, .methodref 36 37), (0, .class_ 38), (0, .nameAndType 39 40), (0, u "java/lang/Long"), (0, u "valueOf"), (0, u "(J)Ljava/lang/Long;"), (12, u "(Ljava/lang/String;Ljava/lang/String;Ljava/lang/String;[B[BJJ)V"), (3, u "columns"), (0, u "()[Ljava/lang/Object;"), (8, .class_ 68), (0, u "com/example/idemnity/idemnity/SqlDialect")] 25

def k10c0 : Code := { maxStack := 3, maxLocals := 10, code := prog_32_method_1_code, exceptionTable := #[], attributes := #[] }
def k10m0 : Method := { name := "<init>", desc := "(Ljava/lang/String;Ljava/lang/String;Ljava/lang/String;[B[BJJ)V", sig := { parameters := [(.object "java/lang/String"), (.object "java/lang/String"), (.object "java/lang/String"), (.array .byte), (.array .byte), .long, .long], returnType := none }, accessFlags := 1, code := some k10c0 }
def k10c1 : Code := { maxStack := 5, maxLocals := 1, code := prog_32_method_2_code, exceptionTable := #[], attributes := #[] }
def k10m1 : Method := { name := "columns", desc := "()[Ljava/lang/Object;", sig := { parameters := [], returnType := some (.array (.object "java/lang/Object")) }, accessFlags := 0, code := some k10c1 }
/-- com/example/idemnity/idemnity/SqlDialect$Row -/
def k10 : Class := { plain "com/example/idemnity/idemnity/SqlDialect$Row" (some 9) with
  accessFlags := 49
  interfaces := #[]
  cf := some (fileOf pool10 8 #[.nestHost 67] #[{ accessFlags := 1, nameIndex := 5, descriptorIndex := 53, attributes := #[] }, { accessFlags := 0, nameIndex := 57, descriptorIndex := 58, attributes := #[] }] 49 2 #[] #[{ accessFlags := 18, nameIndex := 11, descriptorIndex := 12, attributes := #[] }, { accessFlags := 18, nameIndex := 15, descriptorIndex := 12, attributes := #[] }, { accessFlags := 18, nameIndex := 18, descriptorIndex := 12, attributes := #[] }, { accessFlags := 18, nameIndex := 21, descriptorIndex := 22, attributes := #[] }, { accessFlags := 18, nameIndex := 25, descriptorIndex := 22, attributes := #[] }, { accessFlags := 18, nameIndex := 28, descriptorIndex := 29, attributes := #[] }, { accessFlags := 18, nameIndex := 32, descriptorIndex := 29, attributes := #[] }])
  fields := #[{ name := "scope", type := (.object "java/lang/String"), accessFlags := 18, slot := 0, constantValue := 0 }, { name := "key", type := (.object "java/lang/String"), accessFlags := 18, slot := 1, constantValue := 0 }, { name := "claimId", type := (.object "java/lang/String"), accessFlags := 18, slot := 2, constantValue := 0 }, { name := "fingerprint", type := (.array .byte), accessFlags := 18, slot := 3, constantValue := 0 }, { name := "value", type := (.array .byte), accessFlags := 18, slot := 4, constantValue := 0 }, { name := "holdsFor", type := .long, accessFlags := 18, slot := 5, constantValue := 0 }, { name := "keptFor", type := .long, accessFlags := 18, slot := 6, constantValue := 0 }]
  methods := #[k10m0, k10m1]
  instanceTypes := #[(.object "java/lang/String"), (.object "java/lang/String"), (.object "java/lang/String"), (.array .byte), (.array .byte), .long, .long]
  staticTypes := #[]
  resolved := Array.replicate 94 none
  statics := none }

def pool11 : Array CpInfo := pool [(1, .methodref 2 3), (0, .class_ 4), (0, .nameAndType 5 6), (0, u "java/lang/Object"), (0, u "<init>"), (0, u "()V"), (1, .class_ 10), (1, u "java/lang/Number"), (2, .class_ 14), (0, u "java/io/Serializable"), (0, u "serialVersionUID"), (0, u "J")] 20

def k11c0 : Code := { maxStack := 1, maxLocals := 1, code := jdk_18_method_1_code, exceptionTable := #[], attributes := #[] }
def k11m0 : Method := { name := "<init>", desc := "()V", sig := { parameters := [], returnType := none }, accessFlags := 1, code := some k11c0 }
/-- java/lang/Number -/
def k11 : Class := { plain "java/lang/Number" (some 0) with
  accessFlags := 1057
  interfaces := #[2]
  cf := some (fileOf pool11 8 #[] #[{ accessFlags := 1, nameIndex := 5, descriptorIndex := 6, attributes := #[] }] 1057 2 #[13] #[{ accessFlags := 26, nameIndex := 15, descriptorIndex := 16, attributes := #[] }])
  fields := #[{ name := "serialVersionUID", type := .long, accessFlags := 26, slot := 0, constantValue := 0 }]
  methods := #[k11m0]
  instanceTypes := #[]
  staticTypes := #[.long]
  resolved := Array.replicate 37 none
  statics := none }

def pool12 : Array CpInfo := pool [(1, .class_ 2), (0, u "java/lang/Long"), (55, .nameAndType 59 60), (0, u "<init>"), (0, u "()V"), (24, u "valueOf"), (143, u "(J)Ljava/lang/Long;"), (0, .long 18446744073709551488), (1, .long 127), (1, .fieldref 235 236), (0, .class_ 237), (0, .nameAndType 238 239), (0, u "java/lang/Long$LongCache"), (0, u "cache"), (0, u "[Ljava/lang/Long;"), (0, .methodref 1 241), (0, .nameAndType 59 242), (0, u "(J)V"), (27, .methodref 271 58), (0, .class_ 272), (0, u "java/lang/Number"), (0, .fieldref 1 274), (0, .nameAndType 275 276), (0, u "value"), (0, u "J"), (5, u "longValue"), (0, u "()J"), (77, u "TYPE"), (0, u "Ljava/lang/Class;"), (0, .class_ 364), (0, u "java/lang/Comparable"), (0, .class_ 366), (0, u "java/lang/constant/Constable"), (0, .class_ 368), (0, u "java/lang/constant/ConstantDesc"), (0, u "MIN_VALUE"), (1, u "MAX_VALUE"), (4, u "SIZE"), (0, u "I"), (1, u "BYTES"), (1, u "serialVersionUID")] 142

def k12c0 : Code := { maxStack := 4, maxLocals := 3, code := jdk_35_method_24_code, exceptionTable := #[], attributes := #[] }
def k12m0 : Method := { name := "valueOf", desc := "(J)Ljava/lang/Long;", sig := { parameters := [.long], returnType := some (.object "java/lang/Long") }, accessFlags := 9, code := some k12c0 }
def k12c1 : Code := { maxStack := 3, maxLocals := 3, code := jdk_35_method_26_code, exceptionTable := #[], attributes := #[] }
def k12m1 : Method := { name := "<init>", desc := "(J)V", sig := { parameters := [.long], returnType := none }, accessFlags := 1, code := some k12c1 }
def k12c2 : Code := { maxStack := 2, maxLocals := 1, code := jdk_35_method_31_code, exceptionTable := #[], attributes := #[] }
def k12m2 : Method := { name := "longValue", desc := "()J", sig := { parameters := [], returnType := some .long }, accessFlags := 1, code := some k12c2 }
/-- java/lang/Long -/
def k12 : Class := { plain "java/lang/Long" (some 11) with
  accessFlags := 49
  interfaces := #[3, 5, 6]
  cf := some (fileOf pool12 1 #[.nestMembers #[235]] #[{ accessFlags := 9, nameIndex := 85, descriptorIndex := 229, attributes := #[] }, { accessFlags := 1, nameIndex := 59, descriptorIndex := 242, attributes := #[] }, { accessFlags := 1, nameIndex := 282, descriptorIndex := 283, attributes := #[] }] 49 271 #[363, 365, 367] #[{ accessFlags := 25, nameIndex := 369, descriptorIndex := 276, attributes := #[] }, { accessFlags := 25, nameIndex := 371, descriptorIndex := 276, attributes := #[] }, { accessFlags := 25, nameIndex := 361, descriptorIndex := 362, attributes := #[] }, { accessFlags := 18, nameIndex := 275, descriptorIndex := 276, attributes := #[] }, { accessFlags := 25, nameIndex := 376, descriptorIndex := 377, attributes := #[] }, { accessFlags := 25, nameIndex := 379, descriptorIndex := 377, attributes := #[] }, { accessFlags := 26, nameIndex := 381, descriptorIndex := 276, attributes := #[] }])
  fields := #[{ name := "MIN_VALUE", type := .long, accessFlags := 25, slot := 0, constantValue := 0 }, { name := "MAX_VALUE", type := .long, accessFlags := 25, slot := 1, constantValue := 0 }, { name := "TYPE", type := (.object "java/lang/Class"), accessFlags := 25, slot := 2, constantValue := 0 }, { name := "value", type := .long, accessFlags := 18, slot := 0, constantValue := 0 }, { name := "SIZE", type := .int, accessFlags := 25, slot := 3, constantValue := 0 }, { name := "BYTES", type := .int, accessFlags := 25, slot := 4, constantValue := 0 }, { name := "serialVersionUID", type := .long, accessFlags := 26, slot := 5, constantValue := 0 }]
  methods := #[k12m0, k12m1, k12m2]
  instanceTypes := #[.long]
  staticTypes := #[.long, .long, (.object "java/lang/Class"), .int, .int, .long]
  resolved := Array.replicate 524 none
  statics := none }

def pool13 : Array CpInfo := pool [(2, .class_ 4), (1, u "java/lang/Object"), (0, u "<init>"), (0, u "()V"), (0, .class_ 8), (0, u "java/lang/Long"), (7, .class_ 18), (1, u "java/lang/Long$LongCache"), (0, u "$assertionsDisabled"), (0, u "Z"), (8, u "archivedCache"), (0, u "[Ljava/lang/Long;"), (7, u "cache")] 24

def k13m0 : Method := { name := "<init>", desc := "()V", sig := { parameters := [], returnType := none }, accessFlags := 2, code := none }
/-- java/lang/Long$LongCache -/
def k13 : Class := { plain "java/lang/Long$LongCache" (some 0) with
  accessFlags := 48
  interfaces := #[]
  cf := some (fileOf pool13 16 #[.nestHost 7] #[{ accessFlags := 2, nameIndex := 5, descriptorIndex := 6, attributes := #[] }] 48 2 #[] #[{ accessFlags := 24, nameIndex := 38, descriptorIndex := 30, attributes := #[] }, { accessFlags := 8, nameIndex := 29, descriptorIndex := 30, attributes := #[] }, { accessFlags := 4120, nameIndex := 19, descriptorIndex := 20, attributes := #[] }])
  fields := #[{ name := "cache", type := (.array (.object "java/lang/Long")), accessFlags := 24, slot := 0, constantValue := 0 }, { name := "archivedCache", type := (.array (.object "java/lang/Long")), accessFlags := 8, slot := 1, constantValue := 0 }, { name := "$assertionsDisabled", type := .boolean, accessFlags := 4120, slot := 2, constantValue := 0 }]
  methods := #[k13m0]
  instanceTypes := #[]
  staticTypes := #[(.array (.object "java/lang/Long")), (.array (.object "java/lang/Long")), .boolean]
  resolved := Array.replicate 63 none
  statics := some 1 }

def pool14 : Array CpInfo := pool [(4, .class_ 6), (1, u "java/lang/Object"), (0, u "<init>"), (0, u "()V"), (5, .class_ 16), (1, u "java/lang/StringLatin1"), (104, u "$assertionsDisabled"), (0, u "Z"), (98, .class_ 223), (1, u "java/lang/StringLatin1$LinesSpliterator"), (166, .class_ 391), (0, u "java/lang/StringLatin1$CharsSpliterator")] 3

def k14m0 : Method := { name := "<init>", desc := "()V", sig := { parameters := [], returnType := none }, accessFlags := 0, code := none }
/-- java/lang/StringLatin1 -/
def k14 : Class := { plain "java/lang/StringLatin1" (some 0) with
  accessFlags := 48
  interfaces := #[]
  cf := some (fileOf pool14 14 #[.nestMembers #[390, 221]] #[{ accessFlags := 0, nameIndex := 7, descriptorIndex := 8, attributes := #[] }] 48 4 #[] #[{ accessFlags := 4120, nameIndex := 121, descriptorIndex := 122, attributes := #[] }])
  fields := #[{ name := "$assertionsDisabled", type := .boolean, accessFlags := 4120, slot := 0, constantValue := 0 }]
  methods := #[k14m0]
  instanceTypes := #[]
  staticTypes := #[.boolean]
  resolved := Array.replicate 395 none
  statics := none }

def pool15 : Array CpInfo := pool [(2, .class_ 4), (1, u "java/lang/Object"), (0, u "<init>"), (0, u "()V"), (17, .class_ 26), (1, u "jdk/internal/util/Preconditions"), (28, .class_ 56), (0, u "jdk/internal/util/Preconditions$4"), (57, .class_ 115), (0, u "jdk/internal/util/Preconditions$1"), (7, u "SIOOBE_FORMATTER"), (0, u "Ljava/util/function/BiFunction;"), (0, .class_ 126), (0, u "jdk/internal/util/Preconditions$2"), (3, u "AIOOBE_FORMATTER"), (0, .class_ 132), (0, u "jdk/internal/util/Preconditions$3"), (3, u "IOOBE_FORMATTER")] 57

def k15m0 : Method := { name := "<init>", desc := "()V", sig := { parameters := [], returnType := none }, accessFlags := 1, code := none }
/-- jdk/internal/util/Preconditions -/
def k15 : Class := { plain "jdk/internal/util/Preconditions" (some 0) with
  accessFlags := 33
  interfaces := #[]
  cf := some (fileOf pool15 24 #[.nestMembers #[55, 131, 125, 114]] #[{ accessFlags := 1, nameIndex := 5, descriptorIndex := 6, attributes := #[] }] 33 2 #[] #[{ accessFlags := 25, nameIndex := 123, descriptorIndex := 124, attributes := #[] }, { accessFlags := 25, nameIndex := 130, descriptorIndex := 124, attributes := #[] }, { accessFlags := 25, nameIndex := 136, descriptorIndex := 124, attributes := #[] }])
  fields := #[{ name := "SIOOBE_FORMATTER", type := (.object "java/util/function/BiFunction"), accessFlags := 25, slot := 0, constantValue := 0 }, { name := "AIOOBE_FORMATTER", type := (.object "java/util/function/BiFunction"), accessFlags := 25, slot := 1, constantValue := 0 }, { name := "IOOBE_FORMATTER", type := (.object "java/util/function/BiFunction"), accessFlags := 25, slot := 2, constantValue := 0 }]
  methods := #[k15m0]
  instanceTypes := #[]
  staticTypes := #[(.object "java/util/function/BiFunction"), (.object "java/util/function/BiFunction"), (.object "java/util/function/BiFunction")]
  resolved := Array.replicate 194 none
  statics := some 2 }

def pool16 : Array CpInfo := pool [(9, u "<init>"), (6, .class_ 18), (1, u "java/lang/Object"), (0, u "()V"), (1, .class_ 23), (1, u "jdk/internal/util/ArraysSupport"), (0, u "LOG2_ARRAY_LONG_INDEX_SCALE"), (0, u "I"), (2, u "U"), (0, u "Ljdk/internal/misc/Unsafe;"), (8, u "BIG_ENDIAN"), (0, u "Z"), (8, u "LOG2_BYTE_BIT_SIZE"), (4, u "LOG2_ARRAY_INT_INDEX_SCALE"), (54, u "JLA"), (0, u "Ljdk/internal/access/JavaLangAccess;"), (11, u "LOG2_ARRAY_BOOLEAN_INDEX_SCALE"), (9, u "LOG2_ARRAY_BYTE_INDEX_SCALE"), (5, u "LOG2_ARRAY_CHAR_INDEX_SCALE"), (5, u "LOG2_ARRAY_SHORT_INDEX_SCALE"), (18, u "LOG2_ARRAY_FLOAT_INDEX_SCALE"), (24, u "LOG2_ARRAY_DOUBLE_INDEX_SCALE"), (89, u "T_BOOLEAN"), (2, u "T_CHAR"), (1, u "T_FLOAT"), (1, u "T_DOUBLE"), (1, u "T_BYTE"), (1, u "T_SHORT"), (1, u "T_INT"), (1, u "T_LONG"), (1, u "SOFT_MAX_ARRAY_LENGTH")] 83

def k16m0 : Method := { name := "<init>", desc := "()V", sig := { parameters := [], returnType := none }, accessFlags := 2, code := none }
/-- jdk/internal/util/ArraysSupport -/
def k16 : Class := { plain "jdk/internal/util/ArraysSupport" (some 0) with
  accessFlags := 33
  interfaces := #[]
  cf := some (fileOf pool16 21 #[] #[{ accessFlags := 2, nameIndex := 9, descriptorIndex := 19, attributes := #[] }] 33 16 #[] #[{ accessFlags := 24, nameIndex := 28, descriptorIndex := 29, attributes := #[] }, { accessFlags := 26, nameIndex := 38, descriptorIndex := 39, attributes := #[] }, { accessFlags := 25, nameIndex := 121, descriptorIndex := 25, attributes := #[] }, { accessFlags := 25, nameIndex := 131, descriptorIndex := 25, attributes := #[] }, { accessFlags := 25, nameIndex := 137, descriptorIndex := 25, attributes := #[] }, { accessFlags := 25, nameIndex := 143, descriptorIndex := 25, attributes := #[] }, { accessFlags := 25, nameIndex := 53, descriptorIndex := 25, attributes := #[] }, { accessFlags := 25, nameIndex := 24, descriptorIndex := 25, attributes := #[] }, { accessFlags := 25, nameIndex := 162, descriptorIndex := 25, attributes := #[] }, { accessFlags := 25, nameIndex := 187, descriptorIndex := 25, attributes := #[] }, { accessFlags := 26, nameIndex := 48, descriptorIndex := 25, attributes := #[] }, { accessFlags := 25, nameIndex := 277, descriptorIndex := 25, attributes := #[] }, { accessFlags := 25, nameIndex := 280, descriptorIndex := 25, attributes := #[] }, { accessFlags := 25, nameIndex := 282, descriptorIndex := 25, attributes := #[] }, { accessFlags := 25, nameIndex := 284, descriptorIndex := 25, attributes := #[] }, { accessFlags := 25, nameIndex := 286, descriptorIndex := 25, attributes := #[] }, { accessFlags := 25, nameIndex := 288, descriptorIndex := 25, attributes := #[] }, { accessFlags := 25, nameIndex := 290, descriptorIndex := 25, attributes := #[] }, { accessFlags := 25, nameIndex := 292, descriptorIndex := 25, attributes := #[] }, { accessFlags := 26, nameIndex := 108, descriptorIndex := 109, attributes := #[] }, { accessFlags := 25, nameIndex := 294, descriptorIndex := 25, attributes := #[] }])
  fields := #[{ name := "U", type := (.object "jdk/internal/misc/Unsafe"), accessFlags := 24, slot := 0, constantValue := 0 }, { name := "BIG_ENDIAN", type := .boolean, accessFlags := 26, slot := 1, constantValue := 0 }, { name := "LOG2_ARRAY_BOOLEAN_INDEX_SCALE", type := .int, accessFlags := 25, slot := 2, constantValue := 0 }, { name := "LOG2_ARRAY_BYTE_INDEX_SCALE", type := .int, accessFlags := 25, slot := 3, constantValue := 0 }, { name := "LOG2_ARRAY_CHAR_INDEX_SCALE", type := .int, accessFlags := 25, slot := 4, constantValue := 0 }, { name := "LOG2_ARRAY_SHORT_INDEX_SCALE", type := .int, accessFlags := 25, slot := 5, constantValue := 0 }, { name := "LOG2_ARRAY_INT_INDEX_SCALE", type := .int, accessFlags := 25, slot := 6, constantValue := 0 }, { name := "LOG2_ARRAY_LONG_INDEX_SCALE", type := .int, accessFlags := 25, slot := 7, constantValue := 0 }, { name := "LOG2_ARRAY_FLOAT_INDEX_SCALE", type := .int, accessFlags := 25, slot := 8, constantValue := 0 }, { name := "LOG2_ARRAY_DOUBLE_INDEX_SCALE", type := .int, accessFlags := 25, slot := 9, constantValue := 0 }, { name := "LOG2_BYTE_BIT_SIZE", type := .int, accessFlags := 26, slot := 10, constantValue := 0 }, { name := "T_BOOLEAN", type := .int, accessFlags := 25, slot := 11, constantValue := 0 }, { name := "T_CHAR", type := .int, accessFlags := 25, slot := 12, constantValue := 0 }, { name := "T_FLOAT", type := .int, accessFlags := 25, slot := 13, constantValue := 0 }, { name := "T_DOUBLE", type := .int, accessFlags := 25, slot := 14, constantValue := 0 }, { name := "T_BYTE", type := .int, accessFlags := 25, slot := 15, constantValue := 0 }, { name := "T_SHORT", type := .int, accessFlags := 25, slot := 16, constantValue := 0 }, { name := "T_INT", type := .int, accessFlags := 25, slot := 17, constantValue := 0 }, { name := "T_LONG", type := .int, accessFlags := 25, slot := 18, constantValue := 0 }, { name := "JLA", type := (.object "jdk/internal/access/JavaLangAccess"), accessFlags := 26, slot := 19, constantValue := 0 }, { name := "SOFT_MAX_ARRAY_LENGTH", type := .int, accessFlags := 25, slot := 20, constantValue := 0 }]
  methods := #[k16m0]
  instanceTypes := #[]
  staticTypes := #[(.object "jdk/internal/misc/Unsafe"), .boolean, .int, .int, .int, .int, .int, .int, .int, .int, .int, .int, .int, .int, .int, .int, .int, .int, .int, (.object "jdk/internal/access/JavaLangAccess"), .int]
  resolved := Array.replicate 378 none
  statics := none }

def pool17 : Array CpInfo := pool [(1, u "java/lang/Cloneable"), (0, .class_ 1), (0, u "java/lang/Object"), (0, .class_ 3)] 3

/-- java/lang/Cloneable -/
def k17 : Class := { plain "java/lang/Cloneable" (some 0) with
  accessFlags := 1537
  interfaces := #[]
  cf := some (fileOf pool17 2 #[] #[] 1537 4 #[] #[])
  fields := #[]
  methods := #[]
  instanceTypes := #[]
  staticTypes := #[]
  resolved := Array.replicate 8 none
  statics := none }

/-- the primitive byte -/
def k18 : Class := { plain "byte" none with kind := .primitive 'B', accessFlags := 0x411 }
/-- [B -/
def k19 : Class := { plain "[B" (some 0) with kind := .array 18 .byte, interfaces := #[17, 2], accessFlags := 1041 }

/-- the primitive char -/
def k20 : Class := { plain "char" none with kind := .primitive 'C', accessFlags := 0x411 }
/-- [C -/
def k21 : Class := { plain "[C" (some 0) with kind := .array 20 .char, interfaces := #[17, 2], accessFlags := 1041 }

/-- the primitive int -/
def k22 : Class := { plain "int" none with kind := .primitive 'I', accessFlags := 0x411 }
/-- [I -/
def k23 : Class := { plain "[I" (some 0) with kind := .array 22 .int, interfaces := #[17, 2], accessFlags := 1041 }

/-- [Ljava/lang/Long; -/
def k24 : Class := { plain "[Ljava/lang/Long;" (some 0) with kind := .array 12 (.object "java/lang/Long"), interfaces := #[17, 2], accessFlags := 1041 }

/-- [Ljava/lang/Object; -/
def k25 : Class := { plain "[Ljava/lang/Object;" (some 0) with kind := .array 0 (.object "java/lang/Object"), interfaces := #[17, 2], accessFlags := 1041 }

def heap : Heap := #[{ cls := 7, slots := #[.long 0, .int 1, .null, .int 0, .null, .int 0, .int 0], vm := .statics 7 },
  { cls := 13, slots := #[.ref 3, .null, .int 0], vm := .statics 13 },
  { cls := 15, slots := #[.null, .null, .null], vm := .statics 15 },
  { cls := 24, slots := #[.ref 4, .ref 5, .ref 6, .ref 7, .ref 8, .ref 9, .ref 10, .ref 11, .ref 12, .ref 13, .ref 14, .ref 15, .ref 16, .ref 17, .ref 18, .ref 19, .ref 20, .ref 21, .ref 22, .ref 23, .ref 24, .ref 25, .ref 26, .ref 27, .ref 28, .ref 29, .ref 30, .ref 31, .ref 32, .ref 33, .ref 34, .ref 35, .ref 36, .ref 37, .ref 38, .ref 39, .ref 40, .ref 41, .ref 42, .ref 43, .ref 44, .ref 45, .ref 46, .ref 47, .ref 48, .ref 49, .ref 50, .ref 51, .ref 52, .ref 53, .ref 54, .ref 55, .ref 56, .ref 57, .ref 58, .ref 59, .ref 60, .ref 61, .ref 62, .ref 63, .ref 64, .ref 65, .ref 66, .ref 67, .ref 68, .ref 69, .ref 70, .ref 71, .ref 72, .ref 73, .ref 74, .ref 75, .ref 76, .ref 77, .ref 78, .ref 79, .ref 80, .ref 81, .ref 82, .ref 83, .ref 84, .ref 85, .ref 86, .ref 87, .ref 88, .ref 89, .ref 90, .ref 91, .ref 92, .ref 93, .ref 94, .ref 95, .ref 96, .ref 97, .ref 98, .ref 99, .ref 100, .ref 101, .ref 102, .ref 103, .ref 104, .ref 105, .ref 106, .ref 107, .ref 108, .ref 109, .ref 110, .ref 111, .ref 112, .ref 113, .ref 114, .ref 115, .ref 116, .ref 117, .ref 118, .ref 119, .ref 120, .ref 121, .ref 122, .ref 123, .ref 124, .ref 125, .ref 126, .ref 127, .ref 128, .ref 129, .ref 130, .ref 131, .ref 132, .ref 133, .ref 134, .ref 135, .ref 136, .ref 137, .ref 138, .ref 139, .ref 140, .ref 141, .ref 142, .ref 143, .ref 144, .ref 145, .ref 146, .ref 147, .ref 148, .ref 149, .ref 150, .ref 151, .ref 152, .ref 153, .ref 154, .ref 155, .ref 156, .ref 157, .ref 158, .ref 159, .ref 160, .ref 161, .ref 162, .ref 163, .ref 164, .ref 165, .ref 166, .ref 167, .ref 168, .ref 169, .ref 170, .ref 171, .ref 172, .ref 173, .ref 174, .ref 175, .ref 176, .ref 177, .ref 178, .ref 179, .ref 180, .ref 181, .ref 182, .ref 183, .ref 184, .ref 185, .ref 186, .ref 187, .ref 188, .ref 189, .ref 190, .ref 191, .ref 192, .ref 193, .ref 194, .ref 195, .ref 196, .ref 197, .ref 198, .ref 199, .ref 200, .ref 201, .ref 202, .ref 203, .ref 204, .ref 205, .ref 206, .ref 207, .ref 208, .ref 209, .ref 210, .ref 211, .ref 212, .ref 213, .ref 214, .ref 215, .ref 216, .ref 217, .ref 218, .ref 219, .ref 220, .ref 221, .ref 222, .ref 223, .ref 224, .ref 225, .ref 226, .ref 227, .ref 228, .ref 229, .ref 230, .ref 231, .ref 232, .ref 233, .ref 234, .ref 235, .ref 236, .ref 237, .ref 238, .ref 239, .ref 240, .ref 241, .ref 242, .ref 243, .ref 244, .ref 245, .ref 246, .ref 247, .ref 248, .ref 249, .ref 250, .ref 251, .ref 252, .ref 253, .ref 254, .ref 255, .ref 256, .ref 257, .ref 258, .ref 259], vm := .none },
  { cls := 12, slots := #[.long (-128)], vm := .none },
  { cls := 12, slots := #[.long (-127)], vm := .none },
  { cls := 12, slots := #[.long (-126)], vm := .none },
  { cls := 12, slots := #[.long (-125)], vm := .none },
  { cls := 12, slots := #[.long (-124)], vm := .none },
  { cls := 12, slots := #[.long (-123)], vm := .none },
  { cls := 12, slots := #[.long (-122)], vm := .none },
  { cls := 12, slots := #[.long (-121)], vm := .none },
  { cls := 12, slots := #[.long (-120)], vm := .none },
  { cls := 12, slots := #[.long (-119)], vm := .none },
  { cls := 12, slots := #[.long (-118)], vm := .none },
  { cls := 12, slots := #[.long (-117)], vm := .none },
  { cls := 12, slots := #[.long (-116)], vm := .none },
  { cls := 12, slots := #[.long (-115)], vm := .none },
  { cls := 12, slots := #[.long (-114)], vm := .none },
  { cls := 12, slots := #[.long (-113)], vm := .none },
  { cls := 12, slots := #[.long (-112)], vm := .none },
  { cls := 12, slots := #[.long (-111)], vm := .none },
  { cls := 12, slots := #[.long (-110)], vm := .none },
  { cls := 12, slots := #[.long (-109)], vm := .none },
  { cls := 12, slots := #[.long (-108)], vm := .none },
  { cls := 12, slots := #[.long (-107)], vm := .none },
  { cls := 12, slots := #[.long (-106)], vm := .none },
  { cls := 12, slots := #[.long (-105)], vm := .none },
  { cls := 12, slots := #[.long (-104)], vm := .none },
  { cls := 12, slots := #[.long (-103)], vm := .none },
  { cls := 12, slots := #[.long (-102)], vm := .none },
  { cls := 12, slots := #[.long (-101)], vm := .none },
  { cls := 12, slots := #[.long (-100)], vm := .none },
  { cls := 12, slots := #[.long (-99)], vm := .none },
  { cls := 12, slots := #[.long (-98)], vm := .none },
  { cls := 12, slots := #[.long (-97)], vm := .none },
  { cls := 12, slots := #[.long (-96)], vm := .none },
  { cls := 12, slots := #[.long (-95)], vm := .none },
  { cls := 12, slots := #[.long (-94)], vm := .none },
  { cls := 12, slots := #[.long (-93)], vm := .none },
  { cls := 12, slots := #[.long (-92)], vm := .none },
  { cls := 12, slots := #[.long (-91)], vm := .none },
  { cls := 12, slots := #[.long (-90)], vm := .none },
  { cls := 12, slots := #[.long (-89)], vm := .none },
  { cls := 12, slots := #[.long (-88)], vm := .none },
  { cls := 12, slots := #[.long (-87)], vm := .none },
  { cls := 12, slots := #[.long (-86)], vm := .none },
  { cls := 12, slots := #[.long (-85)], vm := .none },
  { cls := 12, slots := #[.long (-84)], vm := .none },
  { cls := 12, slots := #[.long (-83)], vm := .none },
  { cls := 12, slots := #[.long (-82)], vm := .none },
  { cls := 12, slots := #[.long (-81)], vm := .none },
  { cls := 12, slots := #[.long (-80)], vm := .none },
  { cls := 12, slots := #[.long (-79)], vm := .none },
  { cls := 12, slots := #[.long (-78)], vm := .none },
  { cls := 12, slots := #[.long (-77)], vm := .none },
  { cls := 12, slots := #[.long (-76)], vm := .none },
  { cls := 12, slots := #[.long (-75)], vm := .none },
  { cls := 12, slots := #[.long (-74)], vm := .none },
  { cls := 12, slots := #[.long (-73)], vm := .none },
  { cls := 12, slots := #[.long (-72)], vm := .none },
  { cls := 12, slots := #[.long (-71)], vm := .none },
  { cls := 12, slots := #[.long (-70)], vm := .none },
  { cls := 12, slots := #[.long (-69)], vm := .none },
  { cls := 12, slots := #[.long (-68)], vm := .none },
  { cls := 12, slots := #[.long (-67)], vm := .none },
  { cls := 12, slots := #[.long (-66)], vm := .none },
  { cls := 12, slots := #[.long (-65)], vm := .none },
  { cls := 12, slots := #[.long (-64)], vm := .none },
  { cls := 12, slots := #[.long (-63)], vm := .none },
  { cls := 12, slots := #[.long (-62)], vm := .none },
  { cls := 12, slots := #[.long (-61)], vm := .none },
  { cls := 12, slots := #[.long (-60)], vm := .none },
  { cls := 12, slots := #[.long (-59)], vm := .none },
  { cls := 12, slots := #[.long (-58)], vm := .none },
  { cls := 12, slots := #[.long (-57)], vm := .none },
  { cls := 12, slots := #[.long (-56)], vm := .none },
  { cls := 12, slots := #[.long (-55)], vm := .none },
  { cls := 12, slots := #[.long (-54)], vm := .none },
  { cls := 12, slots := #[.long (-53)], vm := .none },
  { cls := 12, slots := #[.long (-52)], vm := .none },
  { cls := 12, slots := #[.long (-51)], vm := .none },
  { cls := 12, slots := #[.long (-50)], vm := .none },
  { cls := 12, slots := #[.long (-49)], vm := .none },
  { cls := 12, slots := #[.long (-48)], vm := .none },
  { cls := 12, slots := #[.long (-47)], vm := .none },
  { cls := 12, slots := #[.long (-46)], vm := .none },
  { cls := 12, slots := #[.long (-45)], vm := .none },
  { cls := 12, slots := #[.long (-44)], vm := .none },
  { cls := 12, slots := #[.long (-43)], vm := .none },
  { cls := 12, slots := #[.long (-42)], vm := .none },
  { cls := 12, slots := #[.long (-41)], vm := .none },
  { cls := 12, slots := #[.long (-40)], vm := .none },
  { cls := 12, slots := #[.long (-39)], vm := .none },
  { cls := 12, slots := #[.long (-38)], vm := .none },
  { cls := 12, slots := #[.long (-37)], vm := .none },
  { cls := 12, slots := #[.long (-36)], vm := .none },
  { cls := 12, slots := #[.long (-35)], vm := .none },
  { cls := 12, slots := #[.long (-34)], vm := .none },
  { cls := 12, slots := #[.long (-33)], vm := .none },
  { cls := 12, slots := #[.long (-32)], vm := .none },
  { cls := 12, slots := #[.long (-31)], vm := .none },
  { cls := 12, slots := #[.long (-30)], vm := .none },
  { cls := 12, slots := #[.long (-29)], vm := .none },
  { cls := 12, slots := #[.long (-28)], vm := .none },
  { cls := 12, slots := #[.long (-27)], vm := .none },
  { cls := 12, slots := #[.long (-26)], vm := .none },
  { cls := 12, slots := #[.long (-25)], vm := .none },
  { cls := 12, slots := #[.long (-24)], vm := .none },
  { cls := 12, slots := #[.long (-23)], vm := .none },
  { cls := 12, slots := #[.long (-22)], vm := .none },
  { cls := 12, slots := #[.long (-21)], vm := .none },
  { cls := 12, slots := #[.long (-20)], vm := .none },
  { cls := 12, slots := #[.long (-19)], vm := .none },
  { cls := 12, slots := #[.long (-18)], vm := .none },
  { cls := 12, slots := #[.long (-17)], vm := .none },
  { cls := 12, slots := #[.long (-16)], vm := .none },
  { cls := 12, slots := #[.long (-15)], vm := .none },
  { cls := 12, slots := #[.long (-14)], vm := .none },
  { cls := 12, slots := #[.long (-13)], vm := .none },
  { cls := 12, slots := #[.long (-12)], vm := .none },
  { cls := 12, slots := #[.long (-11)], vm := .none },
  { cls := 12, slots := #[.long (-10)], vm := .none },
  { cls := 12, slots := #[.long (-9)], vm := .none },
  { cls := 12, slots := #[.long (-8)], vm := .none },
  { cls := 12, slots := #[.long (-7)], vm := .none },
  { cls := 12, slots := #[.long (-6)], vm := .none },
  { cls := 12, slots := #[.long (-5)], vm := .none },
  { cls := 12, slots := #[.long (-4)], vm := .none },
  { cls := 12, slots := #[.long (-3)], vm := .none },
  { cls := 12, slots := #[.long (-2)], vm := .none },
  { cls := 12, slots := #[.long (-1)], vm := .none },
  { cls := 12, slots := #[.long (0)], vm := .none },
  { cls := 12, slots := #[.long (1)], vm := .none },
  { cls := 12, slots := #[.long (2)], vm := .none },
  { cls := 12, slots := #[.long (3)], vm := .none },
  { cls := 12, slots := #[.long (4)], vm := .none },
  { cls := 12, slots := #[.long (5)], vm := .none },
  { cls := 12, slots := #[.long (6)], vm := .none },
  { cls := 12, slots := #[.long (7)], vm := .none },
  { cls := 12, slots := #[.long (8)], vm := .none },
  { cls := 12, slots := #[.long (9)], vm := .none },
  { cls := 12, slots := #[.long (10)], vm := .none },
  { cls := 12, slots := #[.long (11)], vm := .none },
  { cls := 12, slots := #[.long (12)], vm := .none },
  { cls := 12, slots := #[.long (13)], vm := .none },
  { cls := 12, slots := #[.long (14)], vm := .none },
  { cls := 12, slots := #[.long (15)], vm := .none },
  { cls := 12, slots := #[.long (16)], vm := .none },
  { cls := 12, slots := #[.long (17)], vm := .none },
  { cls := 12, slots := #[.long (18)], vm := .none },
  { cls := 12, slots := #[.long (19)], vm := .none },
  { cls := 12, slots := #[.long (20)], vm := .none },
  { cls := 12, slots := #[.long (21)], vm := .none },
  { cls := 12, slots := #[.long (22)], vm := .none },
  { cls := 12, slots := #[.long (23)], vm := .none },
  { cls := 12, slots := #[.long (24)], vm := .none },
  { cls := 12, slots := #[.long (25)], vm := .none },
  { cls := 12, slots := #[.long (26)], vm := .none },
  { cls := 12, slots := #[.long (27)], vm := .none },
  { cls := 12, slots := #[.long (28)], vm := .none },
  { cls := 12, slots := #[.long (29)], vm := .none },
  { cls := 12, slots := #[.long (30)], vm := .none },
  { cls := 12, slots := #[.long (31)], vm := .none },
  { cls := 12, slots := #[.long (32)], vm := .none },
  { cls := 12, slots := #[.long (33)], vm := .none },
  { cls := 12, slots := #[.long (34)], vm := .none },
  { cls := 12, slots := #[.long (35)], vm := .none },
  { cls := 12, slots := #[.long (36)], vm := .none },
  { cls := 12, slots := #[.long (37)], vm := .none },
  { cls := 12, slots := #[.long (38)], vm := .none },
  { cls := 12, slots := #[.long (39)], vm := .none },
  { cls := 12, slots := #[.long (40)], vm := .none },
  { cls := 12, slots := #[.long (41)], vm := .none },
  { cls := 12, slots := #[.long (42)], vm := .none },
  { cls := 12, slots := #[.long (43)], vm := .none },
  { cls := 12, slots := #[.long (44)], vm := .none },
  { cls := 12, slots := #[.long (45)], vm := .none },
  { cls := 12, slots := #[.long (46)], vm := .none },
  { cls := 12, slots := #[.long (47)], vm := .none },
  { cls := 12, slots := #[.long (48)], vm := .none },
  { cls := 12, slots := #[.long (49)], vm := .none },
  { cls := 12, slots := #[.long (50)], vm := .none },
  { cls := 12, slots := #[.long (51)], vm := .none },
  { cls := 12, slots := #[.long (52)], vm := .none },
  { cls := 12, slots := #[.long (53)], vm := .none },
  { cls := 12, slots := #[.long (54)], vm := .none },
  { cls := 12, slots := #[.long (55)], vm := .none },
  { cls := 12, slots := #[.long (56)], vm := .none },
  { cls := 12, slots := #[.long (57)], vm := .none },
  { cls := 12, slots := #[.long (58)], vm := .none },
  { cls := 12, slots := #[.long (59)], vm := .none },
  { cls := 12, slots := #[.long (60)], vm := .none },
  { cls := 12, slots := #[.long (61)], vm := .none },
  { cls := 12, slots := #[.long (62)], vm := .none },
  { cls := 12, slots := #[.long (63)], vm := .none },
  { cls := 12, slots := #[.long (64)], vm := .none },
  { cls := 12, slots := #[.long (65)], vm := .none },
  { cls := 12, slots := #[.long (66)], vm := .none },
  { cls := 12, slots := #[.long (67)], vm := .none },
  { cls := 12, slots := #[.long (68)], vm := .none },
  { cls := 12, slots := #[.long (69)], vm := .none },
  { cls := 12, slots := #[.long (70)], vm := .none },
  { cls := 12, slots := #[.long (71)], vm := .none },
  { cls := 12, slots := #[.long (72)], vm := .none },
  { cls := 12, slots := #[.long (73)], vm := .none },
  { cls := 12, slots := #[.long (74)], vm := .none },
  { cls := 12, slots := #[.long (75)], vm := .none },
  { cls := 12, slots := #[.long (76)], vm := .none },
  { cls := 12, slots := #[.long (77)], vm := .none },
  { cls := 12, slots := #[.long (78)], vm := .none },
  { cls := 12, slots := #[.long (79)], vm := .none },
  { cls := 12, slots := #[.long (80)], vm := .none },
  { cls := 12, slots := #[.long (81)], vm := .none },
  { cls := 12, slots := #[.long (82)], vm := .none },
  { cls := 12, slots := #[.long (83)], vm := .none },
  { cls := 12, slots := #[.long (84)], vm := .none },
  { cls := 12, slots := #[.long (85)], vm := .none },
  { cls := 12, slots := #[.long (86)], vm := .none },
  { cls := 12, slots := #[.long (87)], vm := .none },
  { cls := 12, slots := #[.long (88)], vm := .none },
  { cls := 12, slots := #[.long (89)], vm := .none },
  { cls := 12, slots := #[.long (90)], vm := .none },
  { cls := 12, slots := #[.long (91)], vm := .none },
  { cls := 12, slots := #[.long (92)], vm := .none },
  { cls := 12, slots := #[.long (93)], vm := .none },
  { cls := 12, slots := #[.long (94)], vm := .none },
  { cls := 12, slots := #[.long (95)], vm := .none },
  { cls := 12, slots := #[.long (96)], vm := .none },
  { cls := 12, slots := #[.long (97)], vm := .none },
  { cls := 12, slots := #[.long (98)], vm := .none },
  { cls := 12, slots := #[.long (99)], vm := .none },
  { cls := 12, slots := #[.long (100)], vm := .none },
  { cls := 12, slots := #[.long (101)], vm := .none },
  { cls := 12, slots := #[.long (102)], vm := .none },
  { cls := 12, slots := #[.long (103)], vm := .none },
  { cls := 12, slots := #[.long (104)], vm := .none },
  { cls := 12, slots := #[.long (105)], vm := .none },
  { cls := 12, slots := #[.long (106)], vm := .none },
  { cls := 12, slots := #[.long (107)], vm := .none },
  { cls := 12, slots := #[.long (108)], vm := .none },
  { cls := 12, slots := #[.long (109)], vm := .none },
  { cls := 12, slots := #[.long (110)], vm := .none },
  { cls := 12, slots := #[.long (111)], vm := .none },
  { cls := 12, slots := #[.long (112)], vm := .none },
  { cls := 12, slots := #[.long (113)], vm := .none },
  { cls := 12, slots := #[.long (114)], vm := .none },
  { cls := 12, slots := #[.long (115)], vm := .none },
  { cls := 12, slots := #[.long (116)], vm := .none },
  { cls := 12, slots := #[.long (117)], vm := .none },
  { cls := 12, slots := #[.long (118)], vm := .none },
  { cls := 12, slots := #[.long (119)], vm := .none },
  { cls := 12, slots := #[.long (120)], vm := .none },
  { cls := 12, slots := #[.long (121)], vm := .none },
  { cls := 12, slots := #[.long (122)], vm := .none },
  { cls := 12, slots := #[.long (123)], vm := .none },
  { cls := 12, slots := #[.long (124)], vm := .none },
  { cls := 12, slots := #[.long (125)], vm := .none },
  { cls := 12, slots := #[.long (126)], vm := .none },
  { cls := 12, slots := #[.long (127)], vm := .none }]
def classes : Array Class := #[k0, k1, k2, k3, k4, k5, k6, k7, k8, k9, k10, k11, k12, k13, k14, k15, k16, k17, k18, k19, k20, k21, k22, k23, k24, k25]
def interned : List (Array UInt16 × Addr) := []
def slotsUsed : Nat := 525
def theMethod : MethodId := ⟨1, 1⟩
def args0 : Array Value := #[.int 5, .int 0, .long 5, .long 1000]
def aboutOver (below : List Frame) : State where
  vm := { classes := classes, interned := interned.toArray }
  heap := heap
  slotsUsed := slotsUsed
  threads := #[{ frames := .invoking theMethod args0 :: below }]
def below0 : List Frame := [.native { method := ⟨0, 0⟩, args := #[] }]
def about1 : State := aboutOver below0
def p0 : Program := .bare "" "" ""
def e0 : Env := launch0.env 0 0 0
theorem w_frames : about1.frames = Frame.invoking theMethod args0 :: below0 := rfl
set_option maxRecDepth 65536 in
theorem w_args : argsFit about1.vm theMethod args0 = true := by decide +kernel
set_option maxRecDepth 65536 in
theorem w_heap : heapFits about1 = true := by decide +kernel
set_option maxRecDepth 65536 in
theorem w_runnable : about1.curStatus? = some .runnable := by decide +kernel
set_option maxRecDepth 65536 in
theorem w_alone : about1.alone = true := by decide +kernel
set_option maxRecDepth 65536 in
theorem w_named : about1.methodNamed? x = some theMethod := by decide +kernel
set_option maxRecDepth 65536 in
theorem w_hears : about1.hears theMethod below0 = true := by decide +kernel
set_option maxRecDepth 65536 in
theorem w_ripe : about1.ripe theMethod args0 below0 = true := by decide +kernel
theorem w_running : about1.status = .running := rfl
set_option maxRecDepth 65536 in
theorem w_room : about1.hasRoom e0.platform room_1 = true :=
  launch0.hasRoom_least _ room_1 (by decide +kernel) (by decide +kernel) (by decide +kernel) (by decide +kernel) (by decide +kernel) (by decide +kernel)
theorem allAtoms_all (ts : List Jvm.Cond) (a : Array Jvm.Value) (st : Jvm.State) : (allAtoms ts).before a st = ts.all (fun c => c.before a st) := by
  induction ts with
  | nil => rfl
  | cons c t ih =>
    show (Jvm.Cond.and c (allAtoms t)).before a st = _
    rw [Jvm.Cond.before_and, ih, List.all_cons]
def words1 : List Jvm.Cond := Jvm.Cond.code x code maxLocals ret :: tables_1
/-- a 'code' word, met by the world's own term for the bytes: nothing is compared byte by byte -/
theorem code_word {y : MethodName} {bytes : ByteArray} {mx : Nat} {rt : Option FieldType} {a : Array Value} {s : State} {m : MethodId} {meth : Method} {c : Code} (h1 : s.methodNamed? y = some m) (h2 : s.vm.method? m = some meth) (h3 : meth.code = some c) (h4 : c.code = bytes)
    (h5 : (c.maxLocals == mx && c.exceptionTable.isEmpty && decide (c.maxStack ≤ mostOperands) && decide (meth.sig.returnType = rt) && !meth.locks && decide (parseMethodDescriptor y.desc = some meth.sig)) = true) : (Jvm.Cond.code y bytes mx rt).before a s = true := by
  simp only [Bool.and_eq_true, beq_iff_eq, Bool.not_eq_true', decide_eq_true_eq] at h5
  obtain ⟨⟨⟨⟨⟨g1, g2⟩, g3⟩, g4⟩, g5⟩, g6⟩ := h5
  simp [Cond.before, Cond.holds, Cond.value, h1, h2, h3, h4, g1, g2, g3, g4, g5, g6]
def isCode : Jvm.Cond → Bool
  | .code _ _ _ _ => true
  | _ => false
theorem all_split {L : List Jvm.Cond} {P : Jvm.Cond → Bool} (h1 : L.all (fun c => isCode c || P c) = true) (h2 : ∀ c ∈ L.filter isCode, P c = true) : L.all P = true := by
  refine List.all_eq_true.mpr fun c hc => ?_
  have h := List.all_eq_true.mp h1 c hc
  rcases Bool.eq_false_or_eq_true (isCode c) with hi | hi
  · exact h2 c (List.mem_filter.mpr ⟨hc, hi⟩)
  · simpa [hi] using h
set_option maxRecDepth 65536 in
theorem w_c0 : (Jvm.Cond.code x code maxLocals ret).before args0 about1 = true := code_word (m := ⟨1, 1⟩) (meth := k1m1) (c := k1c1) (by decide +kernel) rfl rfl rfl (by decide +kernel)
set_option maxRecDepth 65536 in
theorem w_c1 : (Jvm.Cond.code ({ cls := "java/lang/String", name := "<init>", desc := "([C)V" } : Jvm.MethodName) jdk_42_method_3_code (2 : Nat) (Option.none : Option Jvm.ClassFile.FieldType)).before args0 about1 = true := code_word (m := ⟨7, 1⟩) (meth := k7m1) (c := k7c1) (by decide +kernel) rfl rfl rfl (by decide +kernel)
set_option maxRecDepth 65536 in
theorem w_c2 : (Jvm.Cond.code ({ cls := "java/lang/String", name := "<init>", desc := "([CIILjava/lang/Void;)V" } : Jvm.MethodName) jdk_42_method_149_code (6 : Nat) (Option.none : Option Jvm.ClassFile.FieldType)).before args0 about1 = true := code_word (m := ⟨7, 2⟩) (meth := k7m2) (c := k7c2) (by decide +kernel) rfl rfl rfl (by decide +kernel)
set_option maxRecDepth 65536 in
theorem w_c3 : (Jvm.Cond.code ({ cls := "java/lang/Object", name := "<init>", desc := "()V" } : Jvm.MethodName) object_method_1_code (1 : Nat) (Option.none : Option Jvm.ClassFile.FieldType)).before args0 about1 = true := code_word (m := ⟨0, 0⟩) (meth := k0m0) (c := k0c0) (by decide +kernel) rfl rfl rfl (by decide +kernel)
set_option maxRecDepth 65536 in
theorem w_c4 : (Jvm.Cond.code ({ cls := "java/lang/StringUTF16", name := "compress", desc := "([CII)[B" } : Jvm.MethodName) jdk_52_method_16_code (6 : Nat) (Option.some (Jvm.ClassFile.FieldType.array Jvm.ClassFile.FieldType.byte))).before args0 about1 = true := code_word (m := ⟨8, 2⟩) (meth := k8m2) (c := k8c2) (by decide +kernel) rfl rfl rfl (by decide +kernel)
set_option maxRecDepth 65536 in
theorem w_c5 : (Jvm.Cond.code ({ cls := "java/lang/StringUTF16", name := "compress", desc := "([CI[BII)I" } : Jvm.MethodName) jdk_52_method_21_code (7 : Nat) (Option.some Jvm.ClassFile.FieldType.int)).before args0 about1 = true := code_word (m := ⟨8, 3⟩) (meth := k8m3) (c := k8c3) (by decide +kernel) rfl rfl rfl (by decide +kernel)
set_option maxRecDepth 65536 in
theorem w_c6 : (Jvm.Cond.code ({ cls := "java/lang/StringUTF16", name := "coderFromArrayLen", desc := "([BI)B" } : Jvm.MethodName) jdk_52_method_15_code (2 : Nat) (Option.some Jvm.ClassFile.FieldType.byte)).before args0 about1 = true := code_word (m := ⟨8, 1⟩) (meth := k8m1) (c := k8c1) (by decide +kernel) rfl rfl rfl (by decide +kernel)
set_option maxRecDepth 65536 in
theorem w_c7 : (Jvm.Cond.code ({ cls := "com/example/idemnity/idemnity/SqlDialect$Row", name := "<init>", desc := "(Ljava/lang/String;Ljava/lang/String;Ljava/lang/String;[B[BJJ)V" } : Jvm.MethodName) prog_32_method_1_code (10 : Nat) (Option.none : Option Jvm.ClassFile.FieldType)).before args0 about1 = true := code_word (m := ⟨10, 0⟩) (meth := k10m0) (c := k10c0) (by decide +kernel) rfl rfl rfl (by decide +kernel)
set_option maxRecDepth 65536 in
theorem w_c8 : (Jvm.Cond.code ({ cls := "java/lang/Record", name := "<init>", desc := "()V" } : Jvm.MethodName) jdk_30_method_1_code (1 : Nat) (Option.none : Option Jvm.ClassFile.FieldType)).before args0 about1 = true := code_word (m := ⟨9, 0⟩) (meth := k9m0) (c := k9c0) (by decide +kernel) rfl rfl rfl (by decide +kernel)
set_option maxRecDepth 65536 in
theorem w_c9 : (Jvm.Cond.code ({ cls := "com/example/idemnity/idemnity/SqlDialect$Row", name := "columns", desc := "()[Ljava/lang/Object;" } : Jvm.MethodName) prog_32_method_2_code (1 : Nat) (Option.some (Jvm.ClassFile.FieldType.array (Jvm.ClassFile.FieldType.object "java/lang/Object")))).before args0 about1 = true := code_word (m := ⟨10, 1⟩) (meth := k10m1) (c := k10c1) (by decide +kernel) rfl rfl rfl (by decide +kernel)
set_option maxRecDepth 65536 in
theorem w_c10 : (Jvm.Cond.code ({ cls := "java/lang/Long", name := "valueOf", desc := "(J)Ljava/lang/Long;" } : Jvm.MethodName) jdk_35_method_24_code (3 : Nat) (Option.some (Jvm.ClassFile.FieldType.object "java/lang/Long"))).before args0 about1 = true := code_word (m := ⟨12, 0⟩) (meth := k12m0) (c := k12c0) (by decide +kernel) rfl rfl rfl (by decide +kernel)
set_option maxRecDepth 65536 in
theorem w_c11 : (Jvm.Cond.code ({ cls := "java/lang/Long", name := "<init>", desc := "(J)V" } : Jvm.MethodName) jdk_35_method_26_code (3 : Nat) (Option.none : Option Jvm.ClassFile.FieldType)).before args0 about1 = true := code_word (m := ⟨12, 1⟩) (meth := k12m1) (c := k12c1) (by decide +kernel) rfl rfl rfl (by decide +kernel)
set_option maxRecDepth 65536 in
theorem w_c12 : (Jvm.Cond.code ({ cls := "java/lang/Number", name := "<init>", desc := "()V" } : Jvm.MethodName) jdk_18_method_1_code (1 : Nat) (Option.none : Option Jvm.ClassFile.FieldType)).before args0 about1 = true := code_word (m := ⟨11, 0⟩) (meth := k11m0) (c := k11c0) (by decide +kernel) rfl rfl rfl (by decide +kernel)
set_option maxRecDepth 65536 in
theorem w_c13 : (Jvm.Cond.code ({ cls := "java/lang/Long", name := "longValue", desc := "()J" } : Jvm.MethodName) jdk_35_method_31_code (1 : Nat) (Option.some Jvm.ClassFile.FieldType.long)).before args0 about1 = true := code_word (m := ⟨12, 2⟩) (meth := k12m2) (c := k12c2) (by decide +kernel) rfl rfl rfl (by decide +kernel)
def codes1 : List Jvm.Cond := [Jvm.Cond.code x code maxLocals ret, Jvm.Cond.code ({ cls := "java/lang/String", name := "<init>", desc := "([C)V" } : Jvm.MethodName) jdk_42_method_3_code (2 : Nat) (Option.none : Option Jvm.ClassFile.FieldType), Jvm.Cond.code ({ cls := "java/lang/String", name := "<init>", desc := "([CIILjava/lang/Void;)V" } : Jvm.MethodName) jdk_42_method_149_code (6 : Nat) (Option.none : Option Jvm.ClassFile.FieldType), Jvm.Cond.code ({ cls := "java/lang/Object", name := "<init>", desc := "()V" } : Jvm.MethodName) object_method_1_code (1 : Nat) (Option.none : Option Jvm.ClassFile.FieldType), Jvm.Cond.code ({ cls := "java/lang/StringUTF16", name := "compress", desc := "([CII)[B" } : Jvm.MethodName) jdk_52_method_16_code (6 : Nat) (Option.some (Jvm.ClassFile.FieldType.array Jvm.ClassFile.FieldType.byte)), Jvm.Cond.code ({ cls := "java/lang/StringUTF16", name := "compress", desc := "([CI[BII)I" } : Jvm.MethodName) jdk_52_method_21_code (7 : Nat) (Option.some Jvm.ClassFile.FieldType.int), Jvm.Cond.code ({ cls := "java/lang/StringUTF16", name := "coderFromArrayLen", desc := "([BI)B" } : Jvm.MethodName) jdk_52_method_15_code (2 : Nat) (Option.some Jvm.ClassFile.FieldType.byte), Jvm.Cond.code ({ cls := "com/example/idemnity/idemnity/SqlDialect$Row", name := "<init>", desc := "(Ljava/lang/String;Ljava/lang/String;Ljava/lang/String;[B[BJJ)V" } : Jvm.MethodName) prog_32_method_1_code (10 : Nat) (Option.none : Option Jvm.ClassFile.FieldType), Jvm.Cond.code ({ cls := "java/lang/Record", name := "<init>", desc := "()V" } : Jvm.MethodName) jdk_30_method_1_code (1 : Nat) (Option.none : Option Jvm.ClassFile.FieldType), Jvm.Cond.code ({ cls := "com/example/idemnity/idemnity/SqlDialect$Row", name := "columns", desc := "()[Ljava/lang/Object;" } : Jvm.MethodName) prog_32_method_2_code (1 : Nat) (Option.some (Jvm.ClassFile.FieldType.array (Jvm.ClassFile.FieldType.object "java/lang/Object"))), Jvm.Cond.code ({ cls := "java/lang/Long", name := "valueOf", desc := "(J)Ljava/lang/Long;" } : Jvm.MethodName) jdk_35_method_24_code (3 : Nat) (Option.some (Jvm.ClassFile.FieldType.object "java/lang/Long")), Jvm.Cond.code ({ cls := "java/lang/Long", name := "<init>", desc := "(J)V" } : Jvm.MethodName) jdk_35_method_26_code (3 : Nat) (Option.none : Option Jvm.ClassFile.FieldType), Jvm.Cond.code ({ cls := "java/lang/Number", name := "<init>", desc := "()V" } : Jvm.MethodName) jdk_18_method_1_code (1 : Nat) (Option.none : Option Jvm.ClassFile.FieldType), Jvm.Cond.code ({ cls := "java/lang/Long", name := "longValue", desc := "()J" } : Jvm.MethodName) jdk_35_method_31_code (1 : Nat) (Option.some Jvm.ClassFile.FieldType.long)]
set_option maxRecDepth 65536 in
theorem codes_eq : words1.filter isCode = codes1 := rfl
theorem w_codes : ∀ c ∈ words1.filter isCode, c.before args0 about1 = true := by
  rw [codes_eq]
  intro c hc
  simp only [codes1, List.mem_cons, List.not_mem_nil, or_false] at hc
  rcases hc with rfl | rfl | rfl | rfl | rfl | rfl | rfl | rfl | rfl | rfl | rfl | rfl | rfl | rfl
  · exact w_c0
  · exact w_c1
  · exact w_c2
  · exact w_c3
  · exact w_c4
  · exact w_c5
  · exact w_c6
  · exact w_c7
  · exact w_c8
  · exact w_c9
  · exact w_c10
  · exact w_c11
  · exact w_c12
  · exact w_c13
set_option maxRecDepth 65536 in
theorem w_t1 : (words1.take 24).all (fun c => isCode c || c.before args0 about1) = true := by decide +kernel
set_option maxRecDepth 65536 in
theorem w_t2 : ((words1.drop 24).take 24).all (fun c => isCode c || c.before args0 about1) = true := by decide +kernel
set_option maxRecDepth 65536 in
theorem w_t3 : (((words1.drop 24).drop 24).take 24).all (fun c => isCode c || c.before args0 about1) = true := by decide +kernel
set_option maxRecDepth 65536 in
theorem w_t4 : (((words1.drop 24).drop 24).drop 24).all (fun c => isCode c || c.before args0 about1) = true := by decide +kernel
theorem w_tables : (allAtoms (Jvm.Cond.code x code maxLocals ret :: tables_1)).before args0 about1 = true := by
  rw [allAtoms_all]
  show words1.all (fun c => c.before args0 about1) = true
  refine all_split ?_ w_codes
  rw [← List.take_append_drop 24 words1, List.all_append, w_t1, ← List.take_append_drop 24 (words1.drop 24), List.all_append, w_t2, ← List.take_append_drop 24 ((words1.drop 24).drop 24), List.all_append, w_t3, w_t4]
  rfl
set_option maxRecDepth 65536 in
theorem w_rest : rest_1_c.before args0 about1 = true := by decide +kernel
set_option maxRecDepth 65536 in
theorem w_case : (Jvm.Cond.and given_1 narrow_1).before args0 about1 = true := by decide +kernel
theorem w_applies : (headSpec (Jvm.Cond.code x code maxLocals ret :: tables_1) room_1).applies x e0.platform about1 = true :=
  (Spec.applies_iff w_frames).mpr ⟨w_running, w_runnable, w_alone, w_named, w_hears, w_ripe, w_room, w_tables⟩
theorem atStart : AtStart classFile x code maxLocals ret World_1 tables_1 room_1 Calls_1 rest_1 Pre_1 launch0 p0 e0 about1 theMethod args0 below0 :=
  ⟨lists_1, trivial, launch0.admits_env _ _ _, launch0.least_env, fairChoices_fair.cas, fairChoices_fair.clock, w_frames, w_args, w_heap, w_applies, trivial, w_rest, w_case⟩
end start1
theorem witness_1 : WitnessClaimed_1 := ⟨start1.p0, start1.e0, start1.about1, start1.theMethod, start1.args0, start1.below0, start1.atStart⟩
end Jvm.Pilot.@@N@@
