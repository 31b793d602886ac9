import JvmDerived
import JvmDerived.Pilot.@@N@@Statement
import JvmDerived.Pilot.@@N@@Code
set_option linter.unusedVariables false
set_option linter.unusedSimpArgs false
namespace Jvm.WpK
open Sem ClassFile Op Lib Jvm.Stand Jvm.Free Jvm.LawKit Jvm.RoadKit
/-- the run's own unknowns: program, environment, the invocation's state, method, arguments, frames below, the method's record, its code -/
abbrev Cx : Type := Program × Env × State × MethodId × Array Value × List Frame × Method × Code
/-- a decoded instruction and the pc behind it -/
def Fet (code : ByteArray) (pc pc' : Nat) (i : Instr) (len : Nat) : Prop := decode code pc = .ok (i, len) ∧ pc + len = pc'
/-- a decoded branch: the pc behind it and its target -/
def Brn (code : ByteArray) (pc pcN pcT : Nat) (i : Instr) (o : Int) : Prop := decode code pc = .ok (i, 3) ∧ pc + 3 = pcN ∧ 0 ≤ (pc : Int) + o ∧ ((pc : Int) + o).toNat = pcT
/-- what is known of the body that is walked -/
def Ok (Z : State) (K : Cx) (code : ByteArray) (own nm : String) (maxL : Nat) (ret : Option FieldType) : Prop :=
  match K with
  | (p, _, s, m, _, _, meth, c) => p.tables.exec = Jvm.exec ∧ c.code = code ∧ Z.Warmed39 s.vm ∧ s.vm.findClass own = some m.cls ∧ meth.name = nm ∧ c.maxLocals = maxL ∧ meth.sig.returnType = ret ∧ meth.locks = false
/-- from this point (heap h, k cells and n slots made so far) the body ends in Q, having written nothing below n0 -/
def Wp (l : Launch) (R : Room) (n0 : Nat) (K : Cx) (Q : Option Value → Heap → Prop) (h : Heap) (k n : Nat) (pc : Nat) (Ls : Array Slot) (st : List Value) : Prop :=
  match K with
  | (p, e, s, m, args, below, meth, c) => ∀ (T : State) (locs : List Loc), Stand p l e R s m args below meth c T locs k n → T.heap = h → Fr n0 locs →
      ∃ s₂ o, Steps p.tables e below (T.setTop (mkF m pc Ls st)) s₂ ∧ s₂.status = .running ∧ Ended s₂ below o ∧ ∃ v L, o = .returned v ∧ (Q v s₂.heap ∧ Fr n0 L) ∧ FrameEnd s o s₂ L R.cells R.slots
/-- a body's contract at one call -/
def Con (l : Launch) (Z : State) (n0 : Nat) (y : MethodName) (bytes : ByteArray) (maxL : Nat) (ret : Option FieldType) (ws : List Cond) (rm : Room) (as : Array Value) (h : Heap) (Q : Option Value → Heap → Prop) : Prop :=
  MetFree l y (head1 (Cond.code y bytes maxL ret :: ws) rm) (fun a U => a = as ∧ Z.Warmed39 U.vm ∧ U.heap = h) (fun _ _ _ _ _ => True) (fun _ U o U' => ∃ v L, o = .returned v ∧ (Q v U'.heap ∧ Fr n0 L) ∧ FrameEnd U o U' L rm.cells rm.slots)
abbrev ConV (l : Launch) (Z : State) (n0 : Nat) (y : MethodName) (bytes : ByteArray) (maxL : Nat) (ret : Option FieldType) (ws : List Cond) (rm : Room) (as : Array Value) (h : Heap) (Q : Value → Heap → Prop) : Prop :=
  Con l Z n0 y bytes maxL ret ws rm as h (fun v h' => ∃ w, v = some w ∧ Q w h')
abbrev ConN (l : Launch) (Z : State) (n0 : Nat) (y : MethodName) (bytes : ByteArray) (maxL : Nat) (ret : Option FieldType) (ws : List Cond) (rm : Room) (as : Array Value) (h : Heap) (Q : Heap → Prop) : Prop :=
  Con l Z n0 y bytes maxL ret ws rm as h (fun v h' => v = none ∧ Q h')
theorem con_of_wp {l : Launch} {Z : State} {n0 : Nat} {y : MethodName} {bytes : ByteArray} {maxL : Nat} {ret : Option FieldType} {ws : List Cond} {rm : Room} {as : Array Value} {h : Heap} {Q : Option Value → Heap → Prop} {Ls : Array Slot}
    (hpl : plainFor y = true) (hef : ∀ m, entryFrame m as maxL = mkF m 0 Ls []) (H : ∀ K, Ok Z K bytes y.cls y.name maxL ret → Wp l rm n0 K Q h 0 0 0 Ls []) : Con l Z n0 y bytes maxL ret ws rm as h Q := by
  refine MetFree.of_bodySF hpl hisR ?_
  intro p e s m args below meth c s₁ Bd hml0 hP hK
  obtain ⟨rfl, hZ, hh⟩ := hP
  have X0 : Stand p l e rm s m args below meth c s₁ [] 0 0 := Stand.of_body Bd
  have e0 : s₁.heap = h := by rw [← hh, Bd.state]; rfl
  obtain ⟨s₂, o, h1, h2, h3, h4⟩ := H (p, e, s, m, args, below, meth, c) ⟨Bd.exec, Bd.bytes, hZ, findClass_of_methodNamed Bd.named, (name_of_methodNamed Bd.named Bd.method).1, hml0, Bd.returns, Bd.notSynchronized⟩ s₁ [] X0 e0 (Fr.nil n0)
  exact ⟨s₂, o, castTop (hef m) h1, h2, h3, h4⟩
section Rules
variable {l : Launch} {R : Room} {n0 : Nat} {K : Cx} {Q : Option Value → Heap → Prop} {h : Heap} {k n k' n' : Nat} {pc pc' : Nat} {Ls Ls' : Array Slot} {st rest : List Value} {Z : State} {code : ByteArray} {own nm : String} {maxL : Nat} {ret : Option FieldType} {a0 : Array Value}
theorem w_cast {pc1 : Nat} {L1 : Array Slot} {s1 : List Value} (hr : Wp l R n0 K Q h k n pc1 L1 s1) (q1 : pc1 = pc) (q2 : L1 = Ls) (q3 : s1 = st) : Wp l R n0 K Q h k n pc Ls st := by
  subst q1 q2 q3; exact hr
theorem w_mono {Q' : Option Value → Heap → Prop} (hr : Wp l R n0 K Q' h k n pc Ls st) (hq : ∀ v h', Q' v h' → Q v h') : Wp l R n0 K Q h k n pc Ls st := by
  obtain ⟨p, e, s, m, args, below, meth, c⟩ := K
  intro T locs X hT hF
  obtain ⟨s₂, o, h1, h2, h3, v, L, h4, ⟨h5, h6⟩, h7⟩ := hr T locs X hT hF
  exact ⟨s₂, o, h1, h2, h3, v, L, h4, ⟨hq _ _ h5, h6⟩, h7⟩
theorem w_int {a b : Int32} (e : a = b) (hr : Wp l R n0 K Q h k n pc Ls (.int b :: st)) : Wp l R n0 K Q h k n pc Ls (.int a :: st) := e ▸ hr
theorem w_long {a b : Int64} (e : a = b) (hr : Wp l R n0 K Q h k n pc Ls (.long b :: st)) : Wp l R n0 K Q h k n pc Ls (.long a :: st) := e ▸ hr
/-- more cells or slots may be booked -/
theorem w_more {k1 n1 : Nat} (hr : Wp l R n0 K Q h k1 n1 pc Ls st) (hk : k ≤ k1) (hn : n ≤ n1) : Wp l R n0 K Q h k n pc Ls st := by
  obtain ⟨p, e, s, m, args, below, meth, c⟩ := K
  intro T locs X hT hF
  exact hr T locs (X.more hk hn) hT hF

theorem w_iloadN (ok : Ok Z K code own nm maxL ret) {j : Fin 4} {x : Int32} (hd : Fet code pc pc' (.iload_n j) 1) (hl : Ls[j.val]? = some (.val (.int x))) (hr : Wp l R n0 K Q h k n pc' Ls (.int x :: st)) : Wp l R n0 K Q h k n pc Ls st := by
  obtain ⟨p, e, s, m, args, below, meth, c⟩ := K
  obtain ⟨hx, hby, hZ, hown, hnm, hml, hret, hlk⟩ := ok
  obtain ⟨hd, rfl⟩ := hd
  intro T locs X hT hF
  obtain ⟨s₂, o, h1, h2⟩ := hr T locs X hT hF
  exact ⟨s₂, o, XS.iloadN X.here hx rfl (hb hby hd) hl h1, h2⟩
theorem w_iload (ok : Ok Z K code own nm maxL ret) {j : Nat} {x : Int32} (hd : Fet code pc pc' (.iload j) 2) (hl : Ls[j]? = some (.val (.int x))) (hr : Wp l R n0 K Q h k n pc' Ls (.int x :: st)) : Wp l R n0 K Q h k n pc Ls st := by
  obtain ⟨p, e, s, m, args, below, meth, c⟩ := K
  obtain ⟨hx, hby, hZ, hown, hnm, hml, hret, hlk⟩ := ok
  obtain ⟨hd, rfl⟩ := hd
  intro T locs X hT hF
  obtain ⟨s₂, o, h1, h2⟩ := hr T locs X hT hF
  exact ⟨s₂, o, XS.iload X.here hx rfl (hb hby hd) hl h1, h2⟩
theorem w_lloadN (ok : Ok Z K code own nm maxL ret) {j : Fin 4} {x : Int64} (hd : Fet code pc pc' (.lload_n j) 1) (hl : Ls[j.val]? = some (.val (.long x))) (hr : Wp l R n0 K Q h k n pc' Ls (.long x :: st)) : Wp l R n0 K Q h k n pc Ls st := by
  obtain ⟨p, e, s, m, args, below, meth, c⟩ := K
  obtain ⟨hx, hby, hZ, hown, hnm, hml, hret, hlk⟩ := ok
  obtain ⟨hd, rfl⟩ := hd
  intro T locs X hT hF
  obtain ⟨s₂, o, h1, h2⟩ := hr T locs X hT hF
  exact ⟨s₂, o, XS.lloadN X.here hx rfl (hb hby hd) hl h1, h2⟩
theorem w_lload (ok : Ok Z K code own nm maxL ret) {j : Nat} {x : Int64} (hd : Fet code pc pc' (.lload j) 2) (hl : Ls[j]? = some (.val (.long x))) (hr : Wp l R n0 K Q h k n pc' Ls (.long x :: st)) : Wp l R n0 K Q h k n pc Ls st := by
  obtain ⟨p, e, s, m, args, below, meth, c⟩ := K
  obtain ⟨hx, hby, hZ, hown, hnm, hml, hret, hlk⟩ := ok
  obtain ⟨hd, rfl⟩ := hd
  intro T locs X hT hF
  obtain ⟨s₂, o, h1, h2⟩ := hr T locs X hT hF
  exact ⟨s₂, o, XS.lload X.here hx rfl (hb hby hd) hl h1, h2⟩
theorem w_aloadN (ok : Ok Z K code own nm maxL ret) {j : Fin 4} {x : Value} (hd : Fet code pc pc' (.aload_n j) 1) (hl : Ls[j.val]? = some (.val x)) (hv : x.isRef = true) (hr : Wp l R n0 K Q h k n pc' Ls (x :: st)) : Wp l R n0 K Q h k n pc Ls st := by
  obtain ⟨p, e, s, m, args, below, meth, c⟩ := K
  obtain ⟨hx, hby, hZ, hown, hnm, hml, hret, hlk⟩ := ok
  obtain ⟨hd, rfl⟩ := hd
  intro T locs X hT hF
  obtain ⟨s₂, o, h1, h2⟩ := hr T locs X hT hF
  exact ⟨s₂, o, XS.aloadN X.here hx rfl (hb hby hd) hl hv h1, h2⟩
theorem w_aload (ok : Ok Z K code own nm maxL ret) {j : Nat} {x : Value} (hd : Fet code pc pc' (.aload j) 2) (hl : Ls[j]? = some (.val x)) (hv : x.isRef = true) (hr : Wp l R n0 K Q h k n pc' Ls (x :: st)) : Wp l R n0 K Q h k n pc Ls st := by
  obtain ⟨p, e, s, m, args, below, meth, c⟩ := K
  obtain ⟨hx, hby, hZ, hown, hnm, hml, hret, hlk⟩ := ok
  obtain ⟨hd, rfl⟩ := hd
  intro T locs X hT hF
  obtain ⟨s₂, o, h1, h2⟩ := hr T locs X hT hF
  exact ⟨s₂, o, XS.aload X.here hx rfl (hb hby hd) hl hv h1, h2⟩
theorem w_istoreN (ok : Ok Z K code own nm maxL ret) {j : Fin 4} {x : Int32} (hd : Fet code pc pc' (.istore_n j) 1) (hl : storeLocals Ls j.val (.int x) = some Ls') (hr : Wp l R n0 K Q h k n pc' Ls' st) : Wp l R n0 K Q h k n pc Ls (.int x :: st) := by
  obtain ⟨p, e, s, m, args, below, meth, c⟩ := K
  obtain ⟨hx, hby, hZ, hown, hnm, hml, hret, hlk⟩ := ok
  obtain ⟨hd, rfl⟩ := hd
  intro T locs X hT hF
  obtain ⟨s₂, o, h1, h2⟩ := hr T locs X hT hF
  exact ⟨s₂, o, XS.istoreN X.here hx rfl (hb hby hd) rfl hl h1, h2⟩
theorem w_istore (ok : Ok Z K code own nm maxL ret) {j : Nat} {x : Int32} (hd : Fet code pc pc' (.istore j) 2) (hl : storeLocals Ls j (.int x) = some Ls') (hr : Wp l R n0 K Q h k n pc' Ls' st) : Wp l R n0 K Q h k n pc Ls (.int x :: st) := by
  obtain ⟨p, e, s, m, args, below, meth, c⟩ := K
  obtain ⟨hx, hby, hZ, hown, hnm, hml, hret, hlk⟩ := ok
  obtain ⟨hd, rfl⟩ := hd
  intro T locs X hT hF
  obtain ⟨s₂, o, h1, h2⟩ := hr T locs X hT hF
  exact ⟨s₂, o, XS.istore X.here hx rfl (hb hby hd) rfl hl h1, h2⟩
theorem w_lstoreN (ok : Ok Z K code own nm maxL ret) {j : Fin 4} {x : Int64} (hd : Fet code pc pc' (.lstore_n j) 1) (hl : storeLocals Ls j.val (.long x) = some Ls') (hr : Wp l R n0 K Q h k n pc' Ls' st) : Wp l R n0 K Q h k n pc Ls (.long x :: st) := by
  obtain ⟨p, e, s, m, args, below, meth, c⟩ := K
  obtain ⟨hx, hby, hZ, hown, hnm, hml, hret, hlk⟩ := ok
  obtain ⟨hd, rfl⟩ := hd
  intro T locs X hT hF
  obtain ⟨s₂, o, h1, h2⟩ := hr T locs X hT hF
  exact ⟨s₂, o, XS.lstoreN X.here hx rfl (hb hby hd) rfl hl h1, h2⟩
theorem w_lstore (ok : Ok Z K code own nm maxL ret) {j : Nat} {x : Int64} (hd : Fet code pc pc' (.lstore j) 2) (hl : storeLocals Ls j (.long x) = some Ls') (hr : Wp l R n0 K Q h k n pc' Ls' st) : Wp l R n0 K Q h k n pc Ls (.long x :: st) := by
  obtain ⟨p, e, s, m, args, below, meth, c⟩ := K
  obtain ⟨hx, hby, hZ, hown, hnm, hml, hret, hlk⟩ := ok
  obtain ⟨hd, rfl⟩ := hd
  intro T locs X hT hF
  obtain ⟨s₂, o, h1, h2⟩ := hr T locs X hT hF
  exact ⟨s₂, o, XS.lstore X.here hx rfl (hb hby hd) rfl hl h1, h2⟩
theorem w_astoreN (ok : Ok Z K code own nm maxL ret) {j : Fin 4} {x : Value} (hd : Fet code pc pc' (.astore_n j) 1) (hl : storeLocals Ls j.val x = some Ls') (hv : x.isRef = true) (hr : Wp l R n0 K Q h k n pc' Ls' st) : Wp l R n0 K Q h k n pc Ls (x :: st) := by
  obtain ⟨p, e, s, m, args, below, meth, c⟩ := K
  obtain ⟨hx, hby, hZ, hown, hnm, hml, hret, hlk⟩ := ok
  obtain ⟨hd, rfl⟩ := hd
  intro T locs X hT hF
  obtain ⟨s₂, o, h1, h2⟩ := hr T locs X hT hF
  exact ⟨s₂, o, XS.astoreN X.here hx rfl (hb hby hd) rfl hv hl h1, h2⟩
theorem w_astore (ok : Ok Z K code own nm maxL ret) {j : Nat} {x : Value} (hd : Fet code pc pc' (.astore j) 2) (hl : storeLocals Ls j x = some Ls') (hv : x.isRef = true) (hr : Wp l R n0 K Q h k n pc' Ls' st) : Wp l R n0 K Q h k n pc Ls (x :: st) := by
  obtain ⟨p, e, s, m, args, below, meth, c⟩ := K
  obtain ⟨hx, hby, hZ, hown, hnm, hml, hret, hlk⟩ := ok
  obtain ⟨hd, rfl⟩ := hd
  intro T locs X hT hF
  obtain ⟨s₂, o, h1, h2⟩ := hr T locs X hT hF
  exact ⟨s₂, o, XS.astore X.here hx rfl (hb hby hd) rfl hv hl h1, h2⟩
theorem w_iinc (ok : Ok Z K code own nm maxL ret) {j : Nat} {cst : Int} {x : Int32} (hd : Fet code pc pc' (.iinc j cst) 3) (hl : Ls[j]? = some (.val (.int x))) (hl' : storeLocals Ls j (.int (x + Int32.ofInt cst)) = some Ls') (hr : Wp l R n0 K Q h k n pc' Ls' st) : Wp l R n0 K Q h k n pc Ls st := by
  obtain ⟨p, e, s, m, args, below, meth, c⟩ := K
  obtain ⟨hx, hby, hZ, hown, hnm, hml, hret, hlk⟩ := ok
  obtain ⟨hd, rfl⟩ := hd
  intro T locs X hT hF
  obtain ⟨s₂, o, h1, h2⟩ := hr T locs X hT hF
  exact ⟨s₂, o, XS.iinc X.here hx rfl (hb hby hd) hl hl' h1, h2⟩
theorem w_iconst (ok : Ok Z K code own nm maxL ret) {i : Int} {z : Int32} (hd : Fet code pc pc' (.iconst i) 1) (hz : Int32.ofInt i = z) (hr : Wp l R n0 K Q h k n pc' Ls (.int z :: st)) : Wp l R n0 K Q h k n pc Ls st := by
  obtain ⟨p, e, s, m, args, below, meth, c⟩ := K
  obtain ⟨hx, hby, hZ, hown, hnm, hml, hret, hlk⟩ := ok
  obtain ⟨hd, rfl⟩ := hd
  intro T locs X hT hF
  subst hz
  obtain ⟨s₂, o, h1, h2⟩ := hr T locs X hT hF
  exact ⟨s₂, o, XS.iconst X.here hx rfl (hb hby hd) h1, h2⟩
theorem w_bipush (ok : Ok Z K code own nm maxL ret) {i : Int} {z : Int32} (hd : Fet code pc pc' (.bipush i) 2) (hz : (Int8.ofInt i).toInt32 = z) (hr : Wp l R n0 K Q h k n pc' Ls (.int z :: st)) : Wp l R n0 K Q h k n pc Ls st := by
  obtain ⟨p, e, s, m, args, below, meth, c⟩ := K
  obtain ⟨hx, hby, hZ, hown, hnm, hml, hret, hlk⟩ := ok
  obtain ⟨hd, rfl⟩ := hd
  intro T locs X hT hF
  subst hz
  obtain ⟨s₂, o, h1, h2⟩ := hr T locs X hT hF
  exact ⟨s₂, o, XS.bipush X.here hx rfl (hb hby hd) h1, h2⟩
theorem w_sipush (ok : Ok Z K code own nm maxL ret) {i : Int} {z : Int32} (hd : Fet code pc pc' (.sipush i) 3) (hz : (Int16.ofInt i).toInt32 = z) (hr : Wp l R n0 K Q h k n pc' Ls (.int z :: st)) : Wp l R n0 K Q h k n pc Ls st := by
  obtain ⟨p, e, s, m, args, below, meth, c⟩ := K
  obtain ⟨hx, hby, hZ, hown, hnm, hml, hret, hlk⟩ := ok
  obtain ⟨hd, rfl⟩ := hd
  intro T locs X hT hF
  subst hz
  obtain ⟨s₂, o, h1, h2⟩ := hr T locs X hT hF
  exact ⟨s₂, o, XS.sipush X.here hx rfl (hb hby hd) h1, h2⟩
theorem w_lconst (ok : Ok Z K code own nm maxL ret) {i : Fin 2} {z : Int64} (hd : Fet code pc pc' (.lconst i) 1) (hz : Int64.ofNat i = z) (hr : Wp l R n0 K Q h k n pc' Ls (.long z :: st)) : Wp l R n0 K Q h k n pc Ls st := by
  obtain ⟨p, e, s, m, args, below, meth, c⟩ := K
  obtain ⟨hx, hby, hZ, hown, hnm, hml, hret, hlk⟩ := ok
  obtain ⟨hd, rfl⟩ := hd
  intro T locs X hT hF
  subst hz
  obtain ⟨s₂, o, h1, h2⟩ := hr T locs X hT hF
  exact ⟨s₂, o, XS.lconst X.here hx rfl (hb hby hd) h1, h2⟩
theorem w_aconstNull (ok : Ok Z K code own nm maxL ret)  (hd : Fet code pc pc' (.aconst_null) 1)  (hr : Wp l R n0 K Q h k n pc' Ls (.null :: st)) : Wp l R n0 K Q h k n pc Ls st := by
  obtain ⟨p, e, s, m, args, below, meth, c⟩ := K
  obtain ⟨hx, hby, hZ, hown, hnm, hml, hret, hlk⟩ := ok
  obtain ⟨hd, rfl⟩ := hd
  intro T locs X hT hF
  obtain ⟨s₂, o, h1, h2⟩ := hr T locs X hT hF
  exact ⟨s₂, o, XS.aconstNull X.here hx rfl (hb hby hd)  h1, h2⟩
theorem w_iadd (ok : Ok Z K code own nm maxL ret) {x y : Int32} (hd : Fet code pc pc' (.iadd) 1)  (hr : Wp l R n0 K Q h k n pc' Ls (.int (x + y) :: st)) : Wp l R n0 K Q h k n pc Ls (.int y :: .int x :: st) := by
  obtain ⟨p, e, s, m, args, below, meth, c⟩ := K
  obtain ⟨hx, hby, hZ, hown, hnm, hml, hret, hlk⟩ := ok
  obtain ⟨hd, rfl⟩ := hd
  intro T locs X hT hF
  obtain ⟨s₂, o, h1, h2⟩ := hr T locs X hT hF
  exact ⟨s₂, o, XS.iadd X.here hx rfl (hb hby hd) rfl h1, h2⟩
theorem w_isub (ok : Ok Z K code own nm maxL ret) {x y : Int32} (hd : Fet code pc pc' (.isub) 1)  (hr : Wp l R n0 K Q h k n pc' Ls (.int (x - y) :: st)) : Wp l R n0 K Q h k n pc Ls (.int y :: .int x :: st) := by
  obtain ⟨p, e, s, m, args, below, meth, c⟩ := K
  obtain ⟨hx, hby, hZ, hown, hnm, hml, hret, hlk⟩ := ok
  obtain ⟨hd, rfl⟩ := hd
  intro T locs X hT hF
  obtain ⟨s₂, o, h1, h2⟩ := hr T locs X hT hF
  exact ⟨s₂, o, XS.isub X.here hx rfl (hb hby hd) rfl h1, h2⟩
theorem w_imul (ok : Ok Z K code own nm maxL ret) {x y : Int32} (hd : Fet code pc pc' (.imul) 1)  (hr : Wp l R n0 K Q h k n pc' Ls (.int (x * y) :: st)) : Wp l R n0 K Q h k n pc Ls (.int y :: .int x :: st) := by
  obtain ⟨p, e, s, m, args, below, meth, c⟩ := K
  obtain ⟨hx, hby, hZ, hown, hnm, hml, hret, hlk⟩ := ok
  obtain ⟨hd, rfl⟩ := hd
  intro T locs X hT hF
  obtain ⟨s₂, o, h1, h2⟩ := hr T locs X hT hF
  exact ⟨s₂, o, XS.imul X.here hx rfl (hb hby hd) rfl h1, h2⟩
theorem w_iand (ok : Ok Z K code own nm maxL ret) {x y : Int32} (hd : Fet code pc pc' (.iand) 1)  (hr : Wp l R n0 K Q h k n pc' Ls (.int (x &&& y) :: st)) : Wp l R n0 K Q h k n pc Ls (.int y :: .int x :: st) := by
  obtain ⟨p, e, s, m, args, below, meth, c⟩ := K
  obtain ⟨hx, hby, hZ, hown, hnm, hml, hret, hlk⟩ := ok
  obtain ⟨hd, rfl⟩ := hd
  intro T locs X hT hF
  obtain ⟨s₂, o, h1, h2⟩ := hr T locs X hT hF
  exact ⟨s₂, o, XS.iand X.here hx rfl (hb hby hd) rfl h1, h2⟩
theorem w_ior (ok : Ok Z K code own nm maxL ret) {x y : Int32} (hd : Fet code pc pc' (.ior) 1)  (hr : Wp l R n0 K Q h k n pc' Ls (.int (x ||| y) :: st)) : Wp l R n0 K Q h k n pc Ls (.int y :: .int x :: st) := by
  obtain ⟨p, e, s, m, args, below, meth, c⟩ := K
  obtain ⟨hx, hby, hZ, hown, hnm, hml, hret, hlk⟩ := ok
  obtain ⟨hd, rfl⟩ := hd
  intro T locs X hT hF
  obtain ⟨s₂, o, h1, h2⟩ := hr T locs X hT hF
  exact ⟨s₂, o, XS.ior X.here hx rfl (hb hby hd) rfl h1, h2⟩
theorem w_ixor (ok : Ok Z K code own nm maxL ret) {x y : Int32} (hd : Fet code pc pc' (.ixor) 1)  (hr : Wp l R n0 K Q h k n pc' Ls (.int (x ^^^ y) :: st)) : Wp l R n0 K Q h k n pc Ls (.int y :: .int x :: st) := by
  obtain ⟨p, e, s, m, args, below, meth, c⟩ := K
  obtain ⟨hx, hby, hZ, hown, hnm, hml, hret, hlk⟩ := ok
  obtain ⟨hd, rfl⟩ := hd
  intro T locs X hT hF
  obtain ⟨s₂, o, h1, h2⟩ := hr T locs X hT hF
  exact ⟨s₂, o, XS.ixor X.here hx rfl (hb hby hd) rfl h1, h2⟩
theorem w_ladd (ok : Ok Z K code own nm maxL ret) {x y : Int64} (hd : Fet code pc pc' (.ladd) 1)  (hr : Wp l R n0 K Q h k n pc' Ls (.long (x + y) :: st)) : Wp l R n0 K Q h k n pc Ls (.long y :: .long x :: st) := by
  obtain ⟨p, e, s, m, args, below, meth, c⟩ := K
  obtain ⟨hx, hby, hZ, hown, hnm, hml, hret, hlk⟩ := ok
  obtain ⟨hd, rfl⟩ := hd
  intro T locs X hT hF
  obtain ⟨s₂, o, h1, h2⟩ := hr T locs X hT hF
  exact ⟨s₂, o, XS.ladd X.here hx rfl (hb hby hd) rfl h1, h2⟩
theorem w_lsub (ok : Ok Z K code own nm maxL ret) {x y : Int64} (hd : Fet code pc pc' (.lsub) 1)  (hr : Wp l R n0 K Q h k n pc' Ls (.long (x - y) :: st)) : Wp l R n0 K Q h k n pc Ls (.long y :: .long x :: st) := by
  obtain ⟨p, e, s, m, args, below, meth, c⟩ := K
  obtain ⟨hx, hby, hZ, hown, hnm, hml, hret, hlk⟩ := ok
  obtain ⟨hd, rfl⟩ := hd
  intro T locs X hT hF
  obtain ⟨s₂, o, h1, h2⟩ := hr T locs X hT hF
  exact ⟨s₂, o, XS.lsub X.here hx rfl (hb hby hd) rfl h1, h2⟩
theorem w_lmul (ok : Ok Z K code own nm maxL ret) {x y : Int64} (hd : Fet code pc pc' (.lmul) 1)  (hr : Wp l R n0 K Q h k n pc' Ls (.long (x * y) :: st)) : Wp l R n0 K Q h k n pc Ls (.long y :: .long x :: st) := by
  obtain ⟨p, e, s, m, args, below, meth, c⟩ := K
  obtain ⟨hx, hby, hZ, hown, hnm, hml, hret, hlk⟩ := ok
  obtain ⟨hd, rfl⟩ := hd
  intro T locs X hT hF
  obtain ⟨s₂, o, h1, h2⟩ := hr T locs X hT hF
  exact ⟨s₂, o, XS.lmul X.here hx rfl (hb hby hd) rfl h1, h2⟩
theorem w_land (ok : Ok Z K code own nm maxL ret) {x y : Int64} (hd : Fet code pc pc' (.land) 1)  (hr : Wp l R n0 K Q h k n pc' Ls (.long (x &&& y) :: st)) : Wp l R n0 K Q h k n pc Ls (.long y :: .long x :: st) := by
  obtain ⟨p, e, s, m, args, below, meth, c⟩ := K
  obtain ⟨hx, hby, hZ, hown, hnm, hml, hret, hlk⟩ := ok
  obtain ⟨hd, rfl⟩ := hd
  intro T locs X hT hF
  obtain ⟨s₂, o, h1, h2⟩ := hr T locs X hT hF
  exact ⟨s₂, o, XS.land X.here hx rfl (hb hby hd) rfl h1, h2⟩
theorem w_lor (ok : Ok Z K code own nm maxL ret) {x y : Int64} (hd : Fet code pc pc' (.lor) 1)  (hr : Wp l R n0 K Q h k n pc' Ls (.long (x ||| y) :: st)) : Wp l R n0 K Q h k n pc Ls (.long y :: .long x :: st) := by
  obtain ⟨p, e, s, m, args, below, meth, c⟩ := K
  obtain ⟨hx, hby, hZ, hown, hnm, hml, hret, hlk⟩ := ok
  obtain ⟨hd, rfl⟩ := hd
  intro T locs X hT hF
  obtain ⟨s₂, o, h1, h2⟩ := hr T locs X hT hF
  exact ⟨s₂, o, XS.lor X.here hx rfl (hb hby hd) rfl h1, h2⟩
theorem w_lxor (ok : Ok Z K code own nm maxL ret) {x y : Int64} (hd : Fet code pc pc' (.lxor) 1)  (hr : Wp l R n0 K Q h k n pc' Ls (.long (x ^^^ y) :: st)) : Wp l R n0 K Q h k n pc Ls (.long y :: .long x :: st) := by
  obtain ⟨p, e, s, m, args, below, meth, c⟩ := K
  obtain ⟨hx, hby, hZ, hown, hnm, hml, hret, hlk⟩ := ok
  obtain ⟨hd, rfl⟩ := hd
  intro T locs X hT hF
  obtain ⟨s₂, o, h1, h2⟩ := hr T locs X hT hF
  exact ⟨s₂, o, XS.lxor X.here hx rfl (hb hby hd) rfl h1, h2⟩
theorem w_ishl (ok : Ok Z K code own nm maxL ret) {x y : Int32} (hd : Fet code pc pc' (.ishl) 1)  (hr : Wp l R n0 K Q h k n pc' Ls (.int (x <<< (y &&& 31)) :: st)) : Wp l R n0 K Q h k n pc Ls (.int y :: .int x :: st) := by
  obtain ⟨p, e, s, m, args, below, meth, c⟩ := K
  obtain ⟨hx, hby, hZ, hown, hnm, hml, hret, hlk⟩ := ok
  obtain ⟨hd, rfl⟩ := hd
  intro T locs X hT hF
  obtain ⟨s₂, o, h1, h2⟩ := hr T locs X hT hF
  exact ⟨s₂, o, XS.ishl X.here hx rfl (hb hby hd) rfl h1, h2⟩
theorem w_ishr (ok : Ok Z K code own nm maxL ret) {x y : Int32} (hd : Fet code pc pc' (.ishr) 1)  (hr : Wp l R n0 K Q h k n pc' Ls (.int (x >>> (y &&& 31)) :: st)) : Wp l R n0 K Q h k n pc Ls (.int y :: .int x :: st) := by
  obtain ⟨p, e, s, m, args, below, meth, c⟩ := K
  obtain ⟨hx, hby, hZ, hown, hnm, hml, hret, hlk⟩ := ok
  obtain ⟨hd, rfl⟩ := hd
  intro T locs X hT hF
  obtain ⟨s₂, o, h1, h2⟩ := hr T locs X hT hF
  exact ⟨s₂, o, XS.ishr X.here hx rfl (hb hby hd) rfl h1, h2⟩
theorem w_iushr (ok : Ok Z K code own nm maxL ret) {x y : Int32} (hd : Fet code pc pc' (.iushr) 1)  (hr : Wp l R n0 K Q h k n pc' Ls (.int ((x.toUInt32 >>> (y &&& 31).toUInt32).toInt32) :: st)) : Wp l R n0 K Q h k n pc Ls (.int y :: .int x :: st) := by
  obtain ⟨p, e, s, m, args, below, meth, c⟩ := K
  obtain ⟨hx, hby, hZ, hown, hnm, hml, hret, hlk⟩ := ok
  obtain ⟨hd, rfl⟩ := hd
  intro T locs X hT hF
  obtain ⟨s₂, o, h1, h2⟩ := hr T locs X hT hF
  exact ⟨s₂, o, XS.iushr X.here hx rfl (hb hby hd) rfl h1, h2⟩
theorem w_lshl (ok : Ok Z K code own nm maxL ret) {x : Int64} {y : Int32} (hd : Fet code pc pc' (.lshl) 1)  (hr : Wp l R n0 K Q h k n pc' Ls (.long (x <<< (y &&& 0x3f).toInt64) :: st)) : Wp l R n0 K Q h k n pc Ls (.int y :: .long x :: st) := by
  obtain ⟨p, e, s, m, args, below, meth, c⟩ := K
  obtain ⟨hx, hby, hZ, hown, hnm, hml, hret, hlk⟩ := ok
  obtain ⟨hd, rfl⟩ := hd
  intro T locs X hT hF
  obtain ⟨s₂, o, h1, h2⟩ := hr T locs X hT hF
  exact ⟨s₂, o, XS.lshl X.here hx rfl (hb hby hd) rfl h1, h2⟩
theorem w_lshr (ok : Ok Z K code own nm maxL ret) {x : Int64} {y : Int32} (hd : Fet code pc pc' (.lshr) 1)  (hr : Wp l R n0 K Q h k n pc' Ls (.long (x >>> (y &&& 0x3f).toInt64) :: st)) : Wp l R n0 K Q h k n pc Ls (.int y :: .long x :: st) := by
  obtain ⟨p, e, s, m, args, below, meth, c⟩ := K
  obtain ⟨hx, hby, hZ, hown, hnm, hml, hret, hlk⟩ := ok
  obtain ⟨hd, rfl⟩ := hd
  intro T locs X hT hF
  obtain ⟨s₂, o, h1, h2⟩ := hr T locs X hT hF
  exact ⟨s₂, o, XS.lshr X.here hx rfl (hb hby hd) rfl h1, h2⟩
theorem w_lushr (ok : Ok Z K code own nm maxL ret) {x : Int64} {y : Int32} (hd : Fet code pc pc' (.lushr) 1)  (hr : Wp l R n0 K Q h k n pc' Ls (.long ((x.toUInt64 >>> (y &&& 0x3f).toInt64.toUInt64).toInt64) :: st)) : Wp l R n0 K Q h k n pc Ls (.int y :: .long x :: st) := by
  obtain ⟨p, e, s, m, args, below, meth, c⟩ := K
  obtain ⟨hx, hby, hZ, hown, hnm, hml, hret, hlk⟩ := ok
  obtain ⟨hd, rfl⟩ := hd
  intro T locs X hT hF
  obtain ⟨s₂, o, h1, h2⟩ := hr T locs X hT hF
  exact ⟨s₂, o, XS.lushr X.here hx rfl (hb hby hd) rfl h1, h2⟩
theorem w_idiv (ok : Ok Z K code own nm maxL ret) {x y : Int32} (hd : Fet code pc pc' (.idiv) 1) (hy : y ≠ 0) (hr : Wp l R n0 K Q h k n pc' Ls (.int (x / y) :: st)) : Wp l R n0 K Q h k n pc Ls (.int y :: .int x :: st) := by
  obtain ⟨p, e, s, m, args, below, meth, c⟩ := K
  obtain ⟨hx, hby, hZ, hown, hnm, hml, hret, hlk⟩ := ok
  obtain ⟨hd, rfl⟩ := hd
  intro T locs X hT hF
  obtain ⟨s₂, o, h1, h2⟩ := hr T locs X hT hF
  exact ⟨s₂, o, XS.idiv X.here hx rfl (hb hby hd) rfl hy h1, h2⟩
theorem w_ldiv (ok : Ok Z K code own nm maxL ret) {x y : Int64} (hd : Fet code pc pc' (.ldiv) 1) (hy : y ≠ 0) (hr : Wp l R n0 K Q h k n pc' Ls (.long (x / y) :: st)) : Wp l R n0 K Q h k n pc Ls (.long y :: .long x :: st) := by
  obtain ⟨p, e, s, m, args, below, meth, c⟩ := K
  obtain ⟨hx, hby, hZ, hown, hnm, hml, hret, hlk⟩ := ok
  obtain ⟨hd, rfl⟩ := hd
  intro T locs X hT hF
  obtain ⟨s₂, o, h1, h2⟩ := hr T locs X hT hF
  exact ⟨s₂, o, XS.ldiv X.here hx rfl (hb hby hd) rfl hy h1, h2⟩
theorem w_ineg (ok : Ok Z K code own nm maxL ret) {x : Int32} (hd : Fet code pc pc' (.ineg) 1)  (hr : Wp l R n0 K Q h k n pc' Ls (.int (-x) :: st)) : Wp l R n0 K Q h k n pc Ls (.int x :: st) := by
  obtain ⟨p, e, s, m, args, below, meth, c⟩ := K
  obtain ⟨hx, hby, hZ, hown, hnm, hml, hret, hlk⟩ := ok
  obtain ⟨hd, rfl⟩ := hd
  intro T locs X hT hF
  obtain ⟨s₂, o, h1, h2⟩ := hr T locs X hT hF
  exact ⟨s₂, o, XS.ineg X.here hx rfl (hb hby hd) rfl h1, h2⟩
theorem w_lneg (ok : Ok Z K code own nm maxL ret) {x : Int64} (hd : Fet code pc pc' (.lneg) 1)  (hr : Wp l R n0 K Q h k n pc' Ls (.long (-x) :: st)) : Wp l R n0 K Q h k n pc Ls (.long x :: st) := by
  obtain ⟨p, e, s, m, args, below, meth, c⟩ := K
  obtain ⟨hx, hby, hZ, hown, hnm, hml, hret, hlk⟩ := ok
  obtain ⟨hd, rfl⟩ := hd
  intro T locs X hT hF
  obtain ⟨s₂, o, h1, h2⟩ := hr T locs X hT hF
  exact ⟨s₂, o, XS.lneg X.here hx rfl (hb hby hd) rfl h1, h2⟩
theorem w_i2l (ok : Ok Z K code own nm maxL ret) {x : Int32} (hd : Fet code pc pc' (.i2l) 1)  (hr : Wp l R n0 K Q h k n pc' Ls (.long x.toInt64 :: st)) : Wp l R n0 K Q h k n pc Ls (.int x :: st) := by
  obtain ⟨p, e, s, m, args, below, meth, c⟩ := K
  obtain ⟨hx, hby, hZ, hown, hnm, hml, hret, hlk⟩ := ok
  obtain ⟨hd, rfl⟩ := hd
  intro T locs X hT hF
  obtain ⟨s₂, o, h1, h2⟩ := hr T locs X hT hF
  exact ⟨s₂, o, XS.i2l X.here hx rfl (hb hby hd) rfl h1, h2⟩
theorem w_l2i (ok : Ok Z K code own nm maxL ret) {x : Int64} (hd : Fet code pc pc' (.l2i) 1)  (hr : Wp l R n0 K Q h k n pc' Ls (.int x.toInt32 :: st)) : Wp l R n0 K Q h k n pc Ls (.long x :: st) := by
  obtain ⟨p, e, s, m, args, below, meth, c⟩ := K
  obtain ⟨hx, hby, hZ, hown, hnm, hml, hret, hlk⟩ := ok
  obtain ⟨hd, rfl⟩ := hd
  intro T locs X hT hF
  obtain ⟨s₂, o, h1, h2⟩ := hr T locs X hT hF
  exact ⟨s₂, o, XS.l2i X.here hx rfl (hb hby hd) rfl h1, h2⟩
theorem w_i2b (ok : Ok Z K code own nm maxL ret) {x : Int32} (hd : Fet code pc pc' (.i2b) 1)  (hr : Wp l R n0 K Q h k n pc' Ls (.int x.toInt8.toInt32 :: st)) : Wp l R n0 K Q h k n pc Ls (.int x :: st) := by
  obtain ⟨p, e, s, m, args, below, meth, c⟩ := K
  obtain ⟨hx, hby, hZ, hown, hnm, hml, hret, hlk⟩ := ok
  obtain ⟨hd, rfl⟩ := hd
  intro T locs X hT hF
  obtain ⟨s₂, o, h1, h2⟩ := hr T locs X hT hF
  exact ⟨s₂, o, XS.i2b X.here hx rfl (hb hby hd) rfl h1, h2⟩
theorem w_i2s (ok : Ok Z K code own nm maxL ret) {x : Int32} (hd : Fet code pc pc' (.i2s) 1)  (hr : Wp l R n0 K Q h k n pc' Ls (.int x.toInt16.toInt32 :: st)) : Wp l R n0 K Q h k n pc Ls (.int x :: st) := by
  obtain ⟨p, e, s, m, args, below, meth, c⟩ := K
  obtain ⟨hx, hby, hZ, hown, hnm, hml, hret, hlk⟩ := ok
  obtain ⟨hd, rfl⟩ := hd
  intro T locs X hT hF
  obtain ⟨s₂, o, h1, h2⟩ := hr T locs X hT hF
  exact ⟨s₂, o, XS.i2s X.here hx rfl (hb hby hd) rfl h1, h2⟩
theorem w_i2c (ok : Ok Z K code own nm maxL ret) {x : Int32} (hd : Fet code pc pc' (.i2c) 1)  (hr : Wp l R n0 K Q h k n pc' Ls (.int x.toUInt32.toUInt16.toUInt32.toInt32 :: st)) : Wp l R n0 K Q h k n pc Ls (.int x :: st) := by
  obtain ⟨p, e, s, m, args, below, meth, c⟩ := K
  obtain ⟨hx, hby, hZ, hown, hnm, hml, hret, hlk⟩ := ok
  obtain ⟨hd, rfl⟩ := hd
  intro T locs X hT hF
  obtain ⟨s₂, o, h1, h2⟩ := hr T locs X hT hF
  exact ⟨s₂, o, XS.i2c X.here hx rfl (hb hby hd) rfl h1, h2⟩
theorem w_dup (ok : Ok Z K code own nm maxL ret) {x : Value} (hd : Fet code pc pc' (.dup) 1) (hc : x.category = 1) (hr : Wp l R n0 K Q h k n pc' Ls (x :: x :: st)) : Wp l R n0 K Q h k n pc Ls (x :: st) := by
  obtain ⟨p, e, s, m, args, below, meth, c⟩ := K
  obtain ⟨hx, hby, hZ, hown, hnm, hml, hret, hlk⟩ := ok
  obtain ⟨hd, rfl⟩ := hd
  intro T locs X hT hF
  obtain ⟨s₂, o, h1, h2⟩ := hr T locs X hT hF
  exact ⟨s₂, o, XS.dup X.here hx rfl (hb hby hd) rfl hc h1, h2⟩
theorem w_pop (ok : Ok Z K code own nm maxL ret) {x : Value} (hd : Fet code pc pc' (.pop) 1) (hc : x.category = 1) (hr : Wp l R n0 K Q h k n pc' Ls st) : Wp l R n0 K Q h k n pc Ls (x :: st) := by
  obtain ⟨p, e, s, m, args, below, meth, c⟩ := K
  obtain ⟨hx, hby, hZ, hown, hnm, hml, hret, hlk⟩ := ok
  obtain ⟨hd, rfl⟩ := hd
  intro T locs X hT hF
  obtain ⟨s₂, o, h1, h2⟩ := hr T locs X hT hF
  exact ⟨s₂, o, XS.pop X.here hx rfl (hb hby hd) rfl hc h1, h2⟩
theorem w_dupX1 (ok : Ok Z K code own nm maxL ret) {x y : Value} (hd : Fet code pc pc' (.dup_x1) 1) (hc : x.category = 1) (hc' : y.category = 1) (hr : Wp l R n0 K Q h k n pc' Ls (x :: y :: x :: st)) : Wp l R n0 K Q h k n pc Ls (x :: y :: st) := by
  obtain ⟨p, e, s, m, args, below, meth, c⟩ := K
  obtain ⟨hx, hby, hZ, hown, hnm, hml, hret, hlk⟩ := ok
  obtain ⟨hd, rfl⟩ := hd
  intro T locs X hT hF
  obtain ⟨s₂, o, h1, h2⟩ := hr T locs X hT hF
  exact ⟨s₂, o, XS.dupX1 X.here hx rfl (hb hby hd) rfl hc hc' h1, h2⟩
theorem w_dup2 (ok : Ok Z K code own nm maxL ret) {x y : Value} (hd : Fet code pc pc' (.dup2) 1) (hc : x.category = 1) (hc' : y.category = 1) (hr : Wp l R n0 K Q h k n pc' Ls (x :: y :: x :: y :: st)) : Wp l R n0 K Q h k n pc Ls (x :: y :: st) := by
  obtain ⟨p, e, s, m, args, below, meth, c⟩ := K
  obtain ⟨hx, hby, hZ, hown, hnm, hml, hret, hlk⟩ := ok
  obtain ⟨hd, rfl⟩ := hd
  intro T locs X hT hF
  obtain ⟨s₂, o, h1, h2⟩ := hr T locs X hT hF
  exact ⟨s₂, o, Jvm.Free.XT.dup2 X.here hx rfl (hb hby hd) rfl hc hc' h1, h2⟩
theorem w_dup2L (ok : Ok Z K code own nm maxL ret) {x : Int64} (hd : Fet code pc pc' (.dup2) 1)  (hr : Wp l R n0 K Q h k n pc' Ls (.long x :: .long x :: st)) : Wp l R n0 K Q h k n pc Ls (.long x :: st) := by
  obtain ⟨p, e, s, m, args, below, meth, c⟩ := K
  obtain ⟨hx, hby, hZ, hown, hnm, hml, hret, hlk⟩ := ok
  obtain ⟨hd, rfl⟩ := hd
  intro T locs X hT hF
  obtain ⟨s₂, o, h1, h2⟩ := hr T locs X hT hF
  exact ⟨s₂, o, Jvm.Free.XT.dup2L X.here hx rfl (hb hby hd) rfl h1, h2⟩
theorem w_irem (ok : Ok Z K code own nm maxL ret) {x y : Int32} (hd : Fet code pc pc' (.irem) 1) (hy : y ≠ 0) (hr : Wp l R n0 K Q h k n pc' Ls (.int (x % y) :: st)) : Wp l R n0 K Q h k n pc Ls (.int y :: .int x :: st) := by
  obtain ⟨p, e, s, m, args, below, meth, c⟩ := K
  obtain ⟨hx, hby, hZ, hown, hnm, hml, hret, hlk⟩ := ok
  obtain ⟨hd, rfl⟩ := hd
  intro T locs X hT hF
  obtain ⟨s₂, o, h1, h2⟩ := hr T locs X hT hF
  exact ⟨s₂, o, iremM X hx rfl (hb hby hd) rfl hy h1, h2⟩
theorem lrem_mod (x y : Int64) : x - (x / y) * y = x % y := by
  apply Int64.toInt_inj.mp
  have h1 := Int64.le_toInt (x % y)
  have h2 := Int64.toInt_lt (x % y)
  rw [Int64.toInt_sub, Int64.toInt_mul, Int64.toInt_div, Int.bmod_mul_bmod, Int.sub_bmod_bmod, Int.mul_comm (x.toInt.tdiv y.toInt), ← Int.tmod_def, ← Int64.toInt_mod]
  exact Int.bmod_eq_of_le_mul_two (by omega) (by omega)

theorem w_lrem (ok : Ok Z K code own nm maxL ret) {x y : Int64} (hd : Fet code pc pc' (.lrem) 1) (hy : y ≠ 0) (hr : Wp l R n0 K Q h k n pc' Ls (.long (x % y) :: st)) : Wp l R n0 K Q h k n pc Ls (.long y :: .long x :: st) := by
  obtain ⟨p, e, s, m, args, below, meth, c⟩ := K
  obtain ⟨hx, hby, hZ, hown, hnm, hml, hret, hlk⟩ := ok
  obtain ⟨hd, rfl⟩ := hd
  intro T locs X hT hF
  obtain ⟨s₂, o, h1, h2⟩ := hr T locs X hT hF
  exact ⟨s₂, o, XS.lrem X.here hx rfl (hb hby hd) rfl hy (by rw [lrem_mod]; exact h1), h2⟩
theorem w_ldc (ok : Ok Z K code own nm maxL ret) {i : Nat} {x : Int32} (w : (Cond.constant own i x).before a0 Z = true) (hd : Fet code pc pc' (.ldc i) 2) (hr : Wp l R n0 K Q h k n pc' Ls (.int x :: st)) : Wp l R n0 K Q h k n pc Ls st := by
  obtain ⟨p, e, s, m, args, below, meth, c⟩ := K
  obtain ⟨hx, hby, hZ, hown, hnm, hml, hret, hlk⟩ := ok
  obtain ⟨hd, rfl⟩ := hd
  intro T locs X hT hF
  obtain ⟨s₂, o, h1, h2⟩ := hr T locs X hT hF
  exact ⟨s₂, o, X.ldcInt hx hown (mvT hZ w) (g := mkF m pc Ls st) rfl (hb hby hd) _ h1, h2⟩
theorem w_ldc2 (ok : Ok Z K code own nm maxL ret) {i : Nat} {x : Int64} (w : (Cond.constantLong own i x).before a0 Z = true) (hd : Fet code pc pc' (.ldc2_w i) 3) (hr : Wp l R n0 K Q h k n pc' Ls (.long x :: st)) : Wp l R n0 K Q h k n pc Ls st := by
  obtain ⟨p, e, s, m, args, below, meth, c⟩ := K
  obtain ⟨hx, hby, hZ, hown, hnm, hml, hret, hlk⟩ := ok
  obtain ⟨hd, rfl⟩ := hd
  intro T locs X hT hF
  obtain ⟨s₂, o, h1, h2⟩ := hr T locs X hT hF
  exact ⟨s₂, o, X.ldc2Long hx hown (mvT hZ w) (g := mkF m pc Ls st) rfl (hb hby hd) _ h1, h2⟩
theorem w_goto (ok : Ok Z K code own nm maxL ret) {pcN : Nat} {o : Int} (hd : Brn code pc pcN pc' (.goto o) o) (hr : Wp l R n0 K Q h k n pc' Ls st) : Wp l R n0 K Q h k n pc Ls st := by
  obtain ⟨p, e, s, m, args, below, meth, c⟩ := K
  obtain ⟨hx, hby, hZ, hown, hnm, hml, hret, hlk⟩ := ok
  obtain ⟨hd, rfl, ho, hp⟩ := hd
  intro T locs X hT hF
  obtain ⟨s₂, o, h1, h2⟩ := hr T locs X hT hF
  exact ⟨s₂, o, XS.goto X.here hx rfl rfl (hb hby hd) ho hp h1, h2⟩
theorem w_if0 (ok : Ok Z K code own nm maxL ret) {pcN pcT : Nat} {o : Int} {cd : ClassFile.Cond} {x : Int32} (hd : Brn code pc pcN pcT (.ifCond cd o) o) (hy : ifCond.holds cd x = true → Wp l R n0 K Q h k n pcT Ls st) (hn : ifCond.holds cd x = false → Wp l R n0 K Q h k n pcN Ls st) : Wp l R n0 K Q h k n pc Ls (.int x :: st) := by
  obtain ⟨p, e, s, m, args, below, meth, c⟩ := K
  obtain ⟨hx, hby, hZ, hown, hnm, hml, hret, hlk⟩ := ok
  obtain ⟨hd, rfl, ho, hp⟩ := hd
  intro T locs X hT hF
  cases hc : ifCond.holds cd x
  · obtain ⟨s₂, o, h1, h2⟩ := hn hc T locs X hT hF
    exact ⟨s₂, o, XS.ifNo X.here hx rfl (hb hby hd) rfl hc h1, h2⟩
  · obtain ⟨s₂, o, h1, h2⟩ := hy hc T locs X hT hF
    exact ⟨s₂, o, XS.ifYes X.here hx rfl rfl (hb hby hd) rfl hc ho hp h1, h2⟩
theorem w_ic (ok : Ok Z K code own nm maxL ret) {pcN pcT : Nat} {o : Int} {cd : ClassFile.Cond} {x y : Int32} (hd : Brn code pc pcN pcT (.if_icmp cd o) o) (hy : if_icmp.holds cd x y = true → Wp l R n0 K Q h k n pcT Ls st) (hn : if_icmp.holds cd x y = false → Wp l R n0 K Q h k n pcN Ls st) : Wp l R n0 K Q h k n pc Ls (.int y :: .int x :: st) := by
  obtain ⟨p, e, s, m, args, below, meth, c⟩ := K
  obtain ⟨hx, hby, hZ, hown, hnm, hml, hret, hlk⟩ := ok
  obtain ⟨hd, rfl, ho, hp⟩ := hd
  intro T locs X hT hF
  cases hc : if_icmp.holds cd x y
  · obtain ⟨s₂, o, h1, h2⟩ := hn hc T locs X hT hF
    exact ⟨s₂, o, XS.icmpNo X.here hx rfl (hb hby hd) rfl hc h1, h2⟩
  · obtain ⟨s₂, o, h1, h2⟩ := hy hc T locs X hT hF
    exact ⟨s₂, o, XS.icmpYes X.here hx rfl rfl (hb hby hd) rfl hc ho hp h1, h2⟩
theorem w_lcmp (ok : Ok Z K code own nm maxL ret) {x y : Int64} (hd : Fet code pc pc' .lcmp 1) (hr : Wp l R n0 K Q h k n pc' Ls (.int (lcmpW x y) :: st)) : Wp l R n0 K Q h k n pc Ls (.long y :: .long x :: st) := by
  obtain ⟨p, e, s, m, args, below, meth, c⟩ := K
  obtain ⟨hx, hby, hZ, hown, hnm, hml, hret, hlk⟩ := ok
  obtain ⟨hd, rfl⟩ := hd
  intro T locs X hT hF
  obtain ⟨s₂, o, h1, h2⟩ := hr T locs X hT hF
  exact ⟨s₂, o, XS.lcmp X.here hx rfl (hb hby hd) rfl h1, h2⟩
theorem h_eq {x y : Int32} : if_icmp.holds .eq x y = decide (x = y) := by rw [Bool.eq_iff_iff]; simp [if_icmp.holds]
theorem h_ne {x y : Int32} : if_icmp.holds .ne x y = decide (¬ x = y) := by rw [Bool.eq_iff_iff]; simp [if_icmp.holds]
theorem h_lt {x y : Int32} : if_icmp.holds .lt x y = decide (x < y) := by simp [if_icmp.holds]
theorem h_ge {x y : Int32} : if_icmp.holds .ge x y = decide (¬ x < y) := by simp [if_icmp.holds]
theorem h_gt {x y : Int32} : if_icmp.holds .gt x y = decide (y < x) := by simp [if_icmp.holds]
theorem h_le {x y : Int32} : if_icmp.holds .le x y = decide (¬ y < x) := by simp [if_icmp.holds]
theorem w_ic_eq (ok : Ok Z K code own nm maxL ret) {pcN pcT : Nat} {o : Int} {x y : Int32} (hd : Brn code pc pcN pcT (.if_icmp .eq o) o) (hy : x = y → Wp l R n0 K Q h k n pcT Ls st) (hn : ¬ x = y → Wp l R n0 K Q h k n pcN Ls st) : Wp l R n0 K Q h k n pc Ls (.int y :: .int x :: st) :=
  w_ic ok hd (fun q => hy (by rw [h_eq] at q; simpa using q)) (fun q => hn (by rw [h_eq] at q; simpa using q))
theorem w_if_eq (ok : Ok Z K code own nm maxL ret) {pcN pcT : Nat} {o : Int} {x : Int32} (hd : Brn code pc pcN pcT (.ifCond .eq o) o) (hy : x = 0 → Wp l R n0 K Q h k n pcT Ls st) (hn : ¬ x = 0 → Wp l R n0 K Q h k n pcN Ls st) : Wp l R n0 K Q h k n pc Ls (.int x :: st) :=
  w_if0 ok hd (fun q => hy (by rw [if0, h_eq] at q; simpa using q)) (fun q => hn (by rw [if0, h_eq] at q; simpa using q))
theorem w_lc_eq (ok : Ok Z K code own nm maxL ret) {pcM pcN pcT : Nat} {o : Int} {x y : Int64} (hd1 : Fet code pc pcM .lcmp 1) (hd : Brn code pcM pcN pcT (.ifCond .eq o) o) (hy : x = y → Wp l R n0 K Q h k n pcT Ls st) (hn : ¬ x = y → Wp l R n0 K Q h k n pcN Ls st) : Wp l R n0 K Q h k n pc Ls (.long y :: .long x :: st) :=
  w_lcmp ok hd1 (w_if_eq ok hd (fun q => hy ((lw_eq x y).mp q)) (fun q => hn (fun r => q ((lw_eq x y).mpr r))))
theorem w_ic_ne (ok : Ok Z K code own nm maxL ret) {pcN pcT : Nat} {o : Int} {x y : Int32} (hd : Brn code pc pcN pcT (.if_icmp .ne o) o) (hy : ¬ x = y → Wp l R n0 K Q h k n pcT Ls st) (hn : x = y → Wp l R n0 K Q h k n pcN Ls st) : Wp l R n0 K Q h k n pc Ls (.int y :: .int x :: st) :=
  w_ic ok hd (fun q => hy (by rw [h_ne] at q; simpa using q)) (fun q => hn (by rw [h_ne] at q; simpa using q))
theorem w_if_ne (ok : Ok Z K code own nm maxL ret) {pcN pcT : Nat} {o : Int} {x : Int32} (hd : Brn code pc pcN pcT (.ifCond .ne o) o) (hy : ¬ x = 0 → Wp l R n0 K Q h k n pcT Ls st) (hn : x = 0 → Wp l R n0 K Q h k n pcN Ls st) : Wp l R n0 K Q h k n pc Ls (.int x :: st) :=
  w_if0 ok hd (fun q => hy (by rw [if0, h_ne] at q; simpa using q)) (fun q => hn (by rw [if0, h_ne] at q; simpa using q))
theorem w_lc_ne (ok : Ok Z K code own nm maxL ret) {pcM pcN pcT : Nat} {o : Int} {x y : Int64} (hd1 : Fet code pc pcM .lcmp 1) (hd : Brn code pcM pcN pcT (.ifCond .ne o) o) (hy : ¬ x = y → Wp l R n0 K Q h k n pcT Ls st) (hn : x = y → Wp l R n0 K Q h k n pcN Ls st) : Wp l R n0 K Q h k n pc Ls (.long y :: .long x :: st) :=
  w_lcmp ok hd1 (w_if_ne ok hd (fun q => hy (fun r => q ((lw_eq x y).mpr r))) (fun q => hn ((lw_eq x y).mp q)))
theorem w_ic_lt (ok : Ok Z K code own nm maxL ret) {pcN pcT : Nat} {o : Int} {x y : Int32} (hd : Brn code pc pcN pcT (.if_icmp .lt o) o) (hy : x < y → Wp l R n0 K Q h k n pcT Ls st) (hn : ¬ x < y → Wp l R n0 K Q h k n pcN Ls st) : Wp l R n0 K Q h k n pc Ls (.int y :: .int x :: st) :=
  w_ic ok hd (fun q => hy (by rw [h_lt] at q; simpa using q)) (fun q => hn (by rw [h_lt] at q; simpa using q))
theorem w_if_lt (ok : Ok Z K code own nm maxL ret) {pcN pcT : Nat} {o : Int} {x : Int32} (hd : Brn code pc pcN pcT (.ifCond .lt o) o) (hy : x < 0 → Wp l R n0 K Q h k n pcT Ls st) (hn : ¬ x < 0 → Wp l R n0 K Q h k n pcN Ls st) : Wp l R n0 K Q h k n pc Ls (.int x :: st) :=
  w_if0 ok hd (fun q => hy (by rw [if0, h_lt] at q; simpa using q)) (fun q => hn (by rw [if0, h_lt] at q; simpa using q))
theorem w_lc_lt (ok : Ok Z K code own nm maxL ret) {pcM pcN pcT : Nat} {o : Int} {x y : Int64} (hd1 : Fet code pc pcM .lcmp 1) (hd : Brn code pcM pcN pcT (.ifCond .lt o) o) (hy : x < y → Wp l R n0 K Q h k n pcT Ls st) (hn : ¬ x < y → Wp l R n0 K Q h k n pcN Ls st) : Wp l R n0 K Q h k n pc Ls (.long y :: .long x :: st) :=
  w_lcmp ok hd1 (w_if_lt ok hd (fun q => hy ((lw_lt x y).mp q)) (fun q => hn (fun r => q ((lw_lt x y).mpr r))))
theorem w_ic_ge (ok : Ok Z K code own nm maxL ret) {pcN pcT : Nat} {o : Int} {x y : Int32} (hd : Brn code pc pcN pcT (.if_icmp .ge o) o) (hy : ¬ x < y → Wp l R n0 K Q h k n pcT Ls st) (hn : x < y → Wp l R n0 K Q h k n pcN Ls st) : Wp l R n0 K Q h k n pc Ls (.int y :: .int x :: st) :=
  w_ic ok hd (fun q => hy (by rw [h_ge] at q; simpa using q)) (fun q => hn (by rw [h_ge] at q; simpa using q))
theorem w_if_ge (ok : Ok Z K code own nm maxL ret) {pcN pcT : Nat} {o : Int} {x : Int32} (hd : Brn code pc pcN pcT (.ifCond .ge o) o) (hy : ¬ x < 0 → Wp l R n0 K Q h k n pcT Ls st) (hn : x < 0 → Wp l R n0 K Q h k n pcN Ls st) : Wp l R n0 K Q h k n pc Ls (.int x :: st) :=
  w_if0 ok hd (fun q => hy (by rw [if0, h_ge] at q; simpa using q)) (fun q => hn (by rw [if0, h_ge] at q; simpa using q))
theorem w_lc_ge (ok : Ok Z K code own nm maxL ret) {pcM pcN pcT : Nat} {o : Int} {x y : Int64} (hd1 : Fet code pc pcM .lcmp 1) (hd : Brn code pcM pcN pcT (.ifCond .ge o) o) (hy : ¬ x < y → Wp l R n0 K Q h k n pcT Ls st) (hn : x < y → Wp l R n0 K Q h k n pcN Ls st) : Wp l R n0 K Q h k n pc Ls (.long y :: .long x :: st) :=
  w_lcmp ok hd1 (w_if_ge ok hd (fun q => hy (fun r => q ((lw_lt x y).mpr r))) (fun q => hn ((lw_lt x y).mp q)))
theorem w_ic_gt (ok : Ok Z K code own nm maxL ret) {pcN pcT : Nat} {o : Int} {x y : Int32} (hd : Brn code pc pcN pcT (.if_icmp .gt o) o) (hy : y < x → Wp l R n0 K Q h k n pcT Ls st) (hn : ¬ y < x → Wp l R n0 K Q h k n pcN Ls st) : Wp l R n0 K Q h k n pc Ls (.int y :: .int x :: st) :=
  w_ic ok hd (fun q => hy (by rw [h_gt] at q; simpa using q)) (fun q => hn (by rw [h_gt] at q; simpa using q))
theorem w_if_gt (ok : Ok Z K code own nm maxL ret) {pcN pcT : Nat} {o : Int} {x : Int32} (hd : Brn code pc pcN pcT (.ifCond .gt o) o) (hy : 0 < x → Wp l R n0 K Q h k n pcT Ls st) (hn : ¬ 0 < x → Wp l R n0 K Q h k n pcN Ls st) : Wp l R n0 K Q h k n pc Ls (.int x :: st) :=
  w_if0 ok hd (fun q => hy (by rw [if0, h_gt] at q; simpa using q)) (fun q => hn (by rw [if0, h_gt] at q; simpa using q))
theorem w_lc_gt (ok : Ok Z K code own nm maxL ret) {pcM pcN pcT : Nat} {o : Int} {x y : Int64} (hd1 : Fet code pc pcM .lcmp 1) (hd : Brn code pcM pcN pcT (.ifCond .gt o) o) (hy : y < x → Wp l R n0 K Q h k n pcT Ls st) (hn : ¬ y < x → Wp l R n0 K Q h k n pcN Ls st) : Wp l R n0 K Q h k n pc Ls (.long y :: .long x :: st) :=
  w_lcmp ok hd1 (w_if_gt ok hd (fun q => hy ((lw_gt x y).mp q)) (fun q => hn (fun r => q ((lw_gt x y).mpr r))))
theorem w_ic_le (ok : Ok Z K code own nm maxL ret) {pcN pcT : Nat} {o : Int} {x y : Int32} (hd : Brn code pc pcN pcT (.if_icmp .le o) o) (hy : ¬ y < x → Wp l R n0 K Q h k n pcT Ls st) (hn : y < x → Wp l R n0 K Q h k n pcN Ls st) : Wp l R n0 K Q h k n pc Ls (.int y :: .int x :: st) :=
  w_ic ok hd (fun q => hy (by rw [h_le] at q; simpa using q)) (fun q => hn (by rw [h_le] at q; simpa using q))
theorem w_if_le (ok : Ok Z K code own nm maxL ret) {pcN pcT : Nat} {o : Int} {x : Int32} (hd : Brn code pc pcN pcT (.ifCond .le o) o) (hy : ¬ 0 < x → Wp l R n0 K Q h k n pcT Ls st) (hn : 0 < x → Wp l R n0 K Q h k n pcN Ls st) : Wp l R n0 K Q h k n pc Ls (.int x :: st) :=
  w_if0 ok hd (fun q => hy (by rw [if0, h_le] at q; simpa using q)) (fun q => hn (by rw [if0, h_le] at q; simpa using q))
theorem w_lc_le (ok : Ok Z K code own nm maxL ret) {pcM pcN pcT : Nat} {o : Int} {x y : Int64} (hd1 : Fet code pc pcM .lcmp 1) (hd : Brn code pcM pcN pcT (.ifCond .le o) o) (hy : ¬ y < x → Wp l R n0 K Q h k n pcT Ls st) (hn : y < x → Wp l R n0 K Q h k n pcN Ls st) : Wp l R n0 K Q h k n pc Ls (.long y :: .long x :: st) :=
  w_lcmp ok hd1 (w_if_le ok hd (fun q => hy (fun r => q ((lw_gt x y).mpr r))) (fun q => hn ((lw_gt x y).mp q)))
theorem w_ifnull_yes (ok : Ok Z K code own nm maxL ret) {pcN pcT : Nat} {o : Int} (hd : Brn code pc pcN pcT (.ifnull o) o) (hr : Wp l R n0 K Q h k n pcT Ls st) : Wp l R n0 K Q h k n pc Ls (.null :: st) := by
  obtain ⟨p, e, s, m, args, below, meth, c⟩ := K
  obtain ⟨hx, hby, hZ, hown, hnm, hml, hret, hlk⟩ := ok
  obtain ⟨hd, rfl, ho, hp⟩ := hd
  intro T locs X hT hF
  obtain ⟨s₂, o, h1, h2⟩ := hr T locs X hT hF
  exact ⟨s₂, o, XS.ifnullYes X.here hx rfl rfl (hb hby hd) rfl ho hp h1, h2⟩
theorem w_ifnull_no (ok : Ok Z K code own nm maxL ret) {pcN pcT : Nat} {o : Int} {b : Addr} (hd : Brn code pc pcN pcT (.ifnull o) o) (hr : Wp l R n0 K Q h k n pcN Ls st) : Wp l R n0 K Q h k n pc Ls (.ref b :: st) := by
  obtain ⟨p, e, s, m, args, below, meth, c⟩ := K
  obtain ⟨hx, hby, hZ, hown, hnm, hml, hret, hlk⟩ := ok
  obtain ⟨hd, rfl, ho, hp⟩ := hd
  intro T locs X hT hF
  obtain ⟨s₂, o, h1, h2⟩ := hr T locs X hT hF
  exact ⟨s₂, o, XS.ifnullNo X.here hx rfl (hb hby hd) rfl h1, h2⟩
theorem w_ifnonnull_yes (ok : Ok Z K code own nm maxL ret) {pcN pcT : Nat} {o : Int} {b : Addr} (hd : Brn code pc pcN pcT (.ifnonnull o) o) (hr : Wp l R n0 K Q h k n pcT Ls st) : Wp l R n0 K Q h k n pc Ls (.ref b :: st) := by
  obtain ⟨p, e, s, m, args, below, meth, c⟩ := K
  obtain ⟨hx, hby, hZ, hown, hnm, hml, hret, hlk⟩ := ok
  obtain ⟨hd, rfl, ho, hp⟩ := hd
  intro T locs X hT hF
  obtain ⟨s₂, o, h1, h2⟩ := hr T locs X hT hF
  exact ⟨s₂, o, XS.ifnonnullYes X.here hx rfl rfl (hb hby hd) rfl ho hp h1, h2⟩
theorem w_ifnonnull_no (ok : Ok Z K code own nm maxL ret) {pcN pcT : Nat} {o : Int} (hd : Brn code pc pcN pcT (.ifnonnull o) o) (hr : Wp l R n0 K Q h k n pcN Ls st) : Wp l R n0 K Q h k n pc Ls (.null :: st) := by
  obtain ⟨p, e, s, m, args, below, meth, c⟩ := K
  obtain ⟨hx, hby, hZ, hown, hnm, hml, hret, hlk⟩ := ok
  obtain ⟨hd, rfl, ho, hp⟩ := hd
  intro T locs X hT hF
  obtain ⟨s₂, o, h1, h2⟩ := hr T locs X hT hF
  exact ⟨s₂, o, XS.ifnonnullNo X.here hx rfl (hb hby hd) rfl h1, h2⟩
theorem w_acmp_eq (ok : Ok Z K code own nm maxL ret) {pcN pcT : Nat} {o : Int} {x y : Value} (hd : Brn code pc pcN pcT (.if_acmp .eq o) o) (hx' : x.isRef = true) (hy' : y.isRef = true) (hy : x = y → Wp l R n0 K Q h k n pcT Ls st) (hn : ¬ x = y → Wp l R n0 K Q h k n pcN Ls st) : Wp l R n0 K Q h k n pc Ls (y :: x :: st) := by
  obtain ⟨p, e, s, m, args, below, meth, c⟩ := K
  obtain ⟨hx, hby, hZ, hown, hnm, hml, hret, hlk⟩ := ok
  obtain ⟨hd, rfl, ho, hp⟩ := hd
  intro T locs X hT hF
  by_cases q : x = y
  · obtain ⟨s₂, o, h1, h2⟩ := hy q T locs X hT hF
    exact ⟨s₂, o, Jvm.RoadKit.acmp X hx rfl hx' hy' rfl (hb hby hd) rfl (decide_eq_true q) ho (by simp [acV, hp]) h1, h2⟩
  · obtain ⟨s₂, o, h1, h2⟩ := hn q T locs X hT hF
    exact ⟨s₂, o, Jvm.RoadKit.acmp X hx rfl hx' hy' rfl (hb hby hd) rfl (decide_eq_false q) ho (by simp [acV, hp]) h1, h2⟩
theorem w_acmp_ne (ok : Ok Z K code own nm maxL ret) {pcN pcT : Nat} {o : Int} {x y : Value} (hd : Brn code pc pcN pcT (.if_acmp .ne o) o) (hx' : x.isRef = true) (hy' : y.isRef = true) (hy : ¬ x = y → Wp l R n0 K Q h k n pcT Ls st) (hn : x = y → Wp l R n0 K Q h k n pcN Ls st) : Wp l R n0 K Q h k n pc Ls (y :: x :: st) := by
  obtain ⟨p, e, s, m, args, below, meth, c⟩ := K
  obtain ⟨hx, hby, hZ, hown, hnm, hml, hret, hlk⟩ := ok
  obtain ⟨hd, rfl, ho, hp⟩ := hd
  intro T locs X hT hF
  by_cases q : x = y
  · obtain ⟨s₂, o, h1, h2⟩ := hn q T locs X hT hF
    exact ⟨s₂, o, Jvm.RoadKit.acmp X hx rfl hx' hy' rfl (hb hby hd) rfl (decide_eq_true q) ho (by simp [acV, hp]) h1, h2⟩
  · obtain ⟨s₂, o, h1, h2⟩ := hy q T locs X hT hF
    exact ⟨s₂, o, Jvm.RoadKit.acmp X hx rfl hx' hy' rfl (hb hby hd) rfl (decide_eq_false q) ho (by simp [acV, hp]) h1, h2⟩
theorem w_return (ok : Ok Z K code own nm maxL none) (hd : Fet code pc pc' .return_ 1) (hk : k ≤ R.cells) (hn : n ≤ R.slots) (hQ : Q none h) : Wp l R n0 K Q h k n pc Ls [] := by
  obtain ⟨p, e, s, m, args, below, meth, c⟩ := K
  obtain ⟨hx, hby, hZ, hown, hnm, hml, hret, hlk⟩ := ok
  obtain ⟨hd, -⟩ := hd
  intro T locs X hT hF
  obtain ⟨fs, hr, hrun, hended, hW, hsame⟩ := X.leave (v := none) (fun _ => rfl) hlk
  refine ⟨_, _, X.returnOut hx hret (hb hby hd) hr, hrun, hended, _, locs, rfl, ⟨?_, hF⟩, ⟨_, rfl⟩, hW, hsame.mono hk hn⟩
  show Q _ T.heap
  rw [hT]; exact hQ
theorem w_ireturnN {t : FieldType} (ok : Ok Z K code own nm maxL (some t)) {x : Int32} (ht : t = .boolean ∨ t = .byte ∨ t = .char ∨ t = .short) (hd : Fet code pc pc' .ireturn 1) (hk : k ≤ R.cells) (hn : n ≤ R.slots) (hQ : Q (some (.int (nar t x))) h) : Wp l R n0 K Q h k n pc Ls (.int x :: st) := by
  obtain ⟨p, e, s, m, args, below, meth, c⟩ := K
  obtain ⟨hx, hby, hZ, hown, hnm, hml, hret, hlk⟩ := ok
  obtain ⟨hd, -⟩ := hd
  intro T locs X hT hF
  obtain ⟨fs, hr, hrun, hended, hW, hsame⟩ := X.leave (v := some (.int (nar t x))) (fun q => by rw [hret] at q; cases q) hlk
  refine ⟨_, _, retN X hx hret ht (hb hby hd) hr, hrun, hended, _, locs, rfl, ⟨?_, hF⟩, ⟨_, rfl⟩, hW, hsame.mono hk hn⟩
  show Q _ T.heap
  rw [hT]; exact hQ
theorem w_ireturnI (ok : Ok Z K code own nm maxL (some .int)) {x : Int32} (hd : Fet code pc pc' .ireturn 1) (hk : k ≤ R.cells) (hn : n ≤ R.slots) (hQ : Q (some (.int x)) h) : Wp l R n0 K Q h k n pc Ls (.int x :: st) := by
  obtain ⟨p, e, s, m, args, below, meth, c⟩ := K
  obtain ⟨hx, hby, hZ, hown, hnm, hml, hret, hlk⟩ := ok
  obtain ⟨hd, -⟩ := hd
  intro T locs X hT hF
  obtain ⟨fs, hr, hrun, hended, hW, hsame⟩ := X.leave (v := some (.int x)) (fun q => by rw [hret] at q; cases q) hlk
  refine ⟨_, _, retOut X hx hret (by rfl) (Or.inl ⟨rfl, Or.inl rfl, _, rfl⟩) (hb hby hd) hr, hrun, hended, _, locs, rfl, ⟨?_, hF⟩, ⟨_, rfl⟩, hW, hsame.mono hk hn⟩
  show Q _ T.heap
  rw [hT]; exact hQ
theorem w_lreturn (ok : Ok Z K code own nm maxL (some .long)) {x : Int64} (hd : Fet code pc pc' .lreturn 1) (hk : k ≤ R.cells) (hn : n ≤ R.slots) (hQ : Q (some (.long x)) h) : Wp l R n0 K Q h k n pc Ls (.long x :: st) := by
  obtain ⟨p, e, s, m, args, below, meth, c⟩ := K
  obtain ⟨hx, hby, hZ, hown, hnm, hml, hret, hlk⟩ := ok
  obtain ⟨hd, -⟩ := hd
  intro T locs X hT hF
  obtain ⟨fs, hr, hrun, hended, hW, hsame⟩ := X.leave (v := some (.long x)) (fun q => by rw [hret] at q; cases q) hlk
  refine ⟨_, _, retOut X hx hret (by rfl) (Or.inr (Or.inl ⟨rfl, rfl, _, rfl⟩)) (hb hby hd) hr, hrun, hended, _, locs, rfl, ⟨?_, hF⟩, ⟨_, rfl⟩, hW, hsame.mono hk hn⟩
  show Q _ T.heap
  rw [hT]; exact hQ
theorem w_areturn {t : FieldType} (ok : Ok Z K code own nm maxL (some t)) {x : Value} (ht : t.isReference = true) (hv : x.isRef = true) (hnar : narrow t x = x) (hd : Fet code pc pc' .areturn 1) (hk : k ≤ R.cells) (hn : n ≤ R.slots) (hQ : Q (some x) h) : Wp l R n0 K Q h k n pc Ls (x :: st) := by
  obtain ⟨p, e, s, m, args, below, meth, c⟩ := K
  obtain ⟨hx, hby, hZ, hown, hnm, hml, hret, hlk⟩ := ok
  obtain ⟨hd, -⟩ := hd
  intro T locs X hT hF
  obtain ⟨fs, hr, hrun, hended, hW, hsame⟩ := X.leave (v := some x) (fun q => by rw [hret] at q; cases q) hlk
  refine ⟨_, _, retOut X hx hret hnar (Or.inr (Or.inr (Or.inr (Or.inr ⟨rfl, ht, hv⟩)))) (hb hby hd) hr, hrun, hended, _, locs, rfl, ⟨?_, hF⟩, ⟨_, rfl⟩, hW, hsame.mono hk hn⟩
  show Q _ T.heap
  rw [hT]; exact hQ
theorem w_getfield (ok : Ok Z K code own nm maxL ret) {R0 O f d host : String} {i : Nat} {a : Addr} {x : Value} (w : (Cond.fieldLink own i R0 f d).before a0 Z = true ∨ (Cond.fieldLinkNest own i R0 f d host).before a0 Z = true) (via : Via Z R0 O f d) (F : Fld Z h a O f d x) (hd : Fet code pc pc' (.getfield i) 3) (hr : Wp l R n0 K Q h k n pc' Ls (x :: st)) : Wp l R n0 K Q h k n pc Ls (.ref a :: st) := by
  obtain ⟨p, e, s, m, args, below, meth, c⟩ := K
  obtain ⟨hx, hby, hZ, hown, hnm, hml, hret, hlk⟩ := ok
  obtain ⟨hd, rfl⟩ := hd
  intro T locs X hT hF
  obtain ⟨T', X', e', stp⟩ := getF X hx hZ hown w via hT F (g := mkF m pc Ls (.ref a :: st)) rfl rfl (hb hby hd)
  obtain ⟨s₂, o, h1, h2⟩ := hr T' locs X' e' hF
  exact ⟨s₂, o, stp _ h1, h2⟩
theorem w_getstatic (ok : Ok Z K code own nm maxL ret) {R0 O f d : String} {i : Nat} {x : Value} (w : (Cond.fieldLink own i R0 f d).before a0 Z = true) (via : Via Z R0 O f d) (F : Sta Z h O f d x) (hd : Fet code pc pc' (.getstatic i) 3) (hr : Wp l R n0 K Q h k n pc' Ls (x :: st)) : Wp l R n0 K Q h k n pc Ls st := by
  obtain ⟨p, e, s, m, args, below, meth, c⟩ := K
  obtain ⟨hx, hby, hZ, hown, hnm, hml, hret, hlk⟩ := ok
  obtain ⟨hd, rfl⟩ := hd
  intro T locs X hT hF
  obtain ⟨T', X', e', stp⟩ := getS (host := "") X hx hZ hown w via hT F (g := mkF m pc Ls st) rfl (hb hby hd)
  obtain ⟨s₂, o, h1, h2⟩ := hr T' locs X' e' hF
  exact ⟨s₂, o, stp _ h1, h2⟩
theorem w_putfield (ok : Ok Z K code own nm maxL ret) {R0 O f d host C : String} {i kk : Nat} {ty : FieldType} {a : Addr} {x old : Value} (w : (Cond.fieldLink own i R0 f d).before a0 Z = true ∨ (Cond.fieldLinkNest own i R0 f d host).before a0 Z = true) (via : Via Z R0 O f d) (F : Fld Z h a O f d old) (E : Exa Z h a C)
    (L : (Cond.lays C O f d).before a0 Z = true ∨ ((Cond.laysFinal C O f d).before a0 Z = true ∧ own = O ∧ nm = "<init>")) (wi : (Cond.instantiable C kk).before a0 Z = true) (hty : parseFieldDescriptor d = some ty) (hna : narrow ty x = x) (hfi : fits ty x = true) (ha : n0 ≤ a) (hd : Fet code pc pc' (.putfield i) 3)
    (hr : ∀ h', Wr h h' a (Jvm.RoadKit.slotOf Z O f d) x → Wp l R n0 K Q h' k n pc' Ls st) : Wp l R n0 K Q h k n pc Ls (x :: .ref a :: st) := by
  obtain ⟨p, e, s, m, args, below, meth, c⟩ := K
  obtain ⟨hx, hby, hZ, hown, hnm, hml, hret, hlk⟩ := ok
  obtain ⟨hd, rfl⟩ := hd
  intro T locs X hT hF
  obtain ⟨T', h', X', e', W', stp⟩ := putF X hx hZ hown w via hT F E (L.imp id fun q => ⟨q.1, q.2.1, hnm.trans q.2.2⟩) wi hty hna hfi (g := mkF m pc Ls (x :: .ref a :: st)) rfl rfl (hb hby hd)
  obtain ⟨s₂, o, h1, h2⟩ := hr h' W' T' _ X' e' (Fr.snoc X' hF ha)
  exact ⟨s₂, o, stp _ h1, h2⟩
theorem w_putfieldN (ok : Ok Z K code own nm maxL ret) {R0 O f d C : String} {i kk : Nat} {ty : FieldType} {a : Addr} {x x' old : Value} (w : (Cond.fieldLink own i R0 f d).before a0 Z = true) (via : Via Z R0 O f d) (F : Fld Z h a O f d old) (E : Exa Z h a C)
    (L : (Cond.lays C O f d).before a0 Z = true ∨ ((Cond.laysFinal C O f d).before a0 Z = true ∧ own = O ∧ nm = "<init>")) (wi : (Cond.instantiable C kk).before a0 Z = true) (hty : parseFieldDescriptor d = some ty) (hna : narrow ty x = x') (hfi : fits ty x' = true) (ha : n0 ≤ a) (hd : Fet code pc pc' (.putfield i) 3)
    (hr : ∀ h', Wr h h' a (Jvm.RoadKit.slotOf Z O f d) x' → Wp l R n0 K Q h' k n pc' Ls st) : Wp l R n0 K Q h k n pc Ls (x :: .ref a :: st) := by
  obtain ⟨p, e, s, m, args, below, meth, c⟩ := K
  obtain ⟨hx, hby, hZ, hown, hnm, hml, hret, hlk⟩ := ok
  obtain ⟨hd, rfl⟩ := hd
  intro T locs X hT hF
  obtain ⟨T', h', X', e', W', stp⟩ := putFN X hx hZ hown w via hT F E (L.imp id fun q => ⟨q.1, q.2.1, hnm.trans q.2.2⟩) wi hty hna hfi (g := mkF m pc Ls (x :: .ref a :: st)) rfl rfl (hb hby hd)
  obtain ⟨s₂, o, h1, h2⟩ := hr h' W' T' _ X' e' (Fr.snoc X' hF ha)
  exact ⟨s₂, o, stp _ h1, h2⟩
theorem w_new (ok : Ok Z K code own nm maxL ret) {C : String} {i nn : Nat} (w : (Cond.classLink own i C).before a0 Z = true) (wi : (Cond.instantiable C nn).before a0 Z = true) (wz : (Cond.initialized C).before a0 Z = true) (hd : Fet code pc pc' (.new i) 3) (ek : k + 1 = k') (en : n + nn = n') (hc : k' ≤ R.cells) (hl : n' ≤ R.slots)
    (hr : ∀ h' b, b = h.size → Ext h h' → Exa Z h' b C → (∀ {O f d : String} {ty : FieldType}, Laid Z a0 C O f d → parseFieldDescriptor d = some ty → Fld Z h' b O f d (defaultValue ty)) → Wp l R n0 K Q h' k' n' pc' Ls (.ref b :: st)) : Wp l R n0 K Q h k n pc Ls st := by
  obtain ⟨p, e, s, m, args, below, meth, c⟩ := K
  obtain ⟨hx, hby, hZ, hown, hnm, hml, hret, hlk⟩ := ok
  obtain ⟨hd, rfl⟩ := hd
  intro T locs X hT hF
  subst ek en
  obtain ⟨T', h', X', e', E', A', D', -, stp⟩ := newO X hx hZ hown w wi wz hT (g := mkF m pc Ls st) rfl (hb hby hd) hc hl
  obtain ⟨s₂, o, h1, h2⟩ := hr h' _ rfl E' A' D' T' _ X' e' hF
  exact ⟨s₂, o, stp _ h1, h2⟩
theorem w_newarray (ok : Ok Z K code own nm maxL ret) {aty : ArrayType} {z : Int32} {cap : Nat} (w : (Cond.arrayClass (newarray.typeOf aty)).before a0 Z = true) (hd : Fet code pc pc' (.newarray aty) 2) (hz : ¬ z < 0) (hcap : z.toNatClampNeg ≤ cap) (hb8 : cap * 8 ≤ 536870912) (ek : k + 1 = k') (en : n + cap = n') (hc : k' ≤ R.cells) (hl : n' ≤ R.slots)
    (hr : ∀ h' b cA, b = h.size → Ext h h' → Arr Z h' b (newA cA (newarray.typeOf aty) z) (newarray.typeOf aty) → Wp l R n0 K Q h' k' n' pc' Ls (.ref b :: st)) : Wp l R n0 K Q h k n pc Ls (.int z :: st) := by
  obtain ⟨p, e, s, m, args, below, meth, c⟩ := K
  obtain ⟨hx, hby, hZ, hown, hnm, hml, hret, hlk⟩ := ok
  obtain ⟨hd, rfl⟩ := hd
  intro T locs X hT hF
  subst ek en
  obtain ⟨T', h', cA, X', e', E', A', stp⟩ := newP X hx hZ w hT (g := mkF m pc Ls (.int z :: st)) rfl (hb hby hd) rfl hz hcap hb8 hc hl
  obtain ⟨s₂, o, h1, h2⟩ := hr h' _ cA rfl E' A' T' _ X' e' hF
  exact ⟨s₂, o, stp _ h1, h2⟩
theorem w_initO (ok : Ok Z K code own nm maxL ret) {i : Nat} {a : Addr} (w1 : (Cond.methodLink own i Lib.objectInit).before a0 Z = true) (w2 : (Cond.instanceMethod Lib.objectInit).before a0 Z = true) (w3 : (Cond.code Lib.objectInit ⟨#[0xb1]⟩ 1 none).before a0 Z = true) (hd : Fet code pc pc' (.invokespecial i) 3)
    (hsz : Ls.size = maxL) (hf : 1 ≤ R.frames) (hl : (st.map fun v => v.category).sum + 12 ≤ R.locals) (hr : Wp l R n0 K Q h k n pc' Ls st) : Wp l R n0 K Q h k n pc Ls (.ref a :: st) := by
  obtain ⟨p, e, s, m, args, below, meth, c⟩ := K
  obtain ⟨hx, hby, hZ, hown, hnm, hml, hret, hlk⟩ := ok
  obtain ⟨hd, rfl⟩ := hd
  intro T locs X hT hF
  obtain ⟨T', X', e', stp⟩ := initO X hx hZ hown w1 w2 w3 hT (g := mkF m pc Ls (.ref a :: st)) rfl (hsz.trans hml.symm) rfl (hb hby hd) hf (W := (st.map fun v => v.category).sum) (by show 2 * 0 + _ ≤ _; omega) hl
  obtain ⟨s₂, o, h1, h2⟩ := hr T' locs X' e' hF
  exact ⟨s₂, o, stp _ h1, h2⟩
theorem w_iastore (ok : Ok Z K code own nm maxL ret) {a : Addr} {cl : Cell} {j : Int32} {x : Int32} (A : Arr Z h a cl .int) (hj : ¬ (j < 0 ∨ cl.slots.size ≤ j.toNatClampNeg)) (ha : n0 ≤ a) (hd : Fet code pc pc' .iastore 1)
    (hr : ∀ h', Wr h h' a j.toNatClampNeg (.int x) → Wp l R n0 K Q h' k n pc' Ls st) : Wp l R n0 K Q h k n pc Ls ((.int x) :: .int j :: .ref a :: st) := by
  obtain ⟨p, e, s, m, args, below, meth, c⟩ := K
  obtain ⟨hx, hby, hZ, hown, hnm, hml, hret, hlk⟩ := ok
  obtain ⟨hd, rfl⟩ := hd
  intro T locs X hT hF
  obtain ⟨T', h', X', e', W', stp⟩ := stI X hx hZ hT A hj (g := mkF m pc Ls ((.int x) :: .int j :: .ref a :: st)) rfl rfl (hb hby hd)
  obtain ⟨s₂, o, h1, h2⟩ := hr h' W' T' _ X' e' (Fr.snoc X' hF ha)
  exact ⟨s₂, o, stp _ h1, h2⟩
theorem w_lastore (ok : Ok Z K code own nm maxL ret) {a : Addr} {cl : Cell} {j : Int32} {x : Int64} (A : Arr Z h a cl .long) (hj : ¬ (j < 0 ∨ cl.slots.size ≤ j.toNatClampNeg)) (ha : n0 ≤ a) (hd : Fet code pc pc' .lastore 1)
    (hr : ∀ h', Wr h h' a j.toNatClampNeg (.long x) → Wp l R n0 K Q h' k n pc' Ls st) : Wp l R n0 K Q h k n pc Ls ((.long x) :: .int j :: .ref a :: st) := by
  obtain ⟨p, e, s, m, args, below, meth, c⟩ := K
  obtain ⟨hx, hby, hZ, hown, hnm, hml, hret, hlk⟩ := ok
  obtain ⟨hd, rfl⟩ := hd
  intro T locs X hT hF
  obtain ⟨T', h', X', e', W', stp⟩ := stJ X hx hZ hT A hj (g := mkF m pc Ls ((.long x) :: .int j :: .ref a :: st)) rfl rfl (hb hby hd)
  obtain ⟨s₂, o, h1, h2⟩ := hr h' W' T' _ X' e' (Fr.snoc X' hF ha)
  exact ⟨s₂, o, stp _ h1, h2⟩
theorem w_castore (ok : Ok Z K code own nm maxL ret) {a : Addr} {cl : Cell} {j : Int32} {x : Int32} (A : Arr Z h a cl .char) (hj : ¬ (j < 0 ∨ cl.slots.size ≤ j.toNatClampNeg)) (ha : n0 ≤ a) (hd : Fet code pc pc' .castore 1)
    (hr : ∀ h', Wr h h' a j.toNatClampNeg (.int (nar .char x)) → Wp l R n0 K Q h' k n pc' Ls st) : Wp l R n0 K Q h k n pc Ls ((.int x) :: .int j :: .ref a :: st) := by
  obtain ⟨p, e, s, m, args, below, meth, c⟩ := K
  obtain ⟨hx, hby, hZ, hown, hnm, hml, hret, hlk⟩ := ok
  obtain ⟨hd, rfl⟩ := hd
  intro T locs X hT hF
  obtain ⟨T', h', X', e', W', stp⟩ := stC X hx hZ hT A hj (g := mkF m pc Ls ((.int x) :: .int j :: .ref a :: st)) rfl rfl (hb hby hd)
  obtain ⟨s₂, o, h1, h2⟩ := hr h' W' T' _ X' e' (Fr.snoc X' hF ha)
  exact ⟨s₂, o, stp _ h1, h2⟩
theorem w_bastoreB (ok : Ok Z K code own nm maxL ret) {a : Addr} {cl : Cell} {j : Int32} {x : Int32} (A : Arr Z h a cl .byte) (hj : ¬ (j < 0 ∨ cl.slots.size ≤ j.toNatClampNeg)) (ha : n0 ≤ a) (hd : Fet code pc pc' .bastore 1)
    (hr : ∀ h', Wr h h' a j.toNatClampNeg (.int (nar .byte x)) → Wp l R n0 K Q h' k n pc' Ls st) : Wp l R n0 K Q h k n pc Ls ((.int x) :: .int j :: .ref a :: st) := by
  obtain ⟨p, e, s, m, args, below, meth, c⟩ := K
  obtain ⟨hx, hby, hZ, hown, hnm, hml, hret, hlk⟩ := ok
  obtain ⟨hd, rfl⟩ := hd
  intro T locs X hT hF
  obtain ⟨T', h', X', e', W', stp⟩ := stB X hx hZ hT A hj (g := mkF m pc Ls ((.int x) :: .int j :: .ref a :: st)) rfl rfl (hb hby hd)
  obtain ⟨s₂, o, h1, h2⟩ := hr h' W' T' _ X' e' (Fr.snoc X' hF ha)
  exact ⟨s₂, o, stp _ h1, h2⟩
theorem w_bastoreZ (ok : Ok Z K code own nm maxL ret) {a : Addr} {cl : Cell} {j : Int32} {x : Int32} (A : Arr Z h a cl .boolean) (hj : ¬ (j < 0 ∨ cl.slots.size ≤ j.toNatClampNeg)) (ha : n0 ≤ a) (hd : Fet code pc pc' .bastore 1)
    (hr : ∀ h', Wr h h' a j.toNatClampNeg (.int (nar .boolean x)) → Wp l R n0 K Q h' k n pc' Ls st) : Wp l R n0 K Q h k n pc Ls ((.int x) :: .int j :: .ref a :: st) := by
  obtain ⟨p, e, s, m, args, below, meth, c⟩ := K
  obtain ⟨hx, hby, hZ, hown, hnm, hml, hret, hlk⟩ := ok
  obtain ⟨hd, rfl⟩ := hd
  intro T locs X hT hF
  obtain ⟨T', h', X', e', W', stp⟩ := stZ X hx hZ hT A hj (g := mkF m pc Ls ((.int x) :: .int j :: .ref a :: st)) rfl rfl (hb hby hd)
  obtain ⟨s₂, o, h1, h2⟩ := hr h' W' T' _ X' e' (Fr.snoc X' hF ha)
  exact ⟨s₂, o, stp _ h1, h2⟩
theorem w_callSV (ok : Ok Z K code own nm maxL ret) {y : MethodName} {bytes : ByteArray} {mL i : Nat} {rt : Option FieldType} {rm : Room} {Qc : Value → Heap → Prop} {argsL : List Value}  (w1 : (Cond.methodLink own i y).before a0 Z = true) (w2 : (Cond.static y).before a0 Z = true) (wz : (Cond.initialized y.cls).before a0 Z = true) (wc : (Cond.code y bytes mL rt).before a0 Z = true) (hy : y.cls ≠ "java/lang/invoke/MethodHandle" ∧ y.cls ≠ "java/lang/invoke/VarHandle")
    (hM : ConV l Z n0 y bytes mL rt [] rm (argsL).toArray h Qc) (hd : Fet code pc pc' (.invokestatic i) 3) (hlen : ∀ sig, parseMethodDescriptor y.desc = some sig → argsL.length = sig.parameters.length) (hst : st = argsL.reverse ++ rest) (hsz : Ls.size = maxL) (hf : rm.frames + 1 ≤ R.frames) (hl : (rest.map fun v => v.category).sum + (mL + 11) + rm.locals ≤ R.locals)
    (ek : k + rm.cells = k') (en : n + rm.slots = n') (hc : k' ≤ R.cells) (hs : n' ≤ R.slots) (hr : ∀ w h', Qc w h' → Wp l R n0 K Q h' k' n' pc' Ls (w :: rest)) : Wp l R n0 K Q h k n pc Ls st := by
  obtain ⟨p, e, s, m, args, below, meth, c⟩ := K
  obtain ⟨hx, hby, hZ, hown, hnm, hml, hret, hlk⟩ := ok
  obtain ⟨hd, rfl⟩ := hd
  intro T locs X hT hF
  subst hst ek en
  obtain ⟨v, _, ⟨T', L', k1, n1⟩, -, X', ⟨Lc, hQ, l1, y1, z1⟩, stp⟩ := Jvm.LawKit.callS X hx (y := y) hown (mvT hZ w1) (mvT hZ w2) (mvT hZ wz) (mvT hZ wc) hy (backOf (W := (rest.map fun v => v.category).sum) (Q := fun v h' L => (∃ w, v = some w ∧ Qc w h') ∧ Fr n0 L) (as' := (argsL).toArray) (rm := rm) (bytes := bytes) (maxL := mL) (ret := rt) (h := h) (Z := Z) hM hZ wc wz hf hl) (g := mkF m pc Ls (argsL.reverse ++ rest)) rfl (hsz.trans hml.symm) (argsL := argsL) (rest := rest) hlen rfl (by show 2 * 0 + _ ≤ _; omega) (hb hby hd) (fun _ _ => ⟨rfl, hT, hc, hs⟩)
  dsimp only [Pt.U, Pt.locs, Pt.cells, Pt.slots] at X' l1 y1 z1 stp hQ
  subst l1 y1 z1

  obtain ⟨⟨w, rfl, hQ⟩, hFc⟩ := hQ
  obtain ⟨s₂, o, h1, h2⟩ := hr _ _ hQ T' _ X' rfl (Fr.app hF hFc)
  exact ⟨s₂, o, stp _ h1, h2⟩
theorem w_callSN (ok : Ok Z K code own nm maxL ret) {y : MethodName} {bytes : ByteArray} {mL i : Nat} {rt : Option FieldType} {rm : Room} {Qc : Heap → Prop} {argsL : List Value}  (w1 : (Cond.methodLink own i y).before a0 Z = true) (w2 : (Cond.static y).before a0 Z = true) (wz : (Cond.initialized y.cls).before a0 Z = true) (wc : (Cond.code y bytes mL rt).before a0 Z = true) (hy : y.cls ≠ "java/lang/invoke/MethodHandle" ∧ y.cls ≠ "java/lang/invoke/VarHandle")
    (hM : ConN l Z n0 y bytes mL rt [] rm (argsL).toArray h Qc) (hd : Fet code pc pc' (.invokestatic i) 3) (hlen : ∀ sig, parseMethodDescriptor y.desc = some sig → argsL.length = sig.parameters.length) (hst : st = argsL.reverse ++ rest) (hsz : Ls.size = maxL) (hf : rm.frames + 1 ≤ R.frames) (hl : (rest.map fun v => v.category).sum + (mL + 11) + rm.locals ≤ R.locals)
    (ek : k + rm.cells = k') (en : n + rm.slots = n') (hc : k' ≤ R.cells) (hs : n' ≤ R.slots) (hr : ∀ h', Qc h' → Wp l R n0 K Q h' k' n' pc' Ls rest) : Wp l R n0 K Q h k n pc Ls st := by
  obtain ⟨p, e, s, m, args, below, meth, c⟩ := K
  obtain ⟨hx, hby, hZ, hown, hnm, hml, hret, hlk⟩ := ok
  obtain ⟨hd, rfl⟩ := hd
  intro T locs X hT hF
  subst hst ek en
  obtain ⟨v, _, ⟨T', L', k1, n1⟩, -, X', ⟨Lc, hQ, l1, y1, z1⟩, stp⟩ := Jvm.LawKit.callS X hx (y := y) hown (mvT hZ w1) (mvT hZ w2) (mvT hZ wz) (mvT hZ wc) hy (backOf (W := (rest.map fun v => v.category).sum) (Q := fun v h' L => (v = none ∧ Qc h') ∧ Fr n0 L) (as' := (argsL).toArray) (rm := rm) (bytes := bytes) (maxL := mL) (ret := rt) (h := h) (Z := Z) hM hZ wc wz hf hl) (g := mkF m pc Ls (argsL.reverse ++ rest)) rfl (hsz.trans hml.symm) (argsL := argsL) (rest := rest) hlen rfl (by show 2 * 0 + _ ≤ _; omega) (hb hby hd) (fun _ _ => ⟨rfl, hT, hc, hs⟩)
  dsimp only [Pt.U, Pt.locs, Pt.cells, Pt.slots] at X' l1 y1 z1 stp hQ
  subst l1 y1 z1

  obtain ⟨⟨rfl, hQ⟩, hFc⟩ := hQ
  obtain ⟨s₂, o, h1, h2⟩ := hr _ hQ T' _ X' rfl (Fr.app hF hFc)
  exact ⟨s₂, o, stp _ h1, h2⟩
theorem w_init (ok : Ok Z K code own nm maxL ret) {y : MethodName} {bytes : ByteArray} {mL i : Nat} {rt : Option FieldType} {rm : Room} {Qc : Heap → Prop} {argsL : List Value} {a : Addr} (hy1 : y.name = "<init>") (hrt : rt = none) (w1 : (Cond.methodLink own i y).before a0 Z = true) (w2 : (Cond.instanceMethod y).before a0 Z = true) (wz : (Cond.initialized y.cls).before a0 Z = true) (wc : (Cond.code y bytes mL rt).before a0 Z = true) (hy : y.cls ≠ "java/lang/invoke/MethodHandle" ∧ y.cls ≠ "java/lang/invoke/VarHandle")
    (hM : ConN l Z n0 y bytes mL rt [] rm (.ref a :: argsL).toArray h Qc) (hd : Fet code pc pc' (.invokespecial i) 3) (hlen : ∀ sig, parseMethodDescriptor y.desc = some sig → argsL.length = sig.parameters.length) (hst : st = argsL.reverse ++ .ref a :: rest) (hsz : Ls.size = maxL) (hf : rm.frames + 1 ≤ R.frames) (hl : (rest.map fun v => v.category).sum + (mL + 11) + rm.locals ≤ R.locals)
    (ek : k + rm.cells = k') (en : n + rm.slots = n') (hc : k' ≤ R.cells) (hs : n' ≤ R.slots) (hr : ∀ h', Qc h' → Wp l R n0 K Q h' k' n' pc' Ls rest) : Wp l R n0 K Q h k n pc Ls st := by
  obtain ⟨p, e, s, m, args, below, meth, c⟩ := K
  obtain ⟨hx, hby, hZ, hown, hnm, hml, hret, hlk⟩ := ok
  obtain ⟨hd, rfl⟩ := hd
  intro T locs X hT hF
  subst hst ek en
  subst hrt
  obtain ⟨v, _, ⟨T', L', k1, n1⟩, -, X', ⟨Lc, hQ, l1, y1, z1⟩, stp⟩ := X.specialBack hx (y := y) hy1 hown (mvT hZ w1) (mvT hZ w2) (mvT hZ wc) hy (backOf (W := (rest.map fun v => v.category).sum) (Q := fun v h' L => (v = none ∧ Qc h') ∧ Fr n0 L) (as' := (Value.ref a :: argsL).toArray) (rm := rm) (bytes := bytes) (maxL := mL) (ret := none) (h := h) (Z := Z) hM hZ wc wz hf hl) (g := mkF m pc Ls (argsL.reverse ++ .ref a :: rest)) rfl (hsz.trans hml.symm) (Steps.refl _) (a := a) (argsL := argsL) (rest := rest) hlen rfl (by show 2 * 0 + _ ≤ _; omega) (hb hby hd) (fun _ _ => ⟨rfl, hT, hc, hs⟩)
  dsimp only [Pt.U, Pt.locs, Pt.cells, Pt.slots] at X' l1 y1 z1 stp hQ
  subst l1 y1 z1

  obtain ⟨⟨rfl, hQ⟩, hFc⟩ := hQ
  obtain ⟨s₂, o, h1, h2⟩ := hr _ hQ T' _ X' rfl (Fr.app hF hFc)
  exact ⟨s₂, o, stp.trans h1, h2⟩
theorem w_virtV (ok : Ok Z K code own nm maxL ret) {y : MethodName} {bytes : ByteArray} {mL i : Nat} {rt : Option FieldType} {rm : Room} {Qc : Value → Heap → Prop} {argsL : List Value} {a : Addr} {C : String} (w1 : (Cond.methodLink own i y).before a0 Z = true) (w2 : (Cond.declares y).before a0 Z = true) (w3 : (Cond.selects C y y).before a0 Z = true) (w4 : (Cond.instanceMethod y).before a0 Z = true) (wz : (Cond.initialized y.cls).before a0 Z = true) (wc : (Cond.code y bytes mL rt).before a0 Z = true) (E : Exa Z h a C) (hy : y.cls ≠ "java/lang/invoke/MethodHandle" ∧ y.cls ≠ "java/lang/invoke/VarHandle")
    (hM : ConV l Z n0 y bytes mL rt [] rm (.ref a :: argsL).toArray h Qc) (hd : Fet code pc pc' (.invokevirtual i) 3) (hlen : ∀ sig, parseMethodDescriptor y.desc = some sig → argsL.length = sig.parameters.length) (hst : st = argsL.reverse ++ .ref a :: rest) (hsz : Ls.size = maxL) (hf : rm.frames + 1 ≤ R.frames) (hl : (rest.map fun v => v.category).sum + (mL + 11) + rm.locals ≤ R.locals)
    (ek : k + rm.cells = k') (en : n + rm.slots = n') (hc : k' ≤ R.cells) (hs : n' ≤ R.slots) (hr : ∀ w h', Qc w h' → Wp l R n0 K Q h' k' n' pc' Ls (w :: rest)) : Wp l R n0 K Q h k n pc Ls st := by
  obtain ⟨p, e, s, m, args, below, meth, c⟩ := K
  obtain ⟨hx, hby, hZ, hown, hnm, hml, hret, hlk⟩ := ok
  obtain ⟨hd, rfl⟩ := hd
  intro T locs X hT hF
  subst hst ek en
  obtain ⟨cB, kB, qa, qb, qc⟩ := isOf hZ hT E
  obtain ⟨v, _, ⟨T', L', k1, n1⟩, -, X', ⟨Lc, hQ, l1, y1, z1⟩, stp⟩ := X.virtualBack hx (y := y) (z := y) hown (mvT hZ w1) (mvT hZ w2) (notFace_of_selects (args := #[]) (mvT hZ w3)) (mvT hZ w3) (mvT hZ w4) hy (backOf (W := (rest.map fun v => v.category).sum) (Q := fun v h' L => (∃ w, v = some w ∧ Qc w h') ∧ Fr n0 L) (as' := (Value.ref a :: argsL).toArray) (rm := rm) (bytes := bytes) (maxL := mL) (ret := rt) (h := h) (Z := Z) hM hZ wc wz hf hl) qa qc (g := mkF m pc Ls (argsL.reverse ++ .ref a :: rest)) rfl (hsz.trans hml.symm) (Steps.refl _) (argsL := argsL) (rest := rest) hlen rfl (by show 2 * 0 + _ ≤ _; omega) (hb hby hd) (fun _ _ => ⟨rfl, hT, hc, hs⟩)
  dsimp only [Pt.U, Pt.locs, Pt.cells, Pt.slots] at X' l1 y1 z1 stp hQ
  subst l1 y1 z1

  obtain ⟨⟨w, rfl, hQ⟩, hFc⟩ := hQ
  obtain ⟨s₂, o, h1, h2⟩ := hr _ _ hQ T' _ X' rfl (Fr.app hF hFc)
  exact ⟨s₂, o, stp.trans h1, h2⟩
theorem w_virtN (ok : Ok Z K code own nm maxL ret) {y : MethodName} {bytes : ByteArray} {mL i : Nat} {rt : Option FieldType} {rm : Room} {Qc : Heap → Prop} {argsL : List Value} {a : Addr} {C : String} (w1 : (Cond.methodLink own i y).before a0 Z = true) (w2 : (Cond.declares y).before a0 Z = true) (w3 : (Cond.selects C y y).before a0 Z = true) (w4 : (Cond.instanceMethod y).before a0 Z = true) (wz : (Cond.initialized y.cls).before a0 Z = true) (wc : (Cond.code y bytes mL rt).before a0 Z = true) (E : Exa Z h a C) (hy : y.cls ≠ "java/lang/invoke/MethodHandle" ∧ y.cls ≠ "java/lang/invoke/VarHandle")
    (hM : ConN l Z n0 y bytes mL rt [] rm (.ref a :: argsL).toArray h Qc) (hd : Fet code pc pc' (.invokevirtual i) 3) (hlen : ∀ sig, parseMethodDescriptor y.desc = some sig → argsL.length = sig.parameters.length) (hst : st = argsL.reverse ++ .ref a :: rest) (hsz : Ls.size = maxL) (hf : rm.frames + 1 ≤ R.frames) (hl : (rest.map fun v => v.category).sum + (mL + 11) + rm.locals ≤ R.locals)
    (ek : k + rm.cells = k') (en : n + rm.slots = n') (hc : k' ≤ R.cells) (hs : n' ≤ R.slots) (hr : ∀ h', Qc h' → Wp l R n0 K Q h' k' n' pc' Ls rest) : Wp l R n0 K Q h k n pc Ls st := by
  obtain ⟨p, e, s, m, args, below, meth, c⟩ := K
  obtain ⟨hx, hby, hZ, hown, hnm, hml, hret, hlk⟩ := ok
  obtain ⟨hd, rfl⟩ := hd
  intro T locs X hT hF
  subst hst ek en
  obtain ⟨cB, kB, qa, qb, qc⟩ := isOf hZ hT E
  obtain ⟨v, _, ⟨T', L', k1, n1⟩, -, X', ⟨Lc, hQ, l1, y1, z1⟩, stp⟩ := X.virtualBack hx (y := y) (z := y) hown (mvT hZ w1) (mvT hZ w2) (notFace_of_selects (args := #[]) (mvT hZ w3)) (mvT hZ w3) (mvT hZ w4) hy (backOf (W := (rest.map fun v => v.category).sum) (Q := fun v h' L => (v = none ∧ Qc h') ∧ Fr n0 L) (as' := (Value.ref a :: argsL).toArray) (rm := rm) (bytes := bytes) (maxL := mL) (ret := rt) (h := h) (Z := Z) hM hZ wc wz hf hl) qa qc (g := mkF m pc Ls (argsL.reverse ++ .ref a :: rest)) rfl (hsz.trans hml.symm) (Steps.refl _) (argsL := argsL) (rest := rest) hlen rfl (by show 2 * 0 + _ ≤ _; omega) (hb hby hd) (fun _ _ => ⟨rfl, hT, hc, hs⟩)
  dsimp only [Pt.U, Pt.locs, Pt.cells, Pt.slots] at X' l1 y1 z1 stp hQ
  subst l1 y1 z1

  obtain ⟨⟨rfl, hQ⟩, hFc⟩ := hQ
  obtain ⟨s₂, o, h1, h2⟩ := hr _ hQ T' _ X' rfl (Fr.app hF hFc)
  exact ⟨s₂, o, stp.trans h1, h2⟩
end Rules
/-- an array of this kind with these values -/
def Ary (Z : State) (h : Heap) (a : Addr) (ty : FieldType) (vs : List Value) : Prop := ∃ c : Cell, Arr Z h a c ty ∧ c.slots.toList = vs
section AryFacts
variable {Z : State} {h h' : Heap} {a b : Addr} {ty : FieldType} {vs : List Value} {v : Value} {sl i : Nat} {ws : List Addr}
theorem Ary.lt (A : Ary Z h a ty vs) : a < h.size := by obtain ⟨c, A, -⟩ := A; exact A.lt
theorem Ary.ext (A : Ary Z h a ty vs) (E : Ext h h') : Ary Z h' a ty vs := by obtain ⟨c, A, r⟩ := A; exact ⟨c, A.ext E, r⟩
theorem Ary.other (A : Ary Z h b ty vs) (W : Wr h h' a sl v) (q : b ≠ a) : Ary Z h' b ty vs := by obtain ⟨c, A, r⟩ := A; exact ⟨c, A.other W q, r⟩
theorem Ary.keep (A : Ary Z h a ty vs) (K : Keep h h' ws) (q : a ∉ ws) : Ary Z h' a ty vs := by obtain ⟨c, A, r⟩ := A; exact ⟨c, ⟨K.2.1 a c A.1 q, A.2⟩, r⟩
theorem Ary.same (A : Ary Z h a ty vs) (W : Wr h h' a i v) : Ary Z h' a ty (vs.set i v) := by
  obtain ⟨c, A, r⟩ := A
  refine ⟨_, A.same W, ?_⟩
  rw [← r]
  simp [Cell.setSlot, Array.toList_setIfInBounds]
theorem Ary.cast {vs' : List Value} (A : Ary Z h a ty vs) (e : vs = vs') : Ary Z h a ty vs' := e ▸ A
theorem ary_new {cA : ClassId} {z : Int32} (A : Arr Z h a (newA cA ty z) ty) : Ary Z h a ty (List.replicate z.toNatClampNeg (defaultValue ty)) := ⟨_, A, by simp [newA]⟩
theorem idx_ok {i n : Nat} (hi : i < n) (hn : n < 2 ^ 31) : ¬ (Int32.ofNat i < 0 ∨ n ≤ (Int32.ofNat i).toNatClampNeg) := idx_in hi hn
theorem idx_nat {i : Nat} (hi : i < 2 ^ 31) : (Int32.ofNat i).toNatClampNeg = i := by
  have q : (Int32.ofNat i).toInt = i := Int32.toInt_ofNat_of_lt (by omega)
  simp only [Int32.toNatClampNeg, q]; omega
end AryFacts
section AryRules
variable {l : Launch} {R : Room} {n0 : Nat} {K : Cx} {Q : Option Value → Heap → Prop} {h : Heap} {k n k' n' : Nat} {pc pc' : Nat} {Ls Ls' : Array Slot} {st rest : List Value} {Z : State} {code : ByteArray} {own nm : String} {maxL : Nat} {ret : Option FieldType} {a0 : Array Value}
theorem w_arraylength (ok : Ok Z K code own nm maxL ret) {a : Addr} {ty : FieldType} {vs : List Value} (A : Ary Z h a ty vs) (hd : Fet code pc pc' .arraylength 1) (hr : Wp l R n0 K Q h k n pc' Ls (.int (Int32.ofNat vs.length) :: st)) : Wp l R n0 K Q h k n pc Ls (.ref a :: st) := by
  obtain ⟨p, e, s, m, args, below, meth, c⟩ := K
  obtain ⟨hx, hby, hZ, hown, hnm, hml, hret, hlk⟩ := ok
  obtain ⟨hd, rfl⟩ := hd
  intro T locs X hT hF
  obtain ⟨c, A, rfl⟩ := A
  obtain ⟨s₂, o, h1, h2⟩ := hr T locs X hT hF
  exact ⟨s₂, o, X.arraylength hx (by rw [hT]; exact A.1) (State.isArrayOf_alike hZ.alike A.2.1) (g := mkF m pc Ls (.ref a :: st)) rfl rfl (hb hby hd) _ (by rw [Array.length_toList] at h1; exact h1), h2⟩
theorem w_iaload (ok : Ok Z K code own nm maxL ret) {a : Addr} {i : Nat} {v : Value} {vs : List Value} (A : Ary Z h a .int vs) (hl : vs.length < 2 ^ 31) (hv : vs[i]? = some v) (hd : Fet code pc pc' .iaload 1) (hr : Wp l R n0 K Q h k n pc' Ls (v :: st)) : Wp l R n0 K Q h k n pc Ls (.int (Int32.ofNat i) :: .ref a :: st) := by
  obtain ⟨p, e, s, m, args, below, meth, c⟩ := K
  obtain ⟨hx, hby, hZ, hown, hnm, hml, hret, hlk⟩ := ok
  obtain ⟨hd, rfl⟩ := hd
  intro T locs X hT hF
  obtain ⟨c, A, rfl⟩ := A
  obtain ⟨s₂, o, h1, h2⟩ := hr T locs X hT hF
  have hi : i < c.slots.toList.length := (List.getElem?_eq_some_iff.mp hv).1
  rw [Array.length_toList] at hi hl
  exact ⟨s₂, o, X.iaload hx (j := Int32.ofNat i) (v := v) (by rw [hT]; exact A.1) (State.isArrayOf_alike hZ.alike A.2.1) A.2.2 (idx_ok hi hl) (by rw [idx_nat (Nat.lt_trans hi hl), ← hv, Array.getElem?_toList]) (g := mkF m pc Ls (.int (Int32.ofNat i) :: .ref a :: st)) rfl rfl (hb hby hd) _ h1, h2⟩
theorem w_laload (ok : Ok Z K code own nm maxL ret) {a : Addr} {i : Nat} {v : Value} {vs : List Value} (A : Ary Z h a .long vs) (hl : vs.length < 2 ^ 31) (hv : vs[i]? = some v) (hd : Fet code pc pc' .laload 1) (hr : Wp l R n0 K Q h k n pc' Ls (v :: st)) : Wp l R n0 K Q h k n pc Ls (.int (Int32.ofNat i) :: .ref a :: st) := by
  obtain ⟨p, e, s, m, args, below, meth, c⟩ := K
  obtain ⟨hx, hby, hZ, hown, hnm, hml, hret, hlk⟩ := ok
  obtain ⟨hd, rfl⟩ := hd
  intro T locs X hT hF
  obtain ⟨c, A, rfl⟩ := A
  obtain ⟨s₂, o, h1, h2⟩ := hr T locs X hT hF
  have hi : i < c.slots.toList.length := (List.getElem?_eq_some_iff.mp hv).1
  rw [Array.length_toList] at hi hl
  exact ⟨s₂, o, X.laload hx (j := Int32.ofNat i) (v := v) (by rw [hT]; exact A.1) (State.isArrayOf_alike hZ.alike A.2.1) A.2.2 (idx_ok hi hl) (by rw [idx_nat (Nat.lt_trans hi hl), ← hv, Array.getElem?_toList]) (g := mkF m pc Ls (.int (Int32.ofNat i) :: .ref a :: st)) rfl rfl (hb hby hd) _ h1, h2⟩
theorem w_baloadB (ok : Ok Z K code own nm maxL ret) {a : Addr} {i : Nat} {v : Value} {vs : List Value} (A : Ary Z h a .byte vs) (hl : vs.length < 2 ^ 31) (hv : vs[i]? = some v) (hd : Fet code pc pc' .baload 1) (hr : Wp l R n0 K Q h k n pc' Ls (v :: st)) : Wp l R n0 K Q h k n pc Ls (.int (Int32.ofNat i) :: .ref a :: st) := by
  obtain ⟨p, e, s, m, args, below, meth, c⟩ := K
  obtain ⟨hx, hby, hZ, hown, hnm, hml, hret, hlk⟩ := ok
  obtain ⟨hd, rfl⟩ := hd
  intro T locs X hT hF
  obtain ⟨c, A, rfl⟩ := A
  obtain ⟨s₂, o, h1, h2⟩ := hr T locs X hT hF
  have hi : i < c.slots.toList.length := (List.getElem?_eq_some_iff.mp hv).1
  rw [Array.length_toList] at hi hl
  exact ⟨s₂, o, X.baloadBytes hx (j := Int32.ofNat i) (v := v) (by rw [hT]; exact A.1) (State.isArrayOf_alike hZ.alike A.2.1) A.2.2 (idx_ok hi hl) (by rw [idx_nat (Nat.lt_trans hi hl), ← hv, Array.getElem?_toList]) (g := mkF m pc Ls (.int (Int32.ofNat i) :: .ref a :: st)) rfl rfl (hb hby hd) _ h1, h2⟩
theorem w_baloadZ (ok : Ok Z K code own nm maxL ret) {a : Addr} {i : Nat} {v : Value} {vs : List Value} (A : Ary Z h a .boolean vs) (hl : vs.length < 2 ^ 31) (hv : vs[i]? = some v) (hd : Fet code pc pc' .baload 1) (hr : Wp l R n0 K Q h k n pc' Ls (v :: st)) : Wp l R n0 K Q h k n pc Ls (.int (Int32.ofNat i) :: .ref a :: st) := by
  obtain ⟨p, e, s, m, args, below, meth, c⟩ := K
  obtain ⟨hx, hby, hZ, hown, hnm, hml, hret, hlk⟩ := ok
  obtain ⟨hd, rfl⟩ := hd
  intro T locs X hT hF
  obtain ⟨c, A, rfl⟩ := A
  obtain ⟨s₂, o, h1, h2⟩ := hr T locs X hT hF
  have hi : i < c.slots.toList.length := (List.getElem?_eq_some_iff.mp hv).1
  rw [Array.length_toList] at hi hl
  exact ⟨s₂, o, X.baloadBooleans hx (j := Int32.ofNat i) (v := v) (by rw [hT]; exact A.1) (State.isArrayOf_alike hZ.alike A.2.1) A.2.2 (idx_ok hi hl) (by rw [idx_nat (Nat.lt_trans hi hl), ← hv, Array.getElem?_toList]) (g := mkF m pc Ls (.int (Int32.ofNat i) :: .ref a :: st)) rfl rfl (hb hby hd) _ h1, h2⟩
theorem w_iastore' (ok : Ok Z K code own nm maxL ret) {a : Addr} {i : Nat} {x : Int32} {vs : List Value} (A : Ary Z h a .int vs) (hl : vs.length < 2 ^ 31) (hi : i < vs.length) (ha : n0 ≤ a) (hd : Fet code pc pc' .iastore 1)
    (hr : ∀ h', Wr h h' a i (.int x) → Ary Z h' a .int (vs.set i (.int x)) → Wp l R n0 K Q h' k n pc' Ls st) : Wp l R n0 K Q h k n pc Ls ((.int x) :: .int (Int32.ofNat i) :: .ref a :: st) := by
  have A0 := A
  obtain ⟨c, A, rfl⟩ := A
  rw [Array.length_toList] at hi hl
  refine w_iastore ok A (idx_ok hi hl) ha hd (fun h' W => ?_)
  rw [idx_nat (Nat.lt_trans hi hl)] at W
  exact hr h' W (A0.same W)
theorem w_lastore' (ok : Ok Z K code own nm maxL ret) {a : Addr} {i : Nat} {x : Int64} {vs : List Value} (A : Ary Z h a .long vs) (hl : vs.length < 2 ^ 31) (hi : i < vs.length) (ha : n0 ≤ a) (hd : Fet code pc pc' .lastore 1)
    (hr : ∀ h', Wr h h' a i (.long x) → Ary Z h' a .long (vs.set i (.long x)) → Wp l R n0 K Q h' k n pc' Ls st) : Wp l R n0 K Q h k n pc Ls ((.long x) :: .int (Int32.ofNat i) :: .ref a :: st) := by
  have A0 := A
  obtain ⟨c, A, rfl⟩ := A
  rw [Array.length_toList] at hi hl
  refine w_lastore ok A (idx_ok hi hl) ha hd (fun h' W => ?_)
  rw [idx_nat (Nat.lt_trans hi hl)] at W
  exact hr h' W (A0.same W)
theorem w_bastoreB' (ok : Ok Z K code own nm maxL ret) {a : Addr} {i : Nat} {x : Int32} {vs : List Value} (A : Ary Z h a .byte vs) (hl : vs.length < 2 ^ 31) (hi : i < vs.length) (ha : n0 ≤ a) (hd : Fet code pc pc' .bastore 1)
    (hr : ∀ h', Wr h h' a i (.int (nar .byte x)) → Ary Z h' a .byte (vs.set i (.int (nar .byte x))) → Wp l R n0 K Q h' k n pc' Ls st) : Wp l R n0 K Q h k n pc Ls ((.int x) :: .int (Int32.ofNat i) :: .ref a :: st) := by
  have A0 := A
  obtain ⟨c, A, rfl⟩ := A
  rw [Array.length_toList] at hi hl
  refine w_bastoreB ok A (idx_ok hi hl) ha hd (fun h' W => ?_)
  rw [idx_nat (Nat.lt_trans hi hl)] at W
  exact hr h' W (A0.same W)
theorem w_bastoreZ' (ok : Ok Z K code own nm maxL ret) {a : Addr} {i : Nat} {x : Int32} {vs : List Value} (A : Ary Z h a .boolean vs) (hl : vs.length < 2 ^ 31) (hi : i < vs.length) (ha : n0 ≤ a) (hd : Fet code pc pc' .bastore 1)
    (hr : ∀ h', Wr h h' a i (.int (nar .boolean x)) → Ary Z h' a .boolean (vs.set i (.int (nar .boolean x))) → Wp l R n0 K Q h' k n pc' Ls st) : Wp l R n0 K Q h k n pc Ls ((.int x) :: .int (Int32.ofNat i) :: .ref a :: st) := by
  have A0 := A
  obtain ⟨c, A, rfl⟩ := A
  rw [Array.length_toList] at hi hl
  refine w_bastoreZ ok A (idx_ok hi hl) ha hd (fun h' W => ?_)
  rw [idx_nat (Nat.lt_trans hi hl)] at W
  exact hr h' W (A0.same W)
theorem w_aaload (ok : Ok Z K code own nm maxL ret) {a : Addr} {cl : Cell} {j : Int32} {v : Value} {ty : FieldType} (A : Arr Z h a cl ty) (hty : ty.isReference = true) (hj : ¬ (j < 0 ∨ cl.slots.size ≤ j.toNatClampNeg)) (hv : cl.slots[j.toNatClampNeg]? = some v) (hd : Fet code pc pc' .aaload 1) (hr : Wp l R n0 K Q h k n pc' Ls (v :: st)) : Wp l R n0 K Q h k n pc Ls (.int j :: .ref a :: st) := by
  obtain ⟨p, e, s, m, args, below, meth, c⟩ := K
  obtain ⟨hx, hby, hZ, hown, hnm, hml, hret, hlk⟩ := ok
  obtain ⟨hd, rfl⟩ := hd
  intro T locs X hT hF
  obtain ⟨s₂, o, h1, h2⟩ := hr T locs X hT hF
  exact ⟨s₂, o, X.aaload hx (j := j) (v := v) (by rw [hT]; exact A.1) (State.isArrayOf_alike hZ.alike A.2.1) hty A.2.2 hj hv (g := mkF m pc Ls (.int j :: .ref a :: st)) rfl rfl (hb hby hd) _ h1, h2⟩
theorem w_checkcast (ok : Ok Z K code own nm maxL ret) {C : String} {i : Nat} {a : Addr} (w : (Cond.classLink own i C).before a0 Z = true) (F : Ins Z h a C true) (hd : Fet code pc pc' (.checkcast i) 3) (hr : Wp l R n0 K Q h k n pc' Ls (.ref a :: st)) : Wp l R n0 K Q h k n pc Ls (.ref a :: st) := by
  obtain ⟨p, e, s, m, args, below, meth, c⟩ := K
  obtain ⟨hx, hby, hZ, hown, hnm, hml, hret, hlk⟩ := ok
  obtain ⟨hd, rfl⟩ := hd
  intro T locs X hT hF
  obtain ⟨T', X', e', stp⟩ := castY X hx hZ hown w hT F (g := mkF m pc Ls (.ref a :: st)) rfl rfl (hb hby hd)
  obtain ⟨s₂, o, h1, h2⟩ := hr T' locs X' e' hF
  exact ⟨s₂, o, stp _ h1, h2⟩
theorem w_checkcastNull (ok : Ok Z K code own nm maxL ret) {i : Nat} (hd : Fet code pc pc' (.checkcast i) 3) (hr : Wp l R n0 K Q h k n pc' Ls (.null :: st)) : Wp l R n0 K Q h k n pc Ls (.null :: st) := by
  obtain ⟨p, e, s, m, args, below, meth, c⟩ := K
  obtain ⟨hx, hby, hZ, hown, hnm, hml, hret, hlk⟩ := ok
  obtain ⟨hd, rfl⟩ := hd
  intro T locs X hT hF
  obtain ⟨s₂, o, h1, h2⟩ := hr T locs X hT hF
  exact ⟨s₂, o, X.checkcastNull hx (g := mkF m pc Ls (.null :: st)) rfl rfl (hb hby hd) _ h1, h2⟩
theorem w_instanceof (ok : Ok Z K code own nm maxL ret) {C : String} {i : Nat} {a : Addr} (w : (Cond.classLink own i C).before a0 Z = true) (F : Ins Z h a C true) (hd : Fet code pc pc' (.instanceof i) 3) (hr : Wp l R n0 K Q h k n pc' Ls (.int 1 :: st)) : Wp l R n0 K Q h k n pc Ls (.ref a :: st) := by
  obtain ⟨p, e, s, m, args, below, meth, c⟩ := K
  obtain ⟨hx, hby, hZ, hown, hnm, hml, hret, hlk⟩ := ok
  obtain ⟨hd, rfl⟩ := hd
  intro T locs X hT hF
  obtain ⟨T', X', e', stp⟩ := instY X hx hZ hown w hT F (g := mkF m pc Ls (.ref a :: st)) rfl rfl (hb hby hd)
  obtain ⟨s₂, o, h1, h2⟩ := hr T' locs X' e' hF
  exact ⟨s₂, o, stp _ h1, h2⟩
theorem sta_keep0 {h' : Heap} {C f d : String} {v : Value} (F : Sta Z h C f d v) (K : Keep h h' []) : Sta Z h' C f d v := by
  obtain ⟨cf, i, k, f, st, cell, h1, h2, h3, h4, h5, r⟩ := F
  exact ⟨cf, i, k, f, st, cell, h1, h2, h3, h4, K.2.1 _ _ h5 (fun q => nomatch q), r⟩

end AryRules
end Jvm.WpK
namespace Jvm.Pilot.@@N@@
open Jvm Jvm.ClassFile Sem Op Lib Jvm.Free Jvm.Stand Jvm.LawKit Jvm.RoadKit Jvm.WpK Bundle Jvm.Pilot.@@N@@.Jvm.D
theorem own_in {x : Int32} (h1 : ¬ x < -128) (h2 : ¬ (127 : Int32) < x) : ¬ (x + 128 < 0 ∨ (256 : Int32).toNatClampNeg ≤ (x + 128).toNatClampNeg) := by
  rw [Int32.lt_iff_toInt_lt] at h1 h2
  rw [show (-128 : Int32).toInt = -128 by decide] at h1
  rw [show (127 : Int32).toInt = 127 by decide] at h2
  have e : (x + 128).toInt = x.toInt + 128 := by
    rw [Int32.toInt_add, show (128 : Int32).toInt = 128 by decide]
    exact Int.bmod_eq_of_le (by omega) (by omega)
  have z : (256 : Int32).toNatClampNeg = 256 := by decide
  rw [Int32.lt_iff_toInt_lt, z, show (0 : Int32).toInt = 0 by decide, Int32.toNatClampNeg, e]
  omega
theorem own_back (x : Int32) : x + 128 - 128 = x := by
  apply Int32.toBitVec_inj.mp
  simp only [Int32.toBitVec_add, Int32.toBitVec_sub]
  bv_omega
theorem own_len {args : Array Value} {s : State} {t : Term} {a : Addr} {c : Cell} {v : Value} (ev : t.eval args s none [] s = some (.ref a)) (ha : s.arrayAt? a = some c) (h : (Term.length t).eval args s none [] s = some v) : c.slots.size < 2 ^ 31 := by
  by_cases q : c.slots.size < 2 ^ 31
  · exact q
  · simp [Term.eval, ev, ha] at h
    omega
theorem own_idx {args : Array Value} {s : State} {j : Int32} (hj : ¬ j < 0) : (Term.sub (Term.index 0) (Term.int 128)).eval args s none [j.toNatClampNeg] s = some (.int (j - 128)) := by
  have e : (Term.sub (Term.index 0) (Term.int 128)).eval args s none [j.toNatClampNeg] s = some (.int (j.toNatClampNeg.toInt32 - 128)) := by simp [Term.eval]
  rw [e, (back32 hj).1]
theorem own_self {Z : State} {h : Heap} {a : Addr} {C K : String} {a0 : Array Value} (E : Exa Z h a C) (w : (Cond.castable C K).before a0 Z = true) : Ins Z h a K true := Ins.of_exa E w
theorem dN_0 : Fet jdk_18_method_1_code 0 1 (.aload_n 0) 1 := ⟨by decide +kernel, rfl⟩
theorem dN_1 : Fet jdk_18_method_1_code 1 4 (.invokespecial 1) 3 := ⟨by decide +kernel, rfl⟩
theorem dN_4 : Fet jdk_18_method_1_code 4 5 (.return_) 1 := ⟨by decide +kernel, rfl⟩
theorem pn_java_lang_Number : plainName "java/lang/Number" = true := by first | (simp [plainName, overriddenIn]; done) | decide +kernel
set_option maxRecDepth 65536 in
set_option maxHeartbeats 4000000 in
theorem rmNu (l : Launch) (Z : State) (a0 : Array Value) (hw : ∀ d ∈ tables_1, d.before a0 Z = true) (n0 : Nat) (a : Addr) (h : Heap) :
    ConN l Z n0 (⟨"java/lang/Number", "<init>", "()V"⟩ : MethodName) jdk_18_method_1_code 1 none [] ({ frames := 1, cells := 0, slots := 0, locals := 12 } : Room) #[(.ref a)] h (fun h' => h = h') := by
  refine con_of_wp (Ls := #[.val (.ref a)]) (plainFor_of_name pn_java_lang_Number) (fun m => by first | (simp [entryFrame, mkF, argsToLocals, Value.category]; done) | rfl) ?_
  intro K ok
  replace ok : Ok Z K jdk_18_method_1_code "java/lang/Number" "<init>" 1 none := ok
  show Wp l ({ frames := 1, cells := 0, slots := 0, locals := 12 } : Room) n0 K (fun v h' => v = none ∧ h = h') h 0 0 0 #[.val (.ref a)] []
  refine w_aloadN ok dN_0 rfl rfl ?_
  refine w_initO ok (hw _ (List.mem_of_getElem? (i := 50) rfl)) (hw _ (List.mem_of_getElem? (i := 13) rfl)) (hw _ (List.mem_of_getElem? (i := 14) rfl)) dN_1 rfl (Nat.le_of_ble_eq_true rfl) (Nat.le_of_ble_eq_true rfl) ?_
  refine w_return ok dN_4 (Nat.le_of_ble_eq_true rfl) (Nat.le_of_ble_eq_true rfl) ?_
  exact ⟨rfl, rfl⟩
theorem dJ_0 : Fet jdk_33_method_23_code 0 1 (.aload_n 0) 1 := ⟨by decide +kernel, rfl⟩
theorem dJ_1 : Fet jdk_33_method_23_code 1 4 (.invokespecial 202) 3 := ⟨by decide +kernel, rfl⟩
theorem pd___V : parseMethodDescriptor "()V" = some ⟨[], none⟩ := by decide +kernel
theorem dJ_4 : Fet jdk_33_method_23_code 4 5 (.aload_n 0) 1 := ⟨by decide +kernel, rfl⟩
theorem dJ_5 : Fet jdk_33_method_23_code 5 6 (.iload_n 1) 1 := ⟨by decide +kernel, rfl⟩
theorem dJ_6 : Fet jdk_33_method_23_code 6 9 (.putfield 205) 3 := ⟨by decide +kernel, rfl⟩
theorem dJ_9 : Fet jdk_33_method_23_code 9 10 (.return_) 1 := ⟨by decide +kernel, rfl⟩
theorem pn_java_lang_Integer : plainName "java/lang/Integer" = true := by first | (simp [plainName, overriddenIn]; done) | decide +kernel
set_option maxRecDepth 65536 in
set_option maxHeartbeats 4000000 in
theorem rmJ (l : Launch) (Z : State) (a0 : Array Value) (hw : ∀ d ∈ tables_1, d.before a0 Z = true) (n0 : Nat) (a : Addr) (x : Int32) (h : Heap) (Z0 : n0 ≤ h.size) (gn_a : n0 ≤ a) (E_a : Exa Z h a "java/lang/Integer") (F_a : Fld Z h a "java/lang/Integer" "value" "I" (.int (0 : Int32))) :
    ConN l Z n0 (⟨"java/lang/Integer", "<init>", "(I)V"⟩ : MethodName) jdk_33_method_23_code 2 none [] ({ frames := 2, cells := 0, slots := 0, locals := 24 } : Room) #[(.ref a), (.int x)] h (fun h' => Keep h h' [a] ∧ Exa Z h' a "java/lang/Integer" ∧ Fld Z h' a "java/lang/Integer" "value" "I" (.int x)) := by
  refine con_of_wp (Ls := #[.val (.ref a), .val (.int x)]) (plainFor_of_name pn_java_lang_Integer) (fun m => by first | (simp [entryFrame, mkF, argsToLocals, Value.category]; done) | rfl) ?_
  intro K ok
  replace ok : Ok Z K jdk_33_method_23_code "java/lang/Integer" "<init>" 2 none := ok
  show Wp l ({ frames := 2, cells := 0, slots := 0, locals := 24 } : Room) n0 K (fun v h' => v = none ∧ Keep h h' [a] ∧ Exa Z h' a "java/lang/Integer" ∧ Fld Z h' a "java/lang/Integer" "value" "I" (.int x)) h 0 0 0 #[.val (.ref a), .val (.int x)] []
  have Kp : Keep h h [a] := Keep.refl _ _
  refine w_aloadN ok dJ_0 rfl rfl ?_
  refine w_init ok (argsL := []) (rest := []) rfl rfl (hw _ (List.mem_of_getElem? (i := 44) rfl)) (hw _ (List.mem_of_getElem? (i := 45) rfl)) (hw _ (List.mem_of_getElem? (i := 48) rfl)) (hw _ (List.mem_of_getElem? (i := 49) rfl)) (by decide) (rmNu l Z a0 hw n0 a h) dJ_1 (lenOf pd___V rfl) rfl rfl (Nat.le_of_ble_eq_true rfl) (Nat.le_of_ble_eq_true rfl) (k' := 0) (n' := 0) rfl rfl (Nat.le_of_ble_eq_true rfl) (Nat.le_of_ble_eq_true rfl) ?_
  rintro _ rfl
  refine w_aloadN ok dJ_4 rfl rfl ?_
  refine w_iloadN ok dJ_5 rfl ?_
  refine w_putfield ok (host := "") (Or.inl (hw _ (List.mem_of_getElem? (i := 51) rfl))) Via.refl F_a E_a (Or.inr ⟨(hw _ (List.mem_of_getElem? (i := 52) rfl)), rfl, rfl⟩) (hw _ (List.mem_of_getElem? (i := 39) rfl)) (ty := .int) (by decide) rfl rfl gn_a dJ_6 (fun h1 W1 => ?_)
  have E_a := E_a.wr W1
  have F_a := F_a.same W1
  have Z0 := Nat.le_trans Z0 (Keep.of_wr W1).1
  have Kp := Kp.wr W1 (Or.inl (List.mem_of_getElem? (i := 0) rfl))
  refine w_return ok dJ_9 (Nat.le_of_ble_eq_true rfl) (Nat.le_of_ble_eq_true rfl) ?_
  exact ⟨rfl, Kp, E_a, F_a⟩
theorem dV_23 : Fet jdk_33_method_22_code 23 26 (.new 1) 3 := ⟨by decide +kernel, rfl⟩
theorem dV_26 : Fet jdk_33_method_22_code 26 27 (.dup) 1 := ⟨by decide +kernel, rfl⟩
theorem dV_27 : Fet jdk_33_method_22_code 27 28 (.iload_n 0) 1 := ⟨by decide +kernel, rfl⟩
theorem dV_28 : Fet jdk_33_method_22_code 28 31 (.invokespecial 199) 3 := ⟨by decide +kernel, rfl⟩
theorem pd__I_V : parseMethodDescriptor "(I)V" = some ⟨[.int], none⟩ := by decide +kernel
theorem dV_31 : Fet jdk_33_method_22_code 31 32 (.areturn) 1 := ⟨by decide +kernel, rfl⟩
theorem dV_0 : Fet jdk_33_method_22_code 0 1 (.iload_n 0) 1 := ⟨by decide +kernel, rfl⟩
theorem dV_1 : Fet jdk_33_method_22_code 1 3 (.bipush (-128)) 2 := ⟨by decide +kernel, rfl⟩
theorem dV_3 : Brn jdk_33_method_22_code 3 6 23 (.if_icmp .lt 20) 20 := ⟨by decide +kernel, rfl, by decide, by decide⟩
theorem dV_6 : Fet jdk_33_method_22_code 6 7 (.iload_n 0) 1 := ⟨by decide +kernel, rfl⟩
theorem dV_7 : Fet jdk_33_method_22_code 7 10 (.getstatic 191) 3 := ⟨by decide +kernel, rfl⟩
theorem dV_10 : Brn jdk_33_method_22_code 10 13 23 (.if_icmp .gt 13) 13 := ⟨by decide +kernel, rfl, by decide, by decide⟩
theorem dV_13 : Fet jdk_33_method_22_code 13 16 (.getstatic 195) 3 := ⟨by decide +kernel, rfl⟩
theorem dV_16 : Fet jdk_33_method_22_code 16 17 (.iload_n 0) 1 := ⟨by decide +kernel, rfl⟩
theorem dV_17 : Fet jdk_33_method_22_code 17 20 (.sipush 128) 3 := ⟨by decide +kernel, rfl⟩
theorem dV_20 : Fet jdk_33_method_22_code 20 21 (.iadd) 1 := ⟨by decide +kernel, rfl⟩
theorem dV_21 : Fet jdk_33_method_22_code 21 22 (.aaload) 1 := ⟨by decide +kernel, rfl⟩
theorem dV_22 : Fet jdk_33_method_22_code 22 23 (.areturn) 1 := ⟨by decide +kernel, rfl⟩
set_option maxRecDepth 65536 in
set_option maxHeartbeats 4000000 in
theorem rmV (l : Launch) (Z : State) (a0 : Array Value) (hw : ∀ d ∈ tables_1, d.before a0 Z = true) (n0 : Nat) (x : Int32) (h : Heap) (Z0 : n0 ≤ h.size) (ac : Addr) (cc : Cell) (Ex : Ext Z.heap h) (S_h : Sta Z h "java/lang/Integer$IntegerCache" "high" "I" (.int (127 : Int32))) (S_c : Sta Z h "java/lang/Integer$IntegerCache" "cache" "[Ljava/lang/Integer;" (.ref ac)) (Bx : Bxs Z ac cc "java/lang/Integer" "I" 256 (fun j => .int (j - 128))) :
    ConV l Z n0 (⟨"java/lang/Integer", "valueOf", "(I)Ljava/lang/Integer;"⟩ : MethodName) jdk_33_method_22_code 1 (some (.object "java/lang/Integer")) [] ({ frames := 3, cells := 1, slots := 1, locals := 38 } : Room) #[(.int x)] h (fun w h' => ∃ b : Addr, w = .ref b ∧ Keep h h' [] ∧ Exa Z h' b "java/lang/Integer" ∧ Fld Z h' b "java/lang/Integer" "value" "I" (.int x)) := by
  refine con_of_wp (Ls := #[.val (.int x)]) (plainFor_of_name pn_java_lang_Integer) (fun m => by first | (simp [entryFrame, mkF, argsToLocals, Value.category]; done) | rfl) ?_
  intro K ok
  replace ok : Ok Z K jdk_33_method_22_code "java/lang/Integer" "valueOf" 1 (some (.object "java/lang/Integer")) := ok
  show Wp l ({ frames := 3, cells := 1, slots := 1, locals := 38 } : Room) n0 K (fun v h' => ∃ w, v = some w ∧ ∃ b : Addr, w = .ref b ∧ Keep h h' [] ∧ Exa Z h' b "java/lang/Integer" ∧ Fld Z h' b "java/lang/Integer" "value" "I" (.int x)) h 0 0 0 #[.val (.int x)] []
  have Kp : Keep h h [] := Keep.refl _ _
  have J23 : Wp l ({ frames := 3, cells := 1, slots := 1, locals := 38 } : Room) n0 K (fun v h' => ∃ w, v = some w ∧ ∃ b : Addr, w = .ref b ∧ Keep h h' [] ∧ Exa Z h' b "java/lang/Integer" ∧ Fld Z h' b "java/lang/Integer" "value" "I" (.int x)) h 0 0 23 #[.val (.int x)] [] := by
    refine w_new ok (hw _ (List.mem_of_getElem? (i := 38) rfl)) (hw _ (List.mem_of_getElem? (i := 39) rfl)) (hw _ (List.mem_of_getElem? (i := 36) rfl)) dV_23 (k' := 1) (n' := 1) rfl rfl (Nat.le_of_ble_eq_true rfl) (Nat.le_of_ble_eq_true rfl) (fun h1 b1 g1 E1 A1 D1 => ?_)
    have gn_b1 : n0 ≤ b1 := Nat.le_trans Z0 (Nat.le_of_eq g1.symm)
    have Z0 := Nat.le_trans Z0 E1.1
    have hz_b1 := Nat.le_trans Kp.1 (Nat.le_of_eq g1.symm)
    have Kp := Kp.ext E1
    have F_b1_value : Fld Z h1 b1 "java/lang/Integer" "value" "I" (.int (0 : Int32)) := D1 (Or.inr (hw _ (List.mem_of_getElem? (i := 52) rfl))) (ty := .int) (by decide)
    refine w_dup ok dV_26 rfl ?_
    refine w_iloadN ok dV_27 rfl ?_
    refine w_init ok (argsL := [(.int x)]) (rest := [(.ref b1)]) rfl rfl (hw _ (List.mem_of_getElem? (i := 40) rfl)) (hw _ (List.mem_of_getElem? (i := 41) rfl)) (hw _ (List.mem_of_getElem? (i := 36) rfl)) (hw _ (List.mem_of_getElem? (i := 43) rfl)) (by decide) (rmJ l Z a0 hw n0 b1 x h1 Z0 gn_b1 A1 F_b1_value) dV_28 (lenOf pd__I_V rfl) rfl rfl (Nat.le_of_ble_eq_true rfl) (Nat.le_of_ble_eq_true rfl) (k' := 1) (n' := 1) rfl rfl (Nat.le_of_ble_eq_true rfl) (Nat.le_of_ble_eq_true rfl) ?_
    rintro h9 ⟨Kc, A, F⟩
    have Z0 := Nat.le_trans Z0 Kc.1
    have Kp := Kp.trans Kc (allS (Or.inr hz_b1) all0)
    refine w_areturn ok rfl rfl rfl dV_31 (Nat.le_of_ble_eq_true rfl) (Nat.le_of_ble_eq_true rfl) ?_
    exact ⟨_, rfl, _, rfl, Kp, A, F⟩
  refine w_iloadN ok dV_0 rfl ?_
  refine w_bipush ok (z := -128) dV_1 rfl ?_
  refine w_ic_lt ok dV_3 (fun q1 => ?_) (fun q1 => ?_)
  · exact J23
  · refine w_iloadN ok dV_6 rfl ?_
    refine w_getstatic ok (hw _ (List.mem_of_getElem? (i := 59) rfl)) Via.refl S_h dV_7 ?_
    refine w_ic_gt ok dV_10 (fun q2 => ?_) (fun q2 => ?_)
    · exact J23
    · refine w_getstatic ok (hw _ (List.mem_of_getElem? (i := 61) rfl)) Via.refl S_c dV_13 ?_
      refine w_iloadN ok dV_16 rfl ?_
      refine w_sipush ok (z := 128) dV_17 rfl ?_
      refine w_iadd ok dV_20 ?_
      obtain ⟨b, hb1, hb2, hb3⟩ := Bx.2.2.2 (x + 128) (by rw [Bx.2.1]; exact own_in q1 q2)
      refine w_aaload ok (Bx.1.ext Ex) rfl (by rw [Bx.2.1]; exact own_in q1 q2) hb1 dV_21 ?_
      refine w_areturn ok rfl rfl rfl dV_22 (Nat.le_of_ble_eq_true rfl) (Nat.le_of_ble_eq_true rfl) ?_
      refine ⟨_, rfl, _, rfl, Kp, hb2.ext Ex, ?_⟩
      have F := hb3.ext Ex
      rw [show (fun j : Int32 => Value.int (j - 128)) (x + 128) = .int x from congrArg Value.int (own_back x)] at F
      exact F
theorem dC_0 : Fet prog_25_method_1_code 0 1 (.aload_n 0) 1 := ⟨by decide +kernel, rfl⟩
theorem dC_1 : Fet prog_25_method_1_code 1 4 (.invokespecial 1) 3 := ⟨by decide +kernel, rfl⟩
theorem dC_4 : Fet prog_25_method_1_code 4 5 (.aload_n 0) 1 := ⟨by decide +kernel, rfl⟩
theorem dC_5 : Fet prog_25_method_1_code 5 6 (.aload_n 1) 1 := ⟨by decide +kernel, rfl⟩
theorem dC_6 : Fet prog_25_method_1_code 6 9 (.putfield 7) 3 := ⟨by decide +kernel, rfl⟩
theorem dC_9 : Fet prog_25_method_1_code 9 10 (.aload_n 0) 1 := ⟨by decide +kernel, rfl⟩
theorem dC_10 : Fet prog_25_method_1_code 10 11 (.aload_n 2) 1 := ⟨by decide +kernel, rfl⟩
theorem dC_11 : Fet prog_25_method_1_code 11 14 (.putfield 13) 3 := ⟨by decide +kernel, rfl⟩
theorem dC_14 : Fet prog_25_method_1_code 14 15 (.return_) 1 := ⟨by decide +kernel, rfl⟩
theorem pn_com_example_idemnity_idemnity_Outcome : plainName "com/example/idemnity/idemnity/Outcome" = true := by first | (simp [plainName, overriddenIn]; done) | decide +kernel
set_option maxRecDepth 65536 in
set_option maxHeartbeats 4000000 in
theorem rmCN (l : Launch) (Z : State) (a0 : Array Value) (hw : ∀ d ∈ tables_1, d.before a0 Z = true) (n0 : Nat) (a aE : Addr) (h : Heap) (Z0 : n0 ≤ h.size) (gn_a : n0 ≤ a) (E_a : Exa Z h a "com/example/idemnity/idemnity/Outcome") (F_s : Fld Z h a "com/example/idemnity/idemnity/Outcome" "status" "Lcom/example/idemnity/idemnity/Outcome$Status;" .null) (F_v : Fld Z h a "com/example/idemnity/idemnity/Outcome" "value" "Ljava/lang/Object;" .null) :
    ConN l Z n0 (⟨"com/example/idemnity/idemnity/Outcome", "<init>", "(Lcom/example/idemnity/idemnity/Outcome$Status;Ljava/lang/Object;)V"⟩ : MethodName) prog_25_method_1_code 3 none [] ({ frames := 1, cells := 0, slots := 0, locals := 12 } : Room) #[(.ref a), (.ref aE), .null] h (fun h' => Keep h h' [a] ∧ Exa Z h' a "com/example/idemnity/idemnity/Outcome" ∧ Fld Z h' a "com/example/idemnity/idemnity/Outcome" "status" "Lcom/example/idemnity/idemnity/Outcome$Status;" (.ref aE) ∧ Fld Z h' a "com/example/idemnity/idemnity/Outcome" "value" "Ljava/lang/Object;" .null) := by
  refine con_of_wp (Ls := #[.val (.ref a), .val (.ref aE), .val .null]) (plainFor_of_name pn_com_example_idemnity_idemnity_Outcome) (fun m => by first | (simp [entryFrame, mkF, argsToLocals, Value.category]; done) | rfl) ?_
  intro K ok
  replace ok : Ok Z K prog_25_method_1_code "com/example/idemnity/idemnity/Outcome" "<init>" 3 none := ok
  show Wp l ({ frames := 1, cells := 0, slots := 0, locals := 12 } : Room) n0 K (fun v h' => v = none ∧ Keep h h' [a] ∧ Exa Z h' a "com/example/idemnity/idemnity/Outcome" ∧ Fld Z h' a "com/example/idemnity/idemnity/Outcome" "status" "Lcom/example/idemnity/idemnity/Outcome$Status;" (.ref aE) ∧ Fld Z h' a "com/example/idemnity/idemnity/Outcome" "value" "Ljava/lang/Object;" .null) h 0 0 0 #[.val (.ref a), .val (.ref aE), .val .null] []
  have Kp : Keep h h [a] := Keep.refl _ _
  refine w_aloadN ok dC_0 rfl rfl ?_
  refine w_initO ok (hw _ (List.mem_of_getElem? (i := 12) rfl)) (hw _ (List.mem_of_getElem? (i := 13) rfl)) (hw _ (List.mem_of_getElem? (i := 14) rfl)) dC_1 rfl (Nat.le_of_ble_eq_true rfl) (Nat.le_of_ble_eq_true rfl) ?_
  refine w_aloadN ok dC_4 rfl rfl ?_
  refine w_aloadN ok dC_5 rfl rfl ?_
  refine w_putfield ok (host := "") (Or.inl (hw _ (List.mem_of_getElem? (i := 15) rfl))) Via.refl F_s E_a (Or.inr ⟨(hw _ (List.mem_of_getElem? (i := 16) rfl)), rfl, rfl⟩) (hw _ (List.mem_of_getElem? (i := 5) rfl)) (ty := (.object "com/example/idemnity/idemnity/Outcome$Status")) (by decide) rfl rfl gn_a dC_6 (fun h1 W1 => ?_)
  have E_a := E_a.wr W1
  have F_s := F_s.same W1
  have F_v := F_v.other W1 (Or.inr (slot_ne (Or.inr (hw _ (List.mem_of_getElem? (i := 18) rfl))) (Or.inr (hw _ (List.mem_of_getElem? (i := 16) rfl))) (by decide) (t := (.object "java/lang/Object")) (t' := (.object "com/example/idemnity/idemnity/Outcome$Status")) (by decide) (by decide)))
  have Z0 := Nat.le_trans Z0 (Keep.of_wr W1).1
  have Kp := Kp.wr W1 (Or.inl (List.mem_of_getElem? (i := 0) rfl))
  refine w_aloadN ok dC_9 rfl rfl ?_
  refine w_aloadN ok dC_10 rfl rfl ?_
  refine w_putfield ok (host := "") (Or.inl (hw _ (List.mem_of_getElem? (i := 17) rfl))) Via.refl F_v E_a (Or.inr ⟨(hw _ (List.mem_of_getElem? (i := 18) rfl)), rfl, rfl⟩) (hw _ (List.mem_of_getElem? (i := 5) rfl)) (ty := (.object "java/lang/Object")) (by decide) rfl rfl gn_a dC_11 (fun h2 W2 => ?_)
  have E_a := E_a.wr W2
  have F_s := F_s.other W2 (Or.inr (slot_ne (Or.inr (hw _ (List.mem_of_getElem? (i := 16) rfl))) (Or.inr (hw _ (List.mem_of_getElem? (i := 18) rfl))) (by decide) (t := (.object "com/example/idemnity/idemnity/Outcome$Status")) (t' := (.object "java/lang/Object")) (by decide) (by decide)))
  have F_v := F_v.same W2
  have Z0 := Nat.le_trans Z0 (Keep.of_wr W2).1
  have Kp := Kp.wr W2 (Or.inl (List.mem_of_getElem? (i := 0) rfl))
  refine w_return ok dC_14 (Nat.le_of_ble_eq_true rfl) (Nat.le_of_ble_eq_true rfl) ?_
  exact ⟨rfl, Kp, E_a, F_s, F_v⟩
theorem dE_0 : Fet prog_25_method_2_code 0 3 (.new 8) 3 := ⟨by decide +kernel, rfl⟩
theorem dE_3 : Fet prog_25_method_2_code 3 4 (.dup) 1 := ⟨by decide +kernel, rfl⟩
theorem dE_4 : Fet prog_25_method_2_code 4 7 (.getstatic 17) 3 := ⟨by decide +kernel, rfl⟩
theorem dE_7 : Fet prog_25_method_2_code 7 8 (.aload_n 0) 1 := ⟨by decide +kernel, rfl⟩
theorem dE_8 : Fet prog_25_method_2_code 8 11 (.invokespecial 22) 3 := ⟨by decide +kernel, rfl⟩
theorem pd__Lcom_example_idemnity_idemnity_Outcome_Status_Ljava_lang_Object__V : parseMethodDescriptor "(Lcom/example/idemnity/idemnity/Outcome$Status;Ljava/lang/Object;)V" = some ⟨[(.object "com/example/idemnity/idemnity/Outcome$Status"), (.object "java/lang/Object")], none⟩ := by decide +kernel
theorem dE_11 : Fet prog_25_method_2_code 11 12 (.areturn) 1 := ⟨by decide +kernel, rfl⟩
set_option maxRecDepth 65536 in
set_option maxHeartbeats 4000000 in
theorem rmEN (l : Launch) (Z : State) (a0 : Array Value) (hw : ∀ d ∈ tables_1, d.before a0 Z = true) (n0 : Nat) (aE : Addr) (h : Heap) (Z0 : n0 ≤ h.size) (S_E : Sta Z h "com/example/idemnity/idemnity/Outcome$Status" "EXECUTED" "Lcom/example/idemnity/idemnity/Outcome$Status;" (.ref aE)) :
    ConV l Z n0 (⟨"com/example/idemnity/idemnity/Outcome", "executed", "(Ljava/lang/Object;)Lcom/example/idemnity/idemnity/Outcome;"⟩ : MethodName) prog_25_method_2_code 1 (some (.object "com/example/idemnity/idemnity/Outcome")) [] ({ frames := 2, cells := 1, slots := 2, locals := 27 } : Room) #[.null] h (fun w h' => ∃ o : Addr, w = .ref o ∧ n0 ≤ o ∧ Keep h h' [] ∧ Exa Z h' o "com/example/idemnity/idemnity/Outcome" ∧ Fld Z h' o "com/example/idemnity/idemnity/Outcome" "status" "Lcom/example/idemnity/idemnity/Outcome$Status;" (.ref aE) ∧ Fld Z h' o "com/example/idemnity/idemnity/Outcome" "value" "Ljava/lang/Object;" .null) := by
  refine con_of_wp (Ls := #[.val .null]) (plainFor_of_name pn_com_example_idemnity_idemnity_Outcome) (fun m => by first | (simp [entryFrame, mkF, argsToLocals, Value.category]; done) | rfl) ?_
  intro K ok
  replace ok : Ok Z K prog_25_method_2_code "com/example/idemnity/idemnity/Outcome" "executed" 1 (some (.object "com/example/idemnity/idemnity/Outcome")) := ok
  show Wp l ({ frames := 2, cells := 1, slots := 2, locals := 27 } : Room) n0 K (fun v h' => ∃ w, v = some w ∧ ∃ o : Addr, w = .ref o ∧ n0 ≤ o ∧ Keep h h' [] ∧ Exa Z h' o "com/example/idemnity/idemnity/Outcome" ∧ Fld Z h' o "com/example/idemnity/idemnity/Outcome" "status" "Lcom/example/idemnity/idemnity/Outcome$Status;" (.ref aE) ∧ Fld Z h' o "com/example/idemnity/idemnity/Outcome" "value" "Ljava/lang/Object;" .null) h 0 0 0 #[.val .null] []
  have Kp : Keep h h [] := Keep.refl _ _
  refine w_new ok (hw _ (List.mem_of_getElem? (i := 4) rfl)) (hw _ (List.mem_of_getElem? (i := 5) rfl)) (hw _ (List.mem_of_getElem? (i := 2) rfl)) dE_0 (k' := 1) (n' := 2) rfl rfl (Nat.le_of_ble_eq_true rfl) (Nat.le_of_ble_eq_true rfl) (fun h1 b1 g1 E1 A1 D1 => ?_)
  have gn_b1 : n0 ≤ b1 := Nat.le_trans Z0 (Nat.le_of_eq g1.symm)
  have Z0 := Nat.le_trans Z0 E1.1
  have hz_b1 := Nat.le_trans Kp.1 (Nat.le_of_eq g1.symm)
  have Kp := Kp.ext E1
  have S_E := S_E.ext E1
  have F_b1_status : Fld Z h1 b1 "com/example/idemnity/idemnity/Outcome" "status" "Lcom/example/idemnity/idemnity/Outcome$Status;" .null := D1 (Or.inr (hw _ (List.mem_of_getElem? (i := 16) rfl))) (ty := (.object "com/example/idemnity/idemnity/Outcome$Status")) (by decide)
  have F_b1_value : Fld Z h1 b1 "com/example/idemnity/idemnity/Outcome" "value" "Ljava/lang/Object;" .null := D1 (Or.inr (hw _ (List.mem_of_getElem? (i := 18) rfl))) (ty := (.object "java/lang/Object")) (by decide)
  refine w_dup ok dE_3 rfl ?_
  refine w_getstatic ok (hw _ (List.mem_of_getElem? (i := 6) rfl)) Via.refl S_E dE_4 ?_
  refine w_aloadN ok dE_7 rfl rfl ?_
  refine w_init ok (argsL := [(.ref aE), .null]) (rest := [(.ref b1)]) rfl rfl (hw _ (List.mem_of_getElem? (i := 9) rfl)) (hw _ (List.mem_of_getElem? (i := 10) rfl)) (hw _ (List.mem_of_getElem? (i := 2) rfl)) (hw _ (List.mem_of_getElem? (i := 11) rfl)) (by decide) (rmCN l Z a0 hw n0 b1 aE h1 Z0 gn_b1 A1 F_b1_status F_b1_value) dE_8 (lenOf pd__Lcom_example_idemnity_idemnity_Outcome_Status_Ljava_lang_Object__V rfl) rfl rfl (Nat.le_of_ble_eq_true rfl) (Nat.le_of_ble_eq_true rfl) (k' := 1) (n' := 2) rfl rfl (Nat.le_of_ble_eq_true rfl) (Nat.le_of_ble_eq_true rfl) ?_
  rintro h9 ⟨Kc, A, F1, F2⟩
  have Z0 := Nat.le_trans Z0 Kc.1
  have Kp := Kp.trans Kc (allS (Or.inr hz_b1) all0)
  refine w_areturn ok rfl rfl rfl dE_11 (Nat.le_of_ble_eq_true rfl) (Nat.le_of_ble_eq_true rfl) ?_
  exact ⟨_, rfl, _, rfl, gn_b1, Kp, A, F1, F2⟩
theorem dG_0 : Fet prog_25_method_7_code 0 1 (.aload_n 0) 1 := ⟨by decide +kernel, rfl⟩
theorem dG_1 : Fet prog_25_method_7_code 1 4 (.getfield 7) 3 := ⟨by decide +kernel, rfl⟩
theorem dG_4 : Fet prog_25_method_7_code 4 7 (.getstatic 28) 3 := ⟨by decide +kernel, rfl⟩
theorem dG_7 : Brn prog_25_method_7_code 7 10 20 (.if_acmp .eq 13) 13 := ⟨by decide +kernel, rfl, by decide, by decide⟩
theorem dG_10 : Fet prog_25_method_7_code 10 11 (.aload_n 0) 1 := ⟨by decide +kernel, rfl⟩
theorem dG_11 : Fet prog_25_method_7_code 11 14 (.getfield 7) 3 := ⟨by decide +kernel, rfl⟩
theorem dG_14 : Fet prog_25_method_7_code 14 17 (.getstatic 31) 3 := ⟨by decide +kernel, rfl⟩
theorem dG_17 : Brn prog_25_method_7_code 17 20 40 (.if_acmp .ne 23) 23 := ⟨by decide +kernel, rfl, by decide, by decide⟩
theorem dG_40 : Fet prog_25_method_7_code 40 41 (.aload_n 0) 1 := ⟨by decide +kernel, rfl⟩
theorem dG_41 : Fet prog_25_method_7_code 41 44 (.getfield 13) 3 := ⟨by decide +kernel, rfl⟩
theorem dG_44 : Fet prog_25_method_7_code 44 45 (.areturn) 1 := ⟨by decide +kernel, rfl⟩
set_option maxRecDepth 65536 in
set_option maxHeartbeats 4000000 in
theorem rmGN (l : Launch) (Z : State) (a0 : Array Value) (hw : ∀ d ∈ tables_1, d.before a0 Z = true) (n0 : Nat) (a aE aI aM : Addr) (h : Heap) (F_s : Fld Z h a "com/example/idemnity/idemnity/Outcome" "status" "Lcom/example/idemnity/idemnity/Outcome$Status;" (.ref aE)) (F_v : Fld Z h a "com/example/idemnity/idemnity/Outcome" "value" "Ljava/lang/Object;" .null) (S_I : Sta Z h "com/example/idemnity/idemnity/Outcome$Status" "IN_PROGRESS" "Lcom/example/idemnity/idemnity/Outcome$Status;" (.ref aI)) (S_M : Sta Z h "com/example/idemnity/idemnity/Outcome$Status" "MISMATCH" "Lcom/example/idemnity/idemnity/Outcome$Status;" (.ref aM)) (nEI : aE ≠ aI) (nEM : aE ≠ aM) :
    ConV l Z n0 (⟨"com/example/idemnity/idemnity/Outcome", "value", "()Ljava/lang/Object;"⟩ : MethodName) prog_25_method_7_code 1 (some (.object "java/lang/Object")) [] ({ frames := 0, cells := 0, slots := 0, locals := 0 } : Room) #[(.ref a)] h (fun w h' => w = .null ∧ h = h') := by
  refine con_of_wp (Ls := #[.val (.ref a)]) (plainFor_of_name pn_com_example_idemnity_idemnity_Outcome) (fun m => by first | (simp [entryFrame, mkF, argsToLocals, Value.category]; done) | rfl) ?_
  intro K ok
  replace ok : Ok Z K prog_25_method_7_code "com/example/idemnity/idemnity/Outcome" "value" 1 (some (.object "java/lang/Object")) := ok
  show Wp l ({ frames := 0, cells := 0, slots := 0, locals := 0 } : Room) n0 K (fun v h' => ∃ w, v = some w ∧ w = .null ∧ h = h') h 0 0 0 #[.val (.ref a)] []
  refine w_aloadN ok dG_0 rfl rfl ?_
  refine w_getfield ok (host := "") (Or.inl (hw _ (List.mem_of_getElem? (i := 15) rfl))) Via.refl F_s dG_1 ?_
  refine w_getstatic ok (hw _ (List.mem_of_getElem? (i := 30) rfl)) Via.refl S_I dG_4 ?_
  refine w_acmp_eq ok dG_7 rfl rfl (fun q => absurd q (fun e => nEI (Value.ref.inj e))) (fun _ => ?_)
  refine w_aloadN ok dG_10 rfl rfl ?_
  refine w_getfield ok (host := "") (Or.inl (hw _ (List.mem_of_getElem? (i := 15) rfl))) Via.refl F_s dG_11 ?_
  refine w_getstatic ok (hw _ (List.mem_of_getElem? (i := 32) rfl)) Via.refl S_M dG_14 ?_
  refine w_acmp_ne ok dG_17 rfl rfl (fun _ => ?_) (fun q => absurd q (fun e => nEM (Value.ref.inj e)))
  refine w_aloadN ok dG_40 rfl rfl ?_
  refine w_getfield ok (host := "") (Or.inl (hw _ (List.mem_of_getElem? (i := 17) rfl))) Via.refl F_v dG_41 ?_
  refine w_areturn ok rfl rfl rfl dG_44 (Nat.le_of_ble_eq_true rfl) (Nat.le_of_ble_eq_true rfl) ?_
  exact ⟨_, rfl, rfl, rfl⟩
set_option maxRecDepth 65536 in
set_option maxHeartbeats 4000000 in
theorem rmCR (l : Launch) (Z : State) (a0 : Array Value) (hw : ∀ d ∈ tables_1, d.before a0 Z = true) (n0 : Nat) (a aE : Addr) (b : Addr) (h : Heap) (Z0 : n0 ≤ h.size) (gn_a : n0 ≤ a) (E_a : Exa Z h a "com/example/idemnity/idemnity/Outcome") (F_s : Fld Z h a "com/example/idemnity/idemnity/Outcome" "status" "Lcom/example/idemnity/idemnity/Outcome$Status;" .null) (F_v : Fld Z h a "com/example/idemnity/idemnity/Outcome" "value" "Ljava/lang/Object;" .null) :
    ConN l Z n0 (⟨"com/example/idemnity/idemnity/Outcome", "<init>", "(Lcom/example/idemnity/idemnity/Outcome$Status;Ljava/lang/Object;)V"⟩ : MethodName) prog_25_method_1_code 3 none [] ({ frames := 1, cells := 0, slots := 0, locals := 12 } : Room) #[(.ref a), (.ref aE), (.ref b)] h (fun h' => Keep h h' [a] ∧ Exa Z h' a "com/example/idemnity/idemnity/Outcome" ∧ Fld Z h' a "com/example/idemnity/idemnity/Outcome" "status" "Lcom/example/idemnity/idemnity/Outcome$Status;" (.ref aE) ∧ Fld Z h' a "com/example/idemnity/idemnity/Outcome" "value" "Ljava/lang/Object;" (.ref b)) := by
  refine con_of_wp (Ls := #[.val (.ref a), .val (.ref aE), .val (.ref b)]) (plainFor_of_name pn_com_example_idemnity_idemnity_Outcome) (fun m => by first | (simp [entryFrame, mkF, argsToLocals, Value.category]; done) | rfl) ?_
  intro K ok
  replace ok : Ok Z K prog_25_method_1_code "com/example/idemnity/idemnity/Outcome" "<init>" 3 none := ok
  show Wp l ({ frames := 1, cells := 0, slots := 0, locals := 12 } : Room) n0 K (fun v h' => v = none ∧ Keep h h' [a] ∧ Exa Z h' a "com/example/idemnity/idemnity/Outcome" ∧ Fld Z h' a "com/example/idemnity/idemnity/Outcome" "status" "Lcom/example/idemnity/idemnity/Outcome$Status;" (.ref aE) ∧ Fld Z h' a "com/example/idemnity/idemnity/Outcome" "value" "Ljava/lang/Object;" (.ref b)) h 0 0 0 #[.val (.ref a), .val (.ref aE), .val (.ref b)] []
  have Kp : Keep h h [a] := Keep.refl _ _
  refine w_aloadN ok dC_0 rfl rfl ?_
  refine w_initO ok (hw _ (List.mem_of_getElem? (i := 12) rfl)) (hw _ (List.mem_of_getElem? (i := 13) rfl)) (hw _ (List.mem_of_getElem? (i := 14) rfl)) dC_1 rfl (Nat.le_of_ble_eq_true rfl) (Nat.le_of_ble_eq_true rfl) ?_
  refine w_aloadN ok dC_4 rfl rfl ?_
  refine w_aloadN ok dC_5 rfl rfl ?_
  refine w_putfield ok (host := "") (Or.inl (hw _ (List.mem_of_getElem? (i := 15) rfl))) Via.refl F_s E_a (Or.inr ⟨(hw _ (List.mem_of_getElem? (i := 16) rfl)), rfl, rfl⟩) (hw _ (List.mem_of_getElem? (i := 5) rfl)) (ty := (.object "com/example/idemnity/idemnity/Outcome$Status")) (by decide) rfl rfl gn_a dC_6 (fun h1 W1 => ?_)
  have E_a := E_a.wr W1
  have F_s := F_s.same W1
  have F_v := F_v.other W1 (Or.inr (slot_ne (Or.inr (hw _ (List.mem_of_getElem? (i := 18) rfl))) (Or.inr (hw _ (List.mem_of_getElem? (i := 16) rfl))) (by decide) (t := (.object "java/lang/Object")) (t' := (.object "com/example/idemnity/idemnity/Outcome$Status")) (by decide) (by decide)))
  have Z0 := Nat.le_trans Z0 (Keep.of_wr W1).1
  have Kp := Kp.wr W1 (Or.inl (List.mem_of_getElem? (i := 0) rfl))
  refine w_aloadN ok dC_9 rfl rfl ?_
  refine w_aloadN ok dC_10 rfl rfl ?_
  refine w_putfield ok (host := "") (Or.inl (hw _ (List.mem_of_getElem? (i := 17) rfl))) Via.refl F_v E_a (Or.inr ⟨(hw _ (List.mem_of_getElem? (i := 18) rfl)), rfl, rfl⟩) (hw _ (List.mem_of_getElem? (i := 5) rfl)) (ty := (.object "java/lang/Object")) (by decide) rfl rfl gn_a dC_11 (fun h2 W2 => ?_)
  have E_a := E_a.wr W2
  have F_s := F_s.other W2 (Or.inr (slot_ne (Or.inr (hw _ (List.mem_of_getElem? (i := 16) rfl))) (Or.inr (hw _ (List.mem_of_getElem? (i := 18) rfl))) (by decide) (t := (.object "com/example/idemnity/idemnity/Outcome$Status")) (t' := (.object "java/lang/Object")) (by decide) (by decide)))
  have F_v := F_v.same W2
  have Z0 := Nat.le_trans Z0 (Keep.of_wr W2).1
  have Kp := Kp.wr W2 (Or.inl (List.mem_of_getElem? (i := 0) rfl))
  refine w_return ok dC_14 (Nat.le_of_ble_eq_true rfl) (Nat.le_of_ble_eq_true rfl) ?_
  exact ⟨rfl, Kp, E_a, F_s, F_v⟩
set_option maxRecDepth 65536 in
set_option maxHeartbeats 4000000 in
theorem rmER (l : Launch) (Z : State) (a0 : Array Value) (hw : ∀ d ∈ tables_1, d.before a0 Z = true) (n0 : Nat) (aE : Addr) (b : Addr) (h : Heap) (Z0 : n0 ≤ h.size) (S_E : Sta Z h "com/example/idemnity/idemnity/Outcome$Status" "EXECUTED" "Lcom/example/idemnity/idemnity/Outcome$Status;" (.ref aE)) :
    ConV l Z n0 (⟨"com/example/idemnity/idemnity/Outcome", "executed", "(Ljava/lang/Object;)Lcom/example/idemnity/idemnity/Outcome;"⟩ : MethodName) prog_25_method_2_code 1 (some (.object "com/example/idemnity/idemnity/Outcome")) [] ({ frames := 2, cells := 1, slots := 2, locals := 27 } : Room) #[(.ref b)] h (fun w h' => ∃ o : Addr, w = .ref o ∧ n0 ≤ o ∧ Keep h h' [] ∧ Exa Z h' o "com/example/idemnity/idemnity/Outcome" ∧ Fld Z h' o "com/example/idemnity/idemnity/Outcome" "status" "Lcom/example/idemnity/idemnity/Outcome$Status;" (.ref aE) ∧ Fld Z h' o "com/example/idemnity/idemnity/Outcome" "value" "Ljava/lang/Object;" (.ref b)) := by
  refine con_of_wp (Ls := #[.val (.ref b)]) (plainFor_of_name pn_com_example_idemnity_idemnity_Outcome) (fun m => by first | (simp [entryFrame, mkF, argsToLocals, Value.category]; done) | rfl) ?_
  intro K ok
  replace ok : Ok Z K prog_25_method_2_code "com/example/idemnity/idemnity/Outcome" "executed" 1 (some (.object "com/example/idemnity/idemnity/Outcome")) := ok
  show Wp l ({ frames := 2, cells := 1, slots := 2, locals := 27 } : Room) n0 K (fun v h' => ∃ w, v = some w ∧ ∃ o : Addr, w = .ref o ∧ n0 ≤ o ∧ Keep h h' [] ∧ Exa Z h' o "com/example/idemnity/idemnity/Outcome" ∧ Fld Z h' o "com/example/idemnity/idemnity/Outcome" "status" "Lcom/example/idemnity/idemnity/Outcome$Status;" (.ref aE) ∧ Fld Z h' o "com/example/idemnity/idemnity/Outcome" "value" "Ljava/lang/Object;" (.ref b)) h 0 0 0 #[.val (.ref b)] []
  have Kp : Keep h h [] := Keep.refl _ _
  refine w_new ok (hw _ (List.mem_of_getElem? (i := 4) rfl)) (hw _ (List.mem_of_getElem? (i := 5) rfl)) (hw _ (List.mem_of_getElem? (i := 2) rfl)) dE_0 (k' := 1) (n' := 2) rfl rfl (Nat.le_of_ble_eq_true rfl) (Nat.le_of_ble_eq_true rfl) (fun h1 b1 g1 E1 A1 D1 => ?_)
  have gn_b1 : n0 ≤ b1 := Nat.le_trans Z0 (Nat.le_of_eq g1.symm)
  have Z0 := Nat.le_trans Z0 E1.1
  have hz_b1 := Nat.le_trans Kp.1 (Nat.le_of_eq g1.symm)
  have Kp := Kp.ext E1
  have S_E := S_E.ext E1
  have F_b1_status : Fld Z h1 b1 "com/example/idemnity/idemnity/Outcome" "status" "Lcom/example/idemnity/idemnity/Outcome$Status;" .null := D1 (Or.inr (hw _ (List.mem_of_getElem? (i := 16) rfl))) (ty := (.object "com/example/idemnity/idemnity/Outcome$Status")) (by decide)
  have F_b1_value : Fld Z h1 b1 "com/example/idemnity/idemnity/Outcome" "value" "Ljava/lang/Object;" .null := D1 (Or.inr (hw _ (List.mem_of_getElem? (i := 18) rfl))) (ty := (.object "java/lang/Object")) (by decide)
  refine w_dup ok dE_3 rfl ?_
  refine w_getstatic ok (hw _ (List.mem_of_getElem? (i := 6) rfl)) Via.refl S_E dE_4 ?_
  refine w_aloadN ok dE_7 rfl rfl ?_
  refine w_init ok (argsL := [(.ref aE), (.ref b)]) (rest := [(.ref b1)]) rfl rfl (hw _ (List.mem_of_getElem? (i := 9) rfl)) (hw _ (List.mem_of_getElem? (i := 10) rfl)) (hw _ (List.mem_of_getElem? (i := 2) rfl)) (hw _ (List.mem_of_getElem? (i := 11) rfl)) (by decide) (rmCR l Z a0 hw n0 b1 aE b h1 Z0 gn_b1 A1 F_b1_status F_b1_value) dE_8 (lenOf pd__Lcom_example_idemnity_idemnity_Outcome_Status_Ljava_lang_Object__V rfl) rfl rfl (Nat.le_of_ble_eq_true rfl) (Nat.le_of_ble_eq_true rfl) (k' := 1) (n' := 2) rfl rfl (Nat.le_of_ble_eq_true rfl) (Nat.le_of_ble_eq_true rfl) ?_
  rintro h9 ⟨Kc, A, F1, F2⟩
  have Z0 := Nat.le_trans Z0 Kc.1
  have Kp := Kp.trans Kc (allS (Or.inr hz_b1) all0)
  refine w_areturn ok rfl rfl rfl dE_11 (Nat.le_of_ble_eq_true rfl) (Nat.le_of_ble_eq_true rfl) ?_
  exact ⟨_, rfl, _, rfl, gn_b1, Kp, A, F1, F2⟩
set_option maxRecDepth 65536 in
set_option maxHeartbeats 4000000 in
theorem rmGR (l : Launch) (Z : State) (a0 : Array Value) (hw : ∀ d ∈ tables_1, d.before a0 Z = true) (n0 : Nat) (a aE aI aM : Addr) (b : Addr) (h : Heap) (F_s : Fld Z h a "com/example/idemnity/idemnity/Outcome" "status" "Lcom/example/idemnity/idemnity/Outcome$Status;" (.ref aE)) (F_v : Fld Z h a "com/example/idemnity/idemnity/Outcome" "value" "Ljava/lang/Object;" (.ref b)) (S_I : Sta Z h "com/example/idemnity/idemnity/Outcome$Status" "IN_PROGRESS" "Lcom/example/idemnity/idemnity/Outcome$Status;" (.ref aI)) (S_M : Sta Z h "com/example/idemnity/idemnity/Outcome$Status" "MISMATCH" "Lcom/example/idemnity/idemnity/Outcome$Status;" (.ref aM)) (nEI : aE ≠ aI) (nEM : aE ≠ aM) :
    ConV l Z n0 (⟨"com/example/idemnity/idemnity/Outcome", "value", "()Ljava/lang/Object;"⟩ : MethodName) prog_25_method_7_code 1 (some (.object "java/lang/Object")) [] ({ frames := 0, cells := 0, slots := 0, locals := 0 } : Room) #[(.ref a)] h (fun w h' => w = (.ref b) ∧ h = h') := by
  refine con_of_wp (Ls := #[.val (.ref a)]) (plainFor_of_name pn_com_example_idemnity_idemnity_Outcome) (fun m => by first | (simp [entryFrame, mkF, argsToLocals, Value.category]; done) | rfl) ?_
  intro K ok
  replace ok : Ok Z K prog_25_method_7_code "com/example/idemnity/idemnity/Outcome" "value" 1 (some (.object "java/lang/Object")) := ok
  show Wp l ({ frames := 0, cells := 0, slots := 0, locals := 0 } : Room) n0 K (fun v h' => ∃ w, v = some w ∧ w = (.ref b) ∧ h = h') h 0 0 0 #[.val (.ref a)] []
  refine w_aloadN ok dG_0 rfl rfl ?_
  refine w_getfield ok (host := "") (Or.inl (hw _ (List.mem_of_getElem? (i := 15) rfl))) Via.refl F_s dG_1 ?_
  refine w_getstatic ok (hw _ (List.mem_of_getElem? (i := 30) rfl)) Via.refl S_I dG_4 ?_
  refine w_acmp_eq ok dG_7 rfl rfl (fun q => absurd q (fun e => nEI (Value.ref.inj e))) (fun _ => ?_)
  refine w_aloadN ok dG_10 rfl rfl ?_
  refine w_getfield ok (host := "") (Or.inl (hw _ (List.mem_of_getElem? (i := 15) rfl))) Via.refl F_s dG_11 ?_
  refine w_getstatic ok (hw _ (List.mem_of_getElem? (i := 32) rfl)) Via.refl S_M dG_14 ?_
  refine w_acmp_ne ok dG_17 rfl rfl (fun _ => ?_) (fun q => absurd q (fun e => nEM (Value.ref.inj e)))
  refine w_aloadN ok dG_40 rfl rfl ?_
  refine w_getfield ok (host := "") (Or.inl (hw _ (List.mem_of_getElem? (i := 17) rfl))) Via.refl F_v dG_41 ?_
  refine w_areturn ok rfl rfl rfl dG_44 (Nat.le_of_ble_eq_true rfl) (Nat.le_of_ble_eq_true rfl) ?_
  exact ⟨_, rfl, rfl, rfl⟩
theorem dS_0 : Fet prog_25_method_6_code 0 1 (.aload_n 0) 1 := ⟨by decide +kernel, rfl⟩
theorem dS_1 : Fet prog_25_method_6_code 1 4 (.getfield 7) 3 := ⟨by decide +kernel, rfl⟩
theorem dS_4 : Fet prog_25_method_6_code 4 5 (.areturn) 1 := ⟨by decide +kernel, rfl⟩
set_option maxRecDepth 65536 in
set_option maxHeartbeats 4000000 in
theorem rmS (l : Launch) (Z : State) (a0 : Array Value) (hw : ∀ d ∈ tables_1, d.before a0 Z = true) (n0 : Nat) (a aE : Addr) (h : Heap) (F_s : Fld Z h a "com/example/idemnity/idemnity/Outcome" "status" "Lcom/example/idemnity/idemnity/Outcome$Status;" (.ref aE)) :
    ConV l Z n0 (⟨"com/example/idemnity/idemnity/Outcome", "status", "()Lcom/example/idemnity/idemnity/Outcome$Status;"⟩ : MethodName) prog_25_method_6_code 1 (some (.object "com/example/idemnity/idemnity/Outcome$Status")) [] ({ frames := 0, cells := 0, slots := 0, locals := 0 } : Room) #[(.ref a)] h (fun w h' => w = .ref aE ∧ h = h') := by
  refine con_of_wp (Ls := #[.val (.ref a)]) (plainFor_of_name pn_com_example_idemnity_idemnity_Outcome) (fun m => by first | (simp [entryFrame, mkF, argsToLocals, Value.category]; done) | rfl) ?_
  intro K ok
  replace ok : Ok Z K prog_25_method_6_code "com/example/idemnity/idemnity/Outcome" "status" 1 (some (.object "com/example/idemnity/idemnity/Outcome$Status")) := ok
  show Wp l ({ frames := 0, cells := 0, slots := 0, locals := 0 } : Room) n0 K (fun v h' => ∃ w, v = some w ∧ w = .ref aE ∧ h = h') h 0 0 0 #[.val (.ref a)] []
  refine w_aloadN ok dS_0 rfl rfl ?_
  refine w_getfield ok (host := "") (Or.inl (hw _ (List.mem_of_getElem? (i := 15) rfl))) Via.refl F_s dS_1 ?_
  refine w_areturn ok rfl rfl rfl dS_4 (Nat.le_of_ble_eq_true rfl) (Nat.le_of_ble_eq_true rfl) ?_
  exact ⟨_, rfl, rfl, rfl⟩
theorem dX_0 : Fet jdk_33_method_27_code 0 1 (.aload_n 0) 1 := ⟨by decide +kernel, rfl⟩
theorem dX_1 : Fet jdk_33_method_27_code 1 4 (.getfield 205) 3 := ⟨by decide +kernel, rfl⟩
theorem dX_4 : Fet jdk_33_method_27_code 4 5 (.ireturn) 1 := ⟨by decide +kernel, rfl⟩
set_option maxRecDepth 65536 in
set_option maxHeartbeats 4000000 in
theorem rmX (l : Launch) (Z : State) (a0 : Array Value) (hw : ∀ d ∈ tables_1, d.before a0 Z = true) (n0 : Nat) (a : Addr) (x : Int32) (h : Heap) (F_v : Fld Z h a "java/lang/Integer" "value" "I" (.int x)) :
    ConV l Z n0 (⟨"java/lang/Integer", "intValue", "()I"⟩ : MethodName) jdk_33_method_27_code 1 (some .int) [] ({ frames := 0, cells := 0, slots := 0, locals := 0 } : Room) #[(.ref a)] h (fun w h' => w = .int x ∧ h = h') := by
  refine con_of_wp (Ls := #[.val (.ref a)]) (plainFor_of_name pn_java_lang_Integer) (fun m => by first | (simp [entryFrame, mkF, argsToLocals, Value.category]; done) | rfl) ?_
  intro K ok
  replace ok : Ok Z K jdk_33_method_27_code "java/lang/Integer" "intValue" 1 (some .int) := ok
  show Wp l ({ frames := 0, cells := 0, slots := 0, locals := 0 } : Room) n0 K (fun v h' => ∃ w, v = some w ∧ w = .int x ∧ h = h') h 0 0 0 #[.val (.ref a)] []
  refine w_aloadN ok dX_0 rfl rfl ?_
  refine w_getfield ok (host := "") (Or.inl (hw _ (List.mem_of_getElem? (i := 51) rfl))) Via.refl F_v dX_1 ?_
  refine w_ireturnI ok dX_4 (Nat.le_of_ble_eq_true rfl) (Nat.le_of_ble_eq_true rfl) ?_
  exact ⟨_, rfl, rfl, rfl⟩
theorem d0_0 : Fet code 0 1 (.iload_n 1) 1 := ⟨by decide +kernel, rfl⟩
theorem d0_1 : Fet code 1 2 (.iconst 1) 1 := ⟨by decide +kernel, rfl⟩
theorem d0_2 : Fet code 2 3 (.iand) 1 := ⟨by decide +kernel, rfl⟩
theorem d0_3 : Brn code 3 6 10 (.ifCond .eq 7) 7 := ⟨by decide +kernel, rfl, by decide, by decide⟩
theorem d0_10 : Fet code 10 11 (.iconst 0) 1 := ⟨by decide +kernel, rfl⟩
theorem d0_11 : Fet code 11 12 (.istore_n 2) 1 := ⟨by decide +kernel, rfl⟩
theorem d0_12 : Fet code 12 13 (.iload_n 2) 1 := ⟨by decide +kernel, rfl⟩
theorem d0_13 : Brn code 13 16 20 (.ifCond .eq 7) 7 := ⟨by decide +kernel, rfl, by decide, by decide⟩
theorem d0_20 : Fet code 20 21 (.iload_n 0) 1 := ⟨by decide +kernel, rfl⟩
theorem d0_21 : Fet code 21 24 (.invokestatic 7) 3 := ⟨by decide +kernel, rfl⟩
theorem pd__I_Ljava_lang_Integer_ : parseMethodDescriptor "(I)Ljava/lang/Integer;" = some ⟨[.int], some (.object "java/lang/Integer")⟩ := by decide +kernel
theorem d0_24 : Fet code 24 25 (.astore_n 3) 1 := ⟨by decide +kernel, rfl⟩
theorem d0_25 : Fet code 25 26 (.aload_n 3) 1 := ⟨by decide +kernel, rfl⟩
theorem d0_26 : Fet code 26 29 (.invokestatic 13) 3 := ⟨by decide +kernel, rfl⟩
theorem pd__Ljava_lang_Object__Lcom_example_idemnity_idemnity_Outcome_ : parseMethodDescriptor "(Ljava/lang/Object;)Lcom/example/idemnity/idemnity/Outcome;" = some ⟨[(.object "java/lang/Object")], some (.object "com/example/idemnity/idemnity/Outcome")⟩ := by decide +kernel
theorem d0_29 : Fet code 29 31 (.astore 4) 2 := ⟨by decide +kernel, rfl⟩
theorem d0_31 : Fet code 31 33 (.aload 4) 2 := ⟨by decide +kernel, rfl⟩
theorem d0_33 : Fet code 33 36 (.invokevirtual 19) 3 := ⟨by decide +kernel, rfl⟩
theorem pd___Lcom_example_idemnity_idemnity_Outcome_Status_ : parseMethodDescriptor "()Lcom/example/idemnity/idemnity/Outcome$Status;" = some ⟨[], some (.object "com/example/idemnity/idemnity/Outcome$Status")⟩ := by decide +kernel
theorem d0_36 : Fet code 36 39 (.getstatic 23) 3 := ⟨by decide +kernel, rfl⟩
theorem d0_39 : Brn code 39 42 44 (.if_acmp .eq 5) 5 := ⟨by decide +kernel, rfl, by decide, by decide⟩
theorem d0_44 : Fet code 44 46 (.aload 4) 2 := ⟨by decide +kernel, rfl⟩
theorem d0_46 : Fet code 46 49 (.invokevirtual 29) 3 := ⟨by decide +kernel, rfl⟩
theorem pd___Ljava_lang_Object_ : parseMethodDescriptor "()Ljava/lang/Object;" = some ⟨[], some (.object "java/lang/Object")⟩ := by decide +kernel
theorem d0_49 : Fet code 49 52 (.checkcast 8) 3 := ⟨by decide +kernel, rfl⟩
theorem d0_52 : Fet code 52 54 (.astore 5) 2 := ⟨by decide +kernel, rfl⟩
theorem d0_54 : Fet code 54 55 (.iload_n 2) 1 := ⟨by decide +kernel, rfl⟩
theorem d0_55 : Brn code 55 58 69 (.ifCond .eq 14) 14 := ⟨by decide +kernel, rfl, by decide, by decide⟩
theorem d0_69 : Fet code 69 71 (.aload 5) 2 := ⟨by decide +kernel, rfl⟩
theorem d0_71 : Fet code 71 72 (.aload_n 3) 1 := ⟨by decide +kernel, rfl⟩
theorem d0_72 : Brn code 72 75 88 (.if_acmp .ne 16) 16 := ⟨by decide +kernel, rfl, by decide, by decide⟩
theorem d0_75 : Fet code 75 77 (.aload 5) 2 := ⟨by decide +kernel, rfl⟩
theorem d0_77 : Fet code 77 80 (.invokevirtual 33) 3 := ⟨by decide +kernel, rfl⟩
theorem pd___I : parseMethodDescriptor "()I" = some ⟨[], some .int⟩ := by decide +kernel
theorem d0_80 : Fet code 80 81 (.iload_n 0) 1 := ⟨by decide +kernel, rfl⟩
theorem d0_81 : Brn code 81 84 88 (.if_icmp .ne 7) 7 := ⟨by decide +kernel, rfl, by decide, by decide⟩
theorem d0_84 : Fet code 84 85 (.iconst 1) 1 := ⟨by decide +kernel, rfl⟩
theorem d0_85 : Brn code 85 88 89 (.goto 4) 4 := ⟨by decide +kernel, rfl, by decide, by decide⟩
theorem d0_89 : Fet code 89 90 (.ireturn) 1 := ⟨by decide +kernel, rfl⟩
theorem d0_6 : Fet code 6 7 (.iconst 1) 1 := ⟨by decide +kernel, rfl⟩
theorem d0_7 : Brn code 7 10 11 (.goto 4) 4 := ⟨by decide +kernel, rfl, by decide, by decide⟩
theorem d0_16 : Fet code 16 17 (.aconst_null) 1 := ⟨by decide +kernel, rfl⟩
theorem d0_17 : Brn code 17 20 24 (.goto 7) 7 := ⟨by decide +kernel, rfl, by decide, by decide⟩
theorem d0_58 : Fet code 58 60 (.aload 5) 2 := ⟨by decide +kernel, rfl⟩
theorem d0_60 : Brn code 60 63 67 (.ifnonnull 7) 7 := ⟨by decide +kernel, rfl, by decide, by decide⟩
theorem d0_63 : Fet code 63 64 (.iconst 1) 1 := ⟨by decide +kernel, rfl⟩
theorem d0_64 : Brn code 64 67 68 (.goto 4) 4 := ⟨by decide +kernel, rfl, by decide, by decide⟩
theorem d0_68 : Fet code 68 69 (.ireturn) 1 := ⟨by decide +kernel, rfl⟩
theorem pn_com_example_idemnity_idemnity_OutcomeExecutedPinLaw : plainName "com/example/idemnity/idemnity/OutcomeExecutedPinLaw" = true := by first | (simp [plainName, overriddenIn]; done) | decide +kernel
set_option maxRecDepth 65536 in
set_option maxHeartbeats 4000000 in
theorem rm0 (l : Launch) (Z : State) (a0 : Array Value) (hw : ∀ d ∈ tables_1, d.before a0 Z = true) (n0 : Nat) (xx fl : Int32) (h : Heap) (Z0 : n0 ≤ h.size) (ac : Addr) (cc : Cell) (Ex : Ext Z.heap h) (S_h : Sta Z h "java/lang/Integer$IntegerCache" "high" "I" (.int (127 : Int32))) (S_c : Sta Z h "java/lang/Integer$IntegerCache" "cache" "[Ljava/lang/Integer;" (.ref ac)) (Bx : Bxs Z ac cc "java/lang/Integer" "I" 256 (fun j => .int (j - 128))) (aE aI aM : Addr) (S_E : Sta Z h "com/example/idemnity/idemnity/Outcome$Status" "EXECUTED" "Lcom/example/idemnity/idemnity/Outcome$Status;" (.ref aE)) (S_I : Sta Z h "com/example/idemnity/idemnity/Outcome$Status" "IN_PROGRESS" "Lcom/example/idemnity/idemnity/Outcome$Status;" (.ref aI)) (S_M : Sta Z h "com/example/idemnity/idemnity/Outcome$Status" "MISMATCH" "Lcom/example/idemnity/idemnity/Outcome$Status;" (.ref aM)) (nEI : aE ≠ aI) (nEM : aE ≠ aM) :
    ConV l Z n0 x code maxLocals ret tables_1 room_1 #[(.int xx), (.int fl)] h (fun w h' => w = .int 1) := by
  refine con_of_wp (Ls := #[.val (.int xx), .val (.int fl), .unset, .unset, .unset, .unset]) (plainFor_of_name pn_com_example_idemnity_idemnity_OutcomeExecutedPinLaw) (fun m => by first | (simp [entryFrame, mkF, argsToLocals, Value.category, maxLocals]; done) | rfl) ?_
  intro K ok
  replace ok : Ok Z K code "com/example/idemnity/idemnity/OutcomeExecutedPinLaw" "law" 6 (some .boolean) := ok
  show Wp l room_1 n0 K (fun v h' => ∃ w, v = some w ∧ w = .int 1) h 0 0 0 #[.val (.int xx), .val (.int fl), .unset, .unset, .unset, .unset] []
  refine w_iloadN ok d0_0 rfl ?_
  refine w_iconst ok (z := 1) d0_1 rfl ?_
  refine w_iand ok d0_2 ?_
  refine w_if_eq ok d0_3 (fun q => ?_) (fun q => ?_)
  · refine w_iconst ok (z := 0) d0_10 rfl ?_
    refine w_istoreN ok (Ls' := #[.val (.int xx), .val (.int fl), .val (.int (0 : Int32)), .unset, .unset, .unset]) d0_11 rfl ?_
    refine w_iloadN ok d0_12 rfl ?_
    refine w_if_eq ok d0_13 (fun _ => ?_) (fun q => absurd (by decide) q)
    refine w_iloadN ok d0_20 rfl ?_
    refine w_callSV ok (argsL := [(.int xx)]) (rest := []) (hw _ (List.mem_of_getElem? (i := 34) rfl)) (hw _ (List.mem_of_getElem? (i := 35) rfl)) (hw _ (List.mem_of_getElem? (i := 36) rfl)) (hw _ (List.mem_of_getElem? (i := 37) rfl)) (by decide) (rmV l Z a0 hw n0 xx h Z0 ac cc Ex S_h S_c Bx) d0_21 (lenOf pd__I_Ljava_lang_Integer_ rfl) rfl rfl (Nat.le_of_ble_eq_true rfl) (Nat.le_of_ble_eq_true rfl) (k' := 1) (n' := 1) rfl rfl (Nat.le_of_ble_eq_true rfl) (Nat.le_of_ble_eq_true rfl) ?_
    rintro _ hv ⟨b, rfl, Kc, E_b, F_b⟩
    have S_E := sta_keep0 S_E Kc
    have S_I := sta_keep0 S_I Kc
    have S_M := sta_keep0 S_M Kc
    have Z0 := Nat.le_trans Z0 Kc.1
    refine w_astoreN ok (Ls' := #[.val (.int xx), .val (.int fl), .val (.int (0 : Int32)), .val (.ref b), .unset, .unset]) d0_24 rfl rfl ?_
    refine w_aloadN ok d0_25 rfl rfl ?_
    refine w_callSV ok (argsL := [(.ref b)]) (rest := []) (hw _ (List.mem_of_getElem? (i := 0) rfl)) (hw _ (List.mem_of_getElem? (i := 1) rfl)) (hw _ (List.mem_of_getElem? (i := 2) rfl)) (hw _ (List.mem_of_getElem? (i := 3) rfl)) (by decide) (rmER l Z a0 hw n0 aE b hv Z0 S_E) d0_26 (lenOf pd__Ljava_lang_Object__Lcom_example_idemnity_idemnity_Outcome_ rfl) rfl rfl (Nat.le_of_ble_eq_true rfl) (Nat.le_of_ble_eq_true rfl) (k' := 2) (n' := 3) rfl rfl (Nat.le_of_ble_eq_true rfl) (Nat.le_of_ble_eq_true rfl) ?_
    rintro _ he ⟨o, rfl, gn_o, Kc, E_o, F_s, F_v⟩
    have S_E := sta_keep0 S_E Kc
    have S_I := sta_keep0 S_I Kc
    have S_M := sta_keep0 S_M Kc
    have E_b := E_b.keep Kc
    have F_b := F_b.keep Kc nin0
    have Z0 := Nat.le_trans Z0 Kc.1
    refine w_astore ok (Ls' := #[.val (.int xx), .val (.int fl), .val (.int (0 : Int32)), .val (.ref b), .val (.ref o), .unset]) d0_29 rfl rfl ?_
    refine w_aload ok d0_31 rfl rfl ?_
    refine w_virtV ok (argsL := []) (rest := []) (hw _ (List.mem_of_getElem? (i := 19) rfl)) (hw _ (List.mem_of_getElem? (i := 20) rfl)) (hw _ (List.mem_of_getElem? (i := 22) rfl)) (hw _ (List.mem_of_getElem? (i := 21) rfl)) (hw _ (List.mem_of_getElem? (i := 2) rfl)) (hw _ (List.mem_of_getElem? (i := 23) rfl)) E_o (by decide) (rmS l Z a0 hw n0 o aE he F_s) d0_33 (lenOf pd___Lcom_example_idemnity_idemnity_Outcome_Status_ rfl) rfl rfl (Nat.le_of_ble_eq_true rfl) (Nat.le_of_ble_eq_true rfl) (k' := 2) (n' := 3) rfl rfl (Nat.le_of_ble_eq_true rfl) (Nat.le_of_ble_eq_true rfl) ?_
    rintro _ _ ⟨rfl, rfl⟩
    refine w_getstatic ok (hw _ (List.mem_of_getElem? (i := 24) rfl)) Via.refl S_E d0_36 ?_
    refine w_acmp_eq ok d0_39 rfl rfl (fun _ => ?_) (fun q => absurd (rfl) q)
    refine w_aload ok d0_44 rfl rfl ?_
    refine w_virtV ok (argsL := []) (rest := []) (hw _ (List.mem_of_getElem? (i := 25) rfl)) (hw _ (List.mem_of_getElem? (i := 26) rfl)) (hw _ (List.mem_of_getElem? (i := 28) rfl)) (hw _ (List.mem_of_getElem? (i := 27) rfl)) (hw _ (List.mem_of_getElem? (i := 2) rfl)) (hw _ (List.mem_of_getElem? (i := 29) rfl)) E_o (by decide) (rmGR l Z a0 hw n0 o aE aI aM b he F_s F_v S_I S_M nEI nEM) d0_46 (lenOf pd___Ljava_lang_Object_ rfl) rfl rfl (Nat.le_of_ble_eq_true rfl) (Nat.le_of_ble_eq_true rfl) (k' := 2) (n' := 3) rfl rfl (Nat.le_of_ble_eq_true rfl) (Nat.le_of_ble_eq_true rfl) ?_
    rintro _ _ ⟨rfl, rfl⟩
    refine w_checkcast ok (hw _ (List.mem_of_getElem? (i := 53) rfl)) (own_self E_b (hw _ (List.mem_of_getElem? (i := 42) rfl))) d0_49 ?_
    refine w_astore ok (Ls' := #[.val (.int xx), .val (.int fl), .val (.int (0 : Int32)), .val (.ref b), .val (.ref o), .val (.ref b)]) d0_52 rfl rfl ?_
    refine w_iloadN ok d0_54 rfl ?_
    refine w_if_eq ok d0_55 (fun _ => ?_) (fun q => absurd (by decide) q)
    refine w_aload ok d0_69 rfl rfl ?_
    refine w_aloadN ok d0_71 rfl rfl ?_
    refine w_acmp_ne ok d0_72 rfl rfl (fun q => absurd (rfl) q) (fun _ => ?_)
    refine w_aload ok d0_75 rfl rfl ?_
    refine w_virtV ok (argsL := []) (rest := []) (hw _ (List.mem_of_getElem? (i := 54) rfl)) (hw _ (List.mem_of_getElem? (i := 55) rfl)) (hw _ (List.mem_of_getElem? (i := 57) rfl)) (hw _ (List.mem_of_getElem? (i := 56) rfl)) (hw _ (List.mem_of_getElem? (i := 36) rfl)) (hw _ (List.mem_of_getElem? (i := 58) rfl)) E_b (by decide) (rmX l Z a0 hw n0 b xx he F_b) d0_77 (lenOf pd___I rfl) rfl rfl (Nat.le_of_ble_eq_true rfl) (Nat.le_of_ble_eq_true rfl) (k' := 2) (n' := 3) rfl rfl (Nat.le_of_ble_eq_true rfl) (Nat.le_of_ble_eq_true rfl) ?_
    rintro _ _ ⟨rfl, rfl⟩
    refine w_iloadN ok d0_80 rfl ?_
    refine w_ic_ne ok d0_81 (fun q9 => ?_) (fun q9 => ?_)
    · exact absurd rfl q9
    · refine w_iconst ok (z := 1) d0_84 rfl ?_
      refine w_goto ok d0_85 ?_
      refine w_ireturnN ok (by simp) d0_89 (Nat.le_of_ble_eq_true rfl) (Nat.le_of_ble_eq_true rfl) ?_
      exact ⟨_, rfl, rfl⟩
  · refine w_iconst ok (z := 1) d0_6 rfl ?_
    refine w_goto ok d0_7 ?_
    refine w_istoreN ok (Ls' := #[.val (.int xx), .val (.int fl), .val (.int (1 : Int32)), .unset, .unset, .unset]) d0_11 rfl ?_
    refine w_iloadN ok d0_12 rfl ?_
    refine w_if_eq ok d0_13 (fun q => absurd q (by decide)) (fun _ => ?_)
    refine w_aconstNull ok d0_16 ?_
    refine w_goto ok d0_17 ?_
    refine w_astoreN ok (Ls' := #[.val (.int xx), .val (.int fl), .val (.int (1 : Int32)), .val .null, .unset, .unset]) d0_24 rfl rfl ?_
    refine w_aloadN ok d0_25 rfl rfl ?_
    refine w_callSV ok (argsL := [.null]) (rest := []) (hw _ (List.mem_of_getElem? (i := 0) rfl)) (hw _ (List.mem_of_getElem? (i := 1) rfl)) (hw _ (List.mem_of_getElem? (i := 2) rfl)) (hw _ (List.mem_of_getElem? (i := 3) rfl)) (by decide) (rmEN l Z a0 hw n0 aE h Z0 S_E) d0_26 (lenOf pd__Ljava_lang_Object__Lcom_example_idemnity_idemnity_Outcome_ rfl) rfl rfl (Nat.le_of_ble_eq_true rfl) (Nat.le_of_ble_eq_true rfl) (k' := 1) (n' := 2) rfl rfl (Nat.le_of_ble_eq_true rfl) (Nat.le_of_ble_eq_true rfl) ?_
    rintro _ he ⟨o, rfl, gn_o, Kc, E_o, F_s, F_v⟩
    have S_E := sta_keep0 S_E Kc
    have S_I := sta_keep0 S_I Kc
    have S_M := sta_keep0 S_M Kc
    have Z0 := Nat.le_trans Z0 Kc.1
    refine w_astore ok (Ls' := #[.val (.int xx), .val (.int fl), .val (.int (1 : Int32)), .val .null, .val (.ref o), .unset]) d0_29 rfl rfl ?_
    refine w_aload ok d0_31 rfl rfl ?_
    refine w_virtV ok (argsL := []) (rest := []) (hw _ (List.mem_of_getElem? (i := 19) rfl)) (hw _ (List.mem_of_getElem? (i := 20) rfl)) (hw _ (List.mem_of_getElem? (i := 22) rfl)) (hw _ (List.mem_of_getElem? (i := 21) rfl)) (hw _ (List.mem_of_getElem? (i := 2) rfl)) (hw _ (List.mem_of_getElem? (i := 23) rfl)) E_o (by decide) (rmS l Z a0 hw n0 o aE he F_s) d0_33 (lenOf pd___Lcom_example_idemnity_idemnity_Outcome_Status_ rfl) rfl rfl (Nat.le_of_ble_eq_true rfl) (Nat.le_of_ble_eq_true rfl) (k' := 1) (n' := 2) rfl rfl (Nat.le_of_ble_eq_true rfl) (Nat.le_of_ble_eq_true rfl) ?_
    rintro _ _ ⟨rfl, rfl⟩
    refine w_getstatic ok (hw _ (List.mem_of_getElem? (i := 24) rfl)) Via.refl S_E d0_36 ?_
    refine w_acmp_eq ok d0_39 rfl rfl (fun _ => ?_) (fun q => absurd (rfl) q)
    refine w_aload ok d0_44 rfl rfl ?_
    refine w_virtV ok (argsL := []) (rest := []) (hw _ (List.mem_of_getElem? (i := 25) rfl)) (hw _ (List.mem_of_getElem? (i := 26) rfl)) (hw _ (List.mem_of_getElem? (i := 28) rfl)) (hw _ (List.mem_of_getElem? (i := 27) rfl)) (hw _ (List.mem_of_getElem? (i := 2) rfl)) (hw _ (List.mem_of_getElem? (i := 29) rfl)) E_o (by decide) (rmGN l Z a0 hw n0 o aE aI aM he F_s F_v S_I S_M nEI nEM) d0_46 (lenOf pd___Ljava_lang_Object_ rfl) rfl rfl (Nat.le_of_ble_eq_true rfl) (Nat.le_of_ble_eq_true rfl) (k' := 1) (n' := 2) rfl rfl (Nat.le_of_ble_eq_true rfl) (Nat.le_of_ble_eq_true rfl) ?_
    rintro _ _ ⟨rfl, rfl⟩
    refine w_checkcastNull ok d0_49 ?_
    refine w_astore ok (Ls' := #[.val (.int xx), .val (.int fl), .val (.int (1 : Int32)), .val .null, .val (.ref o), .val .null]) d0_52 rfl rfl ?_
    refine w_iloadN ok d0_54 rfl ?_
    refine w_if_eq ok d0_55 (fun q => absurd q (by decide)) (fun _ => ?_)
    refine w_aload ok d0_58 rfl rfl ?_
    refine w_ifnonnull_no ok d0_60 ?_
    refine w_iconst ok (z := 1) d0_63 rfl ?_
    refine w_goto ok d0_64 ?_
    refine w_ireturnN ok (by simp) d0_68 (Nat.le_of_ble_eq_true rfl) (Nat.le_of_ble_eq_true rfl) ?_
    exact ⟨_, rfl, rfl⟩
set_option maxRecDepth 65536 in
set_option maxHeartbeats 4000000 in
theorem comes_1 {Post : Tables → Env → Array Value → State → Outcome → State → Prop} (hpost : ∀ tb e args s v u, (limb_1_1.after args s (.returned v) u = true ∧ limb_1_2.after args s (.returned v) u = true ∧ True) → FrameEnd s (.returned v) u (Jvm.fieldLocs frame_1_writes args s ++ Jvm.arrayLocs frame_1_arrays args s ++ Jvm.staticLocs frame_1_statics s) 16 128 → Post tb e args s (.returned v) u) :
    ArmFor flags0 classFile x code maxLocals ret World_1 tables_1 room_1 Calls_1 rest_1 Pre_1 Post := by
  intro l hfl _ _ p e ha hc hk s m args below hf hA hF happ hP
  obtain ⟨hcalls, hrest, hpre⟩ := hP
  obtain ⟨-, -, -, hnamed, -, -, -, hat⟩ := (Spec.applies_iff hf).mp happ
  obtain ⟨hg, hn⟩ := and_e (Cond.before_iff.mp (show (Jvm.Cond.and given_1 narrow_1).before args s = true from hpre))
  obtain ⟨hct, hg0⟩ := and_e hg
  obtain ⟨hk0, hg1⟩ := and_e hg0
  have hk1 := hg1
  obtain ⟨w0, w1, rfl⟩ : ∃ w0 w1 : Value, args = #[w0, w1] := by
    have hs : args.size = 2 := by simpa [Cond.value, given_1] using hct
    obtain ⟨L⟩ := args
    match L, hs with
    | [w0, w1], _ => exact ⟨w0, w1, rfl⟩
  have hw := fun d (hd : d ∈ tables_1) => atoms_spec (ws := Jvm.Cond.code x code maxLocals ret :: tables_1) hat d (List.mem_cons_of_mem _ hd)
  obtain ⟨i0, ei0⟩ := is_v hk0
  obtain rfl : w0 = (.int i0) := Option.some.inj ei0
  obtain ⟨i1, ei1⟩ := is_v hk1
  obtain rfl : w1 = (.int i1) := Option.some.inj ei1
  obtain ⟨m0, hn⟩ := and_e hn
  obtain ⟨m1, hn⟩ := and_e hn
  obtain ⟨m2, hn⟩ := and_e hn
  obtain ⟨m3, hn⟩ := and_e hn
  obtain ⟨m4, hn⟩ := and_e hn
  have m5 := hn
  obtain ⟨aE, evE⟩ := exa_v m0
  have S_E := Sta.start evE (Or.inr ⟨(hw _ (List.mem_of_getElem? (i := 7) rfl)), (hw _ (List.mem_of_getElem? (i := 8) rfl))⟩)
  obtain ⟨aI, evI⟩ := exa_v m1
  have S_I := Sta.start evI (Or.inr ⟨(hw _ (List.mem_of_getElem? (i := 7) rfl)), (hw _ (List.mem_of_getElem? (i := 31) rfl))⟩)
  obtain ⟨aM, evM⟩ := exa_v m4
  have S_M := Sta.start evM (Or.inr ⟨(hw _ (List.mem_of_getElem? (i := 7) rfl)), (hw _ (List.mem_of_getElem? (i := 33) rfl))⟩)
  have O_E := Fld.start ((fld_at evE).symm.trans (eqv_i (Term.int_eval _) m2))
  have O_I := Fld.start ((fld_at evI).symm.trans (eqv_i (Term.int_eval _) m3))
  have O_M := Fld.start ((fld_at evM).symm.trans (eqv_i (Term.int_eval _) m5))
  have nEI := Fld.ne O_E O_I (by decide)
  have nEM := Fld.ne O_E O_M (by decide)
  have hsets := (atoms_of jdkStatics_1 (show (jdkStatics_1.foldr Jvm.Cond.and restOwn_1).before _ s = true from hrest)).1
  have hv (i : Nat) (w : Jvm.Cond) (e : jdkStatics_1[i]? = some w) : w.value #[Value.int i0, Value.int i1] s none s [] = some true := Cond.before_iff.mp (hsets w (List.mem_of_getElem? e))
  have evh := eqv_i (Term.int_eval _) (hv 3 _ rfl)
  have S_h := Sta.start evh (Or.inl (hsets _ (List.mem_of_getElem? (i := 1) rfl)))
  obtain ⟨ac, evc⟩ := arr_v (hv 4 _ rfl)
  have S_c := Sta.start evc (Or.inr ⟨(hw _ (List.mem_of_getElem? (i := 60) rfl)), hsets _ (List.mem_of_getElem? (i := 2) rfl)⟩)
  obtain ⟨cc, A⟩ := Arr.start evc (hv 4 _ rfl)
  have hlen := eqv_i (Term.int_eval _) (hv 6 _ rfl)
  have hsz : cc.slots.size < 2 ^ 31 := own_len evc (A.fin (Vm.Alike.refl _)) hlen
  have hl2 : cc.slots.size.toInt32 = 256 := by
    have := (len_f evc (A.fin (Vm.Alike.refl _)) hsz).symm.trans hlen
    simpa using this
  have Bx : Bxs s ac cc "java/lang/Integer" "I" 256 (fun j => .int (j - 128)) := Bxs.start (fun idx => evc) A hsz hl2 (by decide) (hv 7 _ rfl) (fun X j hj h => eqv_i (own_idx hj) h)
  obtain ⟨n, o, h1, h2, h3, _, L, rfl, ⟨⟨_, rfl, rfl⟩, N⟩, hq⟩ := rm0 l s _ hw s.heap.size i0 i1 s.heap (Nat.le_refl _) ac cc ⟨Nat.le_refl _, fun _ _ q => q⟩ S_h S_c Bx aE aI aM S_E S_I S_M nEI nEM p e ha hc hk s m _ below hf ((Spec.applies_iff_loose hf).mp happ).1 ⟨rfl, State.Warmed39.refl s, rfl⟩ trivial
  refine ⟨n, _, h1, h2, h3, hpost _ _ _ _ _ _ ⟨Cond.after_iff.mpr rfl, Cond.after_iff.mpr (eq_i res_at (Term.int_eval (1)) rfl), trivial⟩ ⟨hq.1, hq.2.1, (hq.2.2.sift fun y hy => Or.inr (N y hy)).mono (by decide) (by decide)⟩⟩
theorem main_1_1 : Claimed_1_1 := comes_1 fun _ _ _ _ _ _ h hF => ⟨h.1, hF⟩
theorem main_1_2 : Claimed_1_2 := comes_1 fun _ _ _ _ _ _ h hF => ⟨h.2.1, hF⟩
end Jvm.Pilot.@@N@@
namespace Jvm.Pilot.@@N@@
open Jvm Jvm.ClassFile Sem Op Lib Jvm.Free Jvm.Stand Jvm.Pilot.@@N@@.Jvm.D
/-! MADE BY PROGRAM (witnessworld.py) out of the Statement's table words and the real class files: 18 classes; the members and pool entries that the words name. The judged class is class 1, her method 1. -/
namespace start1
open Jvm.ClassFile
def u (s : String) : CpInfo := .utf8 (stringToUtf16 s)
/-- a pool by its gaps: so many unusable entries, then the entry; so many at the end -/
def gap : Nat → List CpInfo → List CpInfo
  | 0, r => r
  | n + 1, r => .unusable :: gap n r
def poolList (es : List (Nat × CpInfo)) (last : Nat) : List CpInfo := es.foldr (fun e r => gap e.1 (e.2 :: r)) (gap last [])
def pool (es : List (Nat × CpInfo)) (last : Nat) : Array CpInfo := ⟨poolList es last⟩
def fileOf (pool : Array CpInfo) (this : Nat) (attrs : Array Attribute := #[]) (ms : Array MethodInfo := #[]) (fl : Nat := 33) (sup : Nat := 0) (ifs : Array Nat := #[]) (fds : Array FieldInfo := #[]) : ClassFile where
  minorVersion := 0
  majorVersion := 65
  constantPool := pool
  accessFlags := fl
  thisClass := this
  superClass := sup
  interfaces := ifs
  fields := fds
  methods := ms
  attributes := attrs
def plain (name : String) (sup : Option ClassId) : Class where
  name := name
  kind := .ordinary
  loader := none
  accessFlags := 33
  super := sup
  interfaces := #[]
  cf := none
  fields := #[]
  methods := #[]
  instanceTypes := #[]
  staticTypes := #[]
  resolved := #[]
  callSites := []
  init := .initialized
  statics := none
  mirror := none

def pool0 : Array CpInfo := pool [(5, u "<init>"), (0, u "()V"), (1, .class_ 10), (1, u "java/lang/Object")] 113

def k0c0 : Code := { maxStack := 0, maxLocals := 1, code := object_method_1_code, exceptionTable := #[], attributes := #[] }
def k0m0 : Method := { name := "<init>", desc := "()V", sig := { parameters := [], returnType := none }, accessFlags := 1, code := some k0c0 }
/-- java/lang/Object -/
def k0 : Class := { plain "java/lang/Object" none with
  accessFlags := 33
  interfaces := #[]
  cf := some (fileOf pool0 8 #[] #[{ accessFlags := 1, nameIndex := 5, descriptorIndex := 6, attributes := #[] }] 33 0 #[] #[])
  fields := #[]
  methods := #[k0m0]
  instanceTypes := #[]
  staticTypes := #[]
  resolved := Array.replicate 124 none
  statics := none }

def pool1 : Array CpInfo := pool [(2, .class_ 4), (1, u "java/lang/Object"), (0, u "<init>"), (0, u "()V"), (0, .methodref 8 9), (0, .class_ 10), (0, .nameAndType 11 12), (0, u "java/lang/Integer"), (0, u "valueOf"), (0, u "(I)Ljava/lang/Integer;"), (0, .methodref 14 15), (0, .class_ 16), (0, .nameAndType 17 18), (0, u "com/example/idemnity/idemnity/Outcome"), (0, u "executed"), (0, u "(Ljava/lang/Object;)Lcom/example/idemnity/idemnity/Outcome;"), (0, .methodref 14 20), (0, .nameAndType 21 22), (0, u "status"), (0, u "()Lcom/example/idemnity/idemnity/Outcome$Status;"), (0, .fieldref 24 25), (0, .class_ 26), (0, .nameAndType 27 28), (0, u "com/example/idemnity/idemnity/Outcome$Status"), (0, u "EXECUTED"), (0, u "Lcom/example/idemnity/idemnity/Outcome$Status;"), (0, .methodref 14 30), (0, .nameAndType 31 32), (0, u "value"), (0, u "()Ljava/lang/Object;"), (0, .methodref 8 34), (0, .nameAndType 35 36), (0, u "intValue"), (0, u "()I"), (0, .class_ 38), (0, u "com/example/idemnity/idemnity/OutcomeExecutedPinLaw"), (2, u "law"), (0, u "(II)Z")] 5

def k1m0 : Method := { name := "<init>", desc := "()V", sig := { parameters := [], returnType := none }, accessFlags := 1, code := none }
def k1c1 : Code := { maxStack := 2, maxLocals := 6, code := code, exceptionTable := #[], attributes := #[] }
def k1m1 : Method := { name := "law", desc := "(II)Z", sig := { parameters := [.int, .int], returnType := some .boolean }, accessFlags := 9, code := some k1c1 }
/-- com/example/idemnity/idemnity/OutcomeExecutedPinLaw -/
def k1 : Class := { plain "com/example/idemnity/idemnity/OutcomeExecutedPinLaw" (some 0) with
  accessFlags := 49
  interfaces := #[]
  cf := some (fileOf pool1 37 #[] #[{ accessFlags := 1, nameIndex := 5, descriptorIndex := 6, attributes := #[] }, { accessFlags := 9, nameIndex := 41, descriptorIndex := 42, attributes := #[] }] 49 2 #[] #[])
  fields := #[]
  methods := #[k1m0, k1m1]
  instanceTypes := #[]
  staticTypes := #[]
  resolved := Array.replicate 48 none
  statics := none }

def pool2 : Array CpInfo := pool [(1, .methodref 2 3), (0, .class_ 4), (0, .nameAndType 5 6), (0, u "java/lang/Object"), (0, u "<init>"), (0, u "()V"), (0, .fieldref 8 9), (0, .class_ 10), (0, .nameAndType 11 12), (0, u "com/example/idemnity/idemnity/Outcome"), (0, u "status"), (0, u "Lcom/example/idemnity/idemnity/Outcome$Status;"), (0, .fieldref 8 14), (0, .nameAndType 15 16), (0, u "value"), (0, u "Ljava/lang/Object;"), (0, .fieldref 18 19), (0, .class_ 20), (0, .nameAndType 21 12), (0, u "com/example/idemnity/idemnity/Outcome$Status"), (0, u "EXECUTED"), (0, .methodref 8 23), (0, .nameAndType 5 24), (0, u "(Lcom/example/idemnity/idemnity/Outcome$Status;Ljava/lang/Object;)V"), (3, .fieldref 18 29), (0, .nameAndType 30 12), (0, u "IN_PROGRESS"), (0, .fieldref 18 32), (0, .nameAndType 33 12), (0, u "MISMATCH"), (20, u "executed"), (0, u "(Ljava/lang/Object;)Lcom/example/idemnity/idemnity/Outcome;"), (6, u "()Lcom/example/idemnity/idemnity/Outcome$Status;"), (0, u "()Ljava/lang/Object;")] 22

def k2c0 : Code := { maxStack := 2, maxLocals := 3, code := prog_25_method_1_code, exceptionTable := #[], attributes := #[] }
def k2m0 : Method := { name := "<init>", desc := "(Lcom/example/idemnity/idemnity/Outcome$Status;Ljava/lang/Object;)V", sig := { parameters := [(.object "com/example/idemnity/idemnity/Outcome$Status"), (.object "java/lang/Object")], returnType := none }, accessFlags := 2, code := some k2c0 }
def k2c1 : Code := { maxStack := 4, maxLocals := 1, code := prog_25_method_2_code, exceptionTable := #[], attributes := #[] }
def k2m1 : Method := { name := "executed", desc := "(Ljava/lang/Object;)Lcom/example/idemnity/idemnity/Outcome;", sig := { parameters := [(.object "java/lang/Object")], returnType := some (.object "com/example/idemnity/idemnity/Outcome") }, accessFlags := 8, code := some k2c1 }
def k2c2 : Code := { maxStack := 1, maxLocals := 1, code := prog_25_method_6_code, exceptionTable := #[], attributes := #[] }
def k2m2 : Method := { name := "status", desc := "()Lcom/example/idemnity/idemnity/Outcome$Status;", sig := { parameters := [], returnType := some (.object "com/example/idemnity/idemnity/Outcome$Status") }, accessFlags := 1, code := some k2c2 }
def k2c3 : Code := { maxStack := 3, maxLocals := 1, code := prog_25_method_7_code, exceptionTable := #[], attributes := #[] }
def k2m3 : Method := { name := "value", desc := "()Ljava/lang/Object;", sig := { parameters := [], returnType := some (.object "java/lang/Object") }, accessFlags := 1, code := some k2c3 }
/-- com/example/idemnity/idemnity/Outcome -/
def k2 : Class := { plain "com/example/idemnity/idemnity/Outcome" (some 0) with
  accessFlags := 49
  interfaces := #[]
  cf := some (fileOf pool2 8 #[.nestMembers #[18]] #[{ accessFlags := 2, nameIndex := 5, descriptorIndex := 24, attributes := #[] }, { accessFlags := 8, nameIndex := 54, descriptorIndex := 55, attributes := #[] }, { accessFlags := 1, nameIndex := 11, descriptorIndex := 62, attributes := #[] }, { accessFlags := 1, nameIndex := 15, descriptorIndex := 63, attributes := #[] }] 49 2 #[] #[{ accessFlags := 18, nameIndex := 11, descriptorIndex := 12, attributes := #[] }, { accessFlags := 18, nameIndex := 15, descriptorIndex := 16, attributes := #[] }])
  fields := #[{ name := "status", type := (.object "com/example/idemnity/idemnity/Outcome$Status"), accessFlags := 18, slot := 0, constantValue := 0 }, { name := "value", type := (.object "java/lang/Object"), accessFlags := 18, slot := 1, constantValue := 0 }]
  methods := #[k2m0, k2m1, k2m2, k2m3]
  instanceTypes := #[(.object "com/example/idemnity/idemnity/Outcome$Status"), (.object "java/lang/Object")]
  staticTypes := #[]
  resolved := Array.replicate 86 none
  statics := none }

def pool3 : Array CpInfo := pool [(1, .class_ 2), (0, u "java/lang/constant/Constable"), (0, .class_ 4), (0, u "java/lang/Object")] 6

/-- java/lang/constant/Constable -/
def k3 : Class := { plain "java/lang/constant/Constable" (some 0) with
  accessFlags := 1537
  interfaces := #[]
  cf := some (fileOf pool3 1 #[] #[] 1537 3 #[] #[])
  fields := #[]
  methods := #[]
  instanceTypes := #[]
  staticTypes := #[]
  resolved := Array.replicate 11 none
  statics := none }

def pool4 : Array CpInfo := pool [(1, .class_ 2), (0, u "java/lang/Comparable"), (0, .class_ 4), (0, u "java/lang/Object")] 7

/-- java/lang/Comparable -/
def k4 : Class := { plain "java/lang/Comparable" (some 0) with
  accessFlags := 1537
  interfaces := #[]
  cf := some (fileOf pool4 1 #[] #[] 1537 3 #[] #[])
  fields := #[]
  methods := #[]
  instanceTypes := #[]
  staticTypes := #[]
  resolved := Array.replicate 12 none
  statics := none }

def pool5 : Array CpInfo := pool [(1, .class_ 2), (0, u "java/io/Serializable"), (0, .class_ 4), (0, u "java/lang/Object")] 2

/-- java/io/Serializable -/
def k5 : Class := { plain "java/io/Serializable" (some 0) with
  accessFlags := 1537
  interfaces := #[]
  cf := some (fileOf pool5 1 #[] #[] 1537 3 #[] #[])
  fields := #[]
  methods := #[]
  instanceTypes := #[]
  staticTypes := #[]
  resolved := Array.replicate 7 none
  statics := none }

def pool6 : Array CpInfo := pool [(2, .class_ 4), (1, u "java/lang/Enum"), (0, u "name"), (0, u "Ljava/lang/String;"), (2, u "ordinal"), (0, u "I"), (1, .class_ 14), (1, u "java/lang/Object"), (4, u "hash"), (86, .class_ 108), (1, u "java/lang/Enum$EnumDesc"), (2, .class_ 112), (0, u "java/lang/constant/Constable"), (0, .class_ 114), (0, u "java/lang/Comparable"), (0, .class_ 116), (0, u "java/io/Serializable")] 87

/-- java/lang/Enum -/
def k6 : Class := { plain "java/lang/Enum" (some 0) with
  accessFlags := 1057
  interfaces := #[3, 4, 5]
  cf := some (fileOf pool6 2 #[.nestMembers #[106]] #[] 1057 12 #[111, 113, 115] #[{ accessFlags := 18, nameIndex := 5, descriptorIndex := 6, attributes := #[] }, { accessFlags := 18, nameIndex := 9, descriptorIndex := 10, attributes := #[] }, { accessFlags := 2, nameIndex := 19, descriptorIndex := 10, attributes := #[] }])
  fields := #[{ name := "name", type := (.object "java/lang/String"), accessFlags := 18, slot := 0, constantValue := 0 }, { name := "ordinal", type := .int, accessFlags := 18, slot := 1, constantValue := 0 }, { name := "hash", type := .int, accessFlags := 2, slot := 2, constantValue := 0 }]
  methods := #[]
  instanceTypes := #[(.object "java/lang/String"), .int, .int]
  staticTypes := #[]
  resolved := Array.replicate 204 none
  statics := none }

def pool7 : Array CpInfo := pool [(1, .class_ 2), (0, u "com/example/idemnity/idemnity/Outcome$Status"), (2, u "EXECUTED"), (0, u "Lcom/example/idemnity/idemnity/Outcome$Status;"), (2, u "REPLAYED"), (2, u "IN_PROGRESS"), (2, u "MISMATCH"), (2, u "$VALUES"), (0, u "[Lcom/example/idemnity/idemnity/Outcome$Status;"), (6, .class_ 28), (1, u "java/lang/Enum"), (27, .class_ 57), (0, u "com/example/idemnity/idemnity/Outcome")] 2

/-- com/example/idemnity/idemnity/Outcome$Status -/
def k7 : Class := { plain "com/example/idemnity/idemnity/Outcome$Status" (some 6) with
  accessFlags := 16433
  interfaces := #[]
  cf := some (fileOf pool7 1 #[.nestHost 56] #[] 16433 26 #[] #[{ accessFlags := 16409, nameIndex := 5, descriptorIndex := 6, attributes := #[] }, { accessFlags := 16409, nameIndex := 9, descriptorIndex := 6, attributes := #[] }, { accessFlags := 16409, nameIndex := 12, descriptorIndex := 6, attributes := #[] }, { accessFlags := 16409, nameIndex := 15, descriptorIndex := 6, attributes := #[] }, { accessFlags := 4122, nameIndex := 18, descriptorIndex := 19, attributes := #[] }])
  fields := #[{ name := "EXECUTED", type := (.object "com/example/idemnity/idemnity/Outcome$Status"), accessFlags := 16409, slot := 0, constantValue := 0 }, { name := "REPLAYED", type := (.object "com/example/idemnity/idemnity/Outcome$Status"), accessFlags := 16409, slot := 1, constantValue := 0 }, { name := "IN_PROGRESS", type := (.object "com/example/idemnity/idemnity/Outcome$Status"), accessFlags := 16409, slot := 2, constantValue := 0 }, { name := "MISMATCH", type := (.object "com/example/idemnity/idemnity/Outcome$Status"), accessFlags := 16409, slot := 3, constantValue := 0 }, { name := "$VALUES", type := (.array (.object "com/example/idemnity/idemnity/Outcome$Status")), accessFlags := 4122, slot := 4, constantValue := 0 }]
  methods := #[]
  instanceTypes := #[(.object "java/lang/String"), .int, .int]
  staticTypes := #[(.object "com/example/idemnity/idemnity/Outcome$Status"), (.object "com/example/idemnity/idemnity/Outcome$Status"), (.object "com/example/idemnity/idemnity/Outcome$Status"), (.object "com/example/idemnity/idemnity/Outcome$Status"), (.array (.object "com/example/idemnity/idemnity/Outcome$Status"))]
  resolved := Array.replicate 60 none
  statics := some 0 }

def pool8 : Array CpInfo := pool [(1, .methodref 2 3), (0, .class_ 4), (0, .nameAndType 5 6), (0, u "java/lang/Object"), (0, u "<init>"), (0, u "()V"), (1, .class_ 10), (1, u "java/lang/Number"), (2, .class_ 14), (0, u "java/io/Serializable"), (0, u "serialVersionUID"), (0, u "J")] 20

def k8c0 : Code := { maxStack := 1, maxLocals := 1, code := jdk_18_method_1_code, exceptionTable := #[], attributes := #[] }
def k8m0 : Method := { name := "<init>", desc := "()V", sig := { parameters := [], returnType := none }, accessFlags := 1, code := some k8c0 }
/-- java/lang/Number -/
def k8 : Class := { plain "java/lang/Number" (some 0) with
  accessFlags := 1057
  interfaces := #[5]
  cf := some (fileOf pool8 8 #[] #[{ accessFlags := 1, nameIndex := 5, descriptorIndex := 6, attributes := #[] }] 1057 2 #[13] #[{ accessFlags := 26, nameIndex := 15, descriptorIndex := 16, attributes := #[] }])
  fields := #[{ name := "serialVersionUID", type := .long, accessFlags := 26, slot := 0, constantValue := 0 }]
  methods := #[k8m0]
  instanceTypes := #[]
  staticTypes := #[.long]
  resolved := Array.replicate 37 none
  statics := none }

def pool9 : Array CpInfo := pool [(1, .class_ 2), (0, u "java/lang/constant/ConstantDesc"), (0, .class_ 4), (0, u "java/lang/Object")] 32

/-- java/lang/constant/ConstantDesc -/
def k9 : Class := { plain "java/lang/constant/ConstantDesc" (some 0) with
  accessFlags := 1537
  interfaces := #[]
  cf := some (fileOf pool9 1 #[] #[] 1537 3 #[] #[])
  fields := #[]
  methods := #[]
  instanceTypes := #[]
  staticTypes := #[]
  resolved := Array.replicate 37 none
  statics := none }

def pool10 : Array CpInfo := pool [(1, .class_ 2), (0, u "java/lang/Integer"), (16, u "digits"), (0, u "[C"), (46, u "<init>"), (17, u "DigitOnes"), (0, u "[B"), (2, u "DigitTens"), (10, .nameAndType 67 101), (0, u "()V"), (19, u "()I"), (65, u "valueOf"), (0, u "(I)Ljava/lang/Integer;"), (0, .class_ 190), (0, u "java/lang/Integer$IntegerCache"), (0, .fieldref 189 192), (0, .nameAndType 193 194), (0, u "high"), (0, u "I"), (0, .fieldref 189 196), (0, .nameAndType 197 198), (0, u "cache"), (0, u "[Ljava/lang/Integer;"), (0, .methodref 1 200), (0, .nameAndType 67 201), (0, u "(I)V"), (0, .methodref 203 100), (0, .class_ 204), (0, u "java/lang/Number"), (0, .fieldref 1 206), (0, .nameAndType 207 194), (0, u "value"), (5, u "intValue"), (88, u "TYPE"), (0, u "Ljava/lang/Class;"), (0, .class_ 305), (0, u "java/lang/Comparable"), (0, .class_ 307), (0, u "java/lang/constant/Constable"), (0, .class_ 309), (0, u "java/lang/constant/ConstantDesc"), (0, u "MIN_VALUE"), (1, u "MAX_VALUE"), (3, u "SIZE"), (1, u "BYTES"), (1, u "serialVersionUID"), (0, u "J")] 131

def k10c0 : Code := { maxStack := 3, maxLocals := 1, code := jdk_33_method_22_code, exceptionTable := #[], attributes := #[] }
def k10m0 : Method := { name := "valueOf", desc := "(I)Ljava/lang/Integer;", sig := { parameters := [.int], returnType := some (.object "java/lang/Integer") }, accessFlags := 9, code := some k10c0 }
def k10c1 : Code := { maxStack := 2, maxLocals := 2, code := jdk_33_method_23_code, exceptionTable := #[], attributes := #[] }
def k10m1 : Method := { name := "<init>", desc := "(I)V", sig := { parameters := [.int], returnType := none }, accessFlags := 1, code := some k10c1 }
def k10c2 : Code := { maxStack := 1, maxLocals := 1, code := jdk_33_method_27_code, exceptionTable := #[], attributes := #[] }
def k10m2 : Method := { name := "intValue", desc := "()I", sig := { parameters := [], returnType := some .int }, accessFlags := 1, code := some k10c2 }
/-- java/lang/Integer -/
def k10 : Class := { plain "java/lang/Integer" (some 8) with
  accessFlags := 49
  interfaces := #[4, 3, 9]
  cf := some (fileOf pool10 1 #[.nestMembers #[189]] #[{ accessFlags := 9, nameIndex := 187, descriptorIndex := 188, attributes := #[] }, { accessFlags := 1, nameIndex := 67, descriptorIndex := 201, attributes := #[] }, { accessFlags := 1, nameIndex := 213, descriptorIndex := 121, attributes := #[] }] 49 203 #[304, 306, 308] #[{ accessFlags := 25, nameIndex := 310, descriptorIndex := 194, attributes := #[] }, { accessFlags := 25, nameIndex := 312, descriptorIndex := 194, attributes := #[] }, { accessFlags := 25, nameIndex := 302, descriptorIndex := 303, attributes := #[] }, { accessFlags := 24, nameIndex := 19, descriptorIndex := 20, attributes := #[] }, { accessFlags := 24, nameIndex := 89, descriptorIndex := 86, attributes := #[] }, { accessFlags := 24, nameIndex := 85, descriptorIndex := 86, attributes := #[] }, { accessFlags := 18, nameIndex := 207, descriptorIndex := 194, attributes := #[] }, { accessFlags := 25, nameIndex := 316, descriptorIndex := 194, attributes := #[] }, { accessFlags := 25, nameIndex := 318, descriptorIndex := 194, attributes := #[] }, { accessFlags := 26, nameIndex := 320, descriptorIndex := 321, attributes := #[] }])
  fields := #[{ name := "MIN_VALUE", type := .int, accessFlags := 25, slot := 0, constantValue := 0 }, { name := "MAX_VALUE", type := .int, accessFlags := 25, slot := 1, constantValue := 0 }, { name := "TYPE", type := (.object "java/lang/Class"), accessFlags := 25, slot := 2, constantValue := 0 }, { name := "digits", type := (.array .char), accessFlags := 24, slot := 3, constantValue := 0 }, { name := "DigitTens", type := (.array .byte), accessFlags := 24, slot := 4, constantValue := 0 }, { name := "DigitOnes", type := (.array .byte), accessFlags := 24, slot := 5, constantValue := 0 }, { name := "value", type := .int, accessFlags := 18, slot := 0, constantValue := 0 }, { name := "SIZE", type := .int, accessFlags := 25, slot := 6, constantValue := 0 }, { name := "BYTES", type := .int, accessFlags := 25, slot := 7, constantValue := 0 }, { name := "serialVersionUID", type := .long, accessFlags := 26, slot := 8, constantValue := 0 }]
  methods := #[k10m0, k10m1, k10m2]
  instanceTypes := #[.int]
  staticTypes := #[.int, .int, (.object "java/lang/Class"), (.array .char), (.array .byte), (.array .byte), .int, .int, .long]
  resolved := Array.replicate 453 none
  statics := none }

def pool11 : Array CpInfo := pool [(2, .class_ 4), (1, u "java/lang/Object"), (0, u "<init>"), (0, u "()V"), (0, .class_ 8), (0, u "java/lang/Integer"), (7, .class_ 18), (1, u "java/lang/Integer$IntegerCache"), (0, u "$assertionsDisabled"), (0, u "Z"), (26, u "high"), (0, u "I"), (8, u "archivedCache"), (0, u "[Ljava/lang/Integer;"), (12, u "cache"), (0, u "low")] 27

def k11m0 : Method := { name := "<init>", desc := "()V", sig := { parameters := [], returnType := none }, accessFlags := 2, code := none }
/-- java/lang/Integer$IntegerCache -/
def k11 : Class := { plain "java/lang/Integer$IntegerCache" (some 0) with
  accessFlags := 48
  interfaces := #[]
  cf := some (fileOf pool11 16 #[.nestHost 7] #[{ accessFlags := 2, nameIndex := 5, descriptorIndex := 6, attributes := #[] }] 48 2 #[] #[{ accessFlags := 24, nameIndex := 72, descriptorIndex := 48, attributes := #[] }, { accessFlags := 24, nameIndex := 47, descriptorIndex := 48, attributes := #[] }, { accessFlags := 24, nameIndex := 71, descriptorIndex := 58, attributes := #[] }, { accessFlags := 8, nameIndex := 57, descriptorIndex := 58, attributes := #[] }, { accessFlags := 4120, nameIndex := 19, descriptorIndex := 20, attributes := #[] }])
  fields := #[{ name := "low", type := .int, accessFlags := 24, slot := 0, constantValue := 0 }, { name := "high", type := .int, accessFlags := 24, slot := 1, constantValue := 0 }, { name := "cache", type := (.array (.object "java/lang/Integer")), accessFlags := 24, slot := 2, constantValue := 0 }, { name := "archivedCache", type := (.array (.object "java/lang/Integer")), accessFlags := 8, slot := 3, constantValue := 0 }, { name := "$assertionsDisabled", type := .boolean, accessFlags := 4120, slot := 4, constantValue := 0 }]
  methods := #[k11m0]
  instanceTypes := #[]
  staticTypes := #[.int, .int, (.array (.object "java/lang/Integer")), (.array (.object "java/lang/Integer")), .boolean]
  resolved := Array.replicate 100 none
  statics := some 1 }

def pool12 : Array CpInfo := pool [(1, u "java/lang/Cloneable"), (0, .class_ 1), (0, u "java/lang/Object"), (0, .class_ 3)] 3

/-- java/lang/Cloneable -/
def k12 : Class := { plain "java/lang/Cloneable" (some 0) with
  accessFlags := 1537
  interfaces := #[]
  cf := some (fileOf pool12 2 #[] #[] 1537 4 #[] #[])
  fields := #[]
  methods := #[]
  instanceTypes := #[]
  staticTypes := #[]
  resolved := Array.replicate 8 none
  statics := none }

/-- the primitive byte -/
def k13 : Class := { plain "byte" none with kind := .primitive 'B', accessFlags := 0x411 }
/-- [B -/
def k14 : Class := { plain "[B" (some 0) with kind := .array 13 .byte, interfaces := #[12, 5], accessFlags := 1041 }

/-- the primitive int -/
def k15 : Class := { plain "int" none with kind := .primitive 'I', accessFlags := 0x411 }
/-- [I -/
def k16 : Class := { plain "[I" (some 0) with kind := .array 15 .int, interfaces := #[12, 5], accessFlags := 1041 }

/-- [Ljava/lang/Integer; -/
def k17 : Class := { plain "[Ljava/lang/Integer;" (some 0) with kind := .array 10 (.object "java/lang/Integer"), interfaces := #[12, 5], accessFlags := 1041 }

def heap : Heap := #[{ cls := 7, slots := #[.ref 259, .null, .ref 260, .ref 261, .null], vm := .statics 7 },
  { cls := 11, slots := #[.int 0, .int 127, .ref 2, .null, .int 0], vm := .statics 11 },
  { cls := 17, slots := #[.ref 3, .ref 4, .ref 5, .ref 6, .ref 7, .ref 8, .ref 9, .ref 10, .ref 11, .ref 12, .ref 13, .ref 14, .ref 15, .ref 16, .ref 17, .ref 18, .ref 19, .ref 20, .ref 21, .ref 22, .ref 23, .ref 24, .ref 25, .ref 26, .ref 27, .ref 28, .ref 29, .ref 30, .ref 31, .ref 32, .ref 33, .ref 34, .ref 35, .ref 36, .ref 37, .ref 38, .ref 39, .ref 40, .ref 41, .ref 42, .ref 43, .ref 44, .ref 45, .ref 46, .ref 47, .ref 48, .ref 49, .ref 50, .ref 51, .ref 52, .ref 53, .ref 54, .ref 55, .ref 56, .ref 57, .ref 58, .ref 59, .ref 60, .ref 61, .ref 62, .ref 63, .ref 64, .ref 65, .ref 66, .ref 67, .ref 68, .ref 69, .ref 70, .ref 71, .ref 72, .ref 73, .ref 74, .ref 75, .ref 76, .ref 77, .ref 78, .ref 79, .ref 80, .ref 81, .ref 82, .ref 83, .ref 84, .ref 85, .ref 86, .ref 87, .ref 88, .ref 89, .ref 90, .ref 91, .ref 92, .ref 93, .ref 94, .ref 95, .ref 96, .ref 97, .ref 98, .ref 99, .ref 100, .ref 101, .ref 102, .ref 103, .ref 104, .ref 105, .ref 106, .ref 107, .ref 108, .ref 109, .ref 110, .ref 111, .ref 112, .ref 113, .ref 114, .ref 115, .ref 116, .ref 117, .ref 118, .ref 119, .ref 120, .ref 121, .ref 122, .ref 123, .ref 124, .ref 125, .ref 126, .ref 127, .ref 128, .ref 129, .ref 130, .ref 131, .ref 132, .ref 133, .ref 134, .ref 135, .ref 136, .ref 137, .ref 138, .ref 139, .ref 140, .ref 141, .ref 142, .ref 143, .ref 144, .ref 145, .ref 146, .ref 147, .ref 148, .ref 149, .ref 150, .ref 151, .ref 152, .ref 153, .ref 154, .ref 155, .ref 156, .ref 157, .ref 158, .ref 159, .ref 160, .ref 161, .ref 162, .ref 163, .ref 164, .ref 165, .ref 166, .ref 167, .ref 168, .ref 169, .ref 170, .ref 171, .ref 172, .ref 173, .ref 174, .ref 175, .ref 176, .ref 177, .ref 178, .ref 179, .ref 180, .ref 181, .ref 182, .ref 183, .ref 184, .ref 185, .ref 186, .ref 187, .ref 188, .ref 189, .ref 190, .ref 191, .ref 192, .ref 193, .ref 194, .ref 195, .ref 196, .ref 197, .ref 198, .ref 199, .ref 200, .ref 201, .ref 202, .ref 203, .ref 204, .ref 205, .ref 206, .ref 207, .ref 208, .ref 209, .ref 210, .ref 211, .ref 212, .ref 213, .ref 214, .ref 215, .ref 216, .ref 217, .ref 218, .ref 219, .ref 220, .ref 221, .ref 222, .ref 223, .ref 224, .ref 225, .ref 226, .ref 227, .ref 228, .ref 229, .ref 230, .ref 231, .ref 232, .ref 233, .ref 234, .ref 235, .ref 236, .ref 237, .ref 238, .ref 239, .ref 240, .ref 241, .ref 242, .ref 243, .ref 244, .ref 245, .ref 246, .ref 247, .ref 248, .ref 249, .ref 250, .ref 251, .ref 252, .ref 253, .ref 254, .ref 255, .ref 256, .ref 257, .ref 258], vm := .none },
  { cls := 10, slots := #[.int (-128)], vm := .none },
  { cls := 10, slots := #[.int (-127)], vm := .none },
  { cls := 10, slots := #[.int (-126)], vm := .none },
  { cls := 10, slots := #[.int (-125)], vm := .none },
  { cls := 10, slots := #[.int (-124)], vm := .none },
  { cls := 10, slots := #[.int (-123)], vm := .none },
  { cls := 10, slots := #[.int (-122)], vm := .none },
  { cls := 10, slots := #[.int (-121)], vm := .none },
  { cls := 10, slots := #[.int (-120)], vm := .none },
  { cls := 10, slots := #[.int (-119)], vm := .none },
  { cls := 10, slots := #[.int (-118)], vm := .none },
  { cls := 10, slots := #[.int (-117)], vm := .none },
  { cls := 10, slots := #[.int (-116)], vm := .none },
  { cls := 10, slots := #[.int (-115)], vm := .none },
  { cls := 10, slots := #[.int (-114)], vm := .none },
  { cls := 10, slots := #[.int (-113)], vm := .none },
  { cls := 10, slots := #[.int (-112)], vm := .none },
  { cls := 10, slots := #[.int (-111)], vm := .none },
  { cls := 10, slots := #[.int (-110)], vm := .none },
  { cls := 10, slots := #[.int (-109)], vm := .none },
  { cls := 10, slots := #[.int (-108)], vm := .none },
  { cls := 10, slots := #[.int (-107)], vm := .none },
  { cls := 10, slots := #[.int (-106)], vm := .none },
  { cls := 10, slots := #[.int (-105)], vm := .none },
  { cls := 10, slots := #[.int (-104)], vm := .none },
  { cls := 10, slots := #[.int (-103)], vm := .none },
  { cls := 10, slots := #[.int (-102)], vm := .none },
  { cls := 10, slots := #[.int (-101)], vm := .none },
  { cls := 10, slots := #[.int (-100)], vm := .none },
  { cls := 10, slots := #[.int (-99)], vm := .none },
  { cls := 10, slots := #[.int (-98)], vm := .none },
  { cls := 10, slots := #[.int (-97)], vm := .none },
  { cls := 10, slots := #[.int (-96)], vm := .none },
  { cls := 10, slots := #[.int (-95)], vm := .none },
  { cls := 10, slots := #[.int (-94)], vm := .none },
  { cls := 10, slots := #[.int (-93)], vm := .none },
  { cls := 10, slots := #[.int (-92)], vm := .none },
  { cls := 10, slots := #[.int (-91)], vm := .none },
  { cls := 10, slots := #[.int (-90)], vm := .none },
  { cls := 10, slots := #[.int (-89)], vm := .none },
  { cls := 10, slots := #[.int (-88)], vm := .none },
  { cls := 10, slots := #[.int (-87)], vm := .none },
  { cls := 10, slots := #[.int (-86)], vm := .none },
  { cls := 10, slots := #[.int (-85)], vm := .none },
  { cls := 10, slots := #[.int (-84)], vm := .none },
  { cls := 10, slots := #[.int (-83)], vm := .none },
  { cls := 10, slots := #[.int (-82)], vm := .none },
  { cls := 10, slots := #[.int (-81)], vm := .none },
  { cls := 10, slots := #[.int (-80)], vm := .none },
  { cls := 10, slots := #[.int (-79)], vm := .none },
  { cls := 10, slots := #[.int (-78)], vm := .none },
  { cls := 10, slots := #[.int (-77)], vm := .none },
  { cls := 10, slots := #[.int (-76)], vm := .none },
  { cls := 10, slots := #[.int (-75)], vm := .none },
  { cls := 10, slots := #[.int (-74)], vm := .none },
  { cls := 10, slots := #[.int (-73)], vm := .none },
  { cls := 10, slots := #[.int (-72)], vm := .none },
  { cls := 10, slots := #[.int (-71)], vm := .none },
  { cls := 10, slots := #[.int (-70)], vm := .none },
  { cls := 10, slots := #[.int (-69)], vm := .none },
  { cls := 10, slots := #[.int (-68)], vm := .none },
  { cls := 10, slots := #[.int (-67)], vm := .none },
  { cls := 10, slots := #[.int (-66)], vm := .none },
  { cls := 10, slots := #[.int (-65)], vm := .none },
  { cls := 10, slots := #[.int (-64)], vm := .none },
  { cls := 10, slots := #[.int (-63)], vm := .none },
  { cls := 10, slots := #[.int (-62)], vm := .none },
  { cls := 10, slots := #[.int (-61)], vm := .none },
  { cls := 10, slots := #[.int (-60)], vm := .none },
  { cls := 10, slots := #[.int (-59)], vm := .none },
  { cls := 10, slots := #[.int (-58)], vm := .none },
  { cls := 10, slots := #[.int (-57)], vm := .none },
  { cls := 10, slots := #[.int (-56)], vm := .none },
  { cls := 10, slots := #[.int (-55)], vm := .none },
  { cls := 10, slots := #[.int (-54)], vm := .none },
  { cls := 10, slots := #[.int (-53)], vm := .none },
  { cls := 10, slots := #[.int (-52)], vm := .none },
  { cls := 10, slots := #[.int (-51)], vm := .none },
  { cls := 10, slots := #[.int (-50)], vm := .none },
  { cls := 10, slots := #[.int (-49)], vm := .none },
  { cls := 10, slots := #[.int (-48)], vm := .none },
  { cls := 10, slots := #[.int (-47)], vm := .none },
  { cls := 10, slots := #[.int (-46)], vm := .none },
  { cls := 10, slots := #[.int (-45)], vm := .none },
  { cls := 10, slots := #[.int (-44)], vm := .none },
  { cls := 10, slots := #[.int (-43)], vm := .none },
  { cls := 10, slots := #[.int (-42)], vm := .none },
  { cls := 10, slots := #[.int (-41)], vm := .none },
  { cls := 10, slots := #[.int (-40)], vm := .none },
  { cls := 10, slots := #[.int (-39)], vm := .none },
  { cls := 10, slots := #[.int (-38)], vm := .none },
  { cls := 10, slots := #[.int (-37)], vm := .none },
  { cls := 10, slots := #[.int (-36)], vm := .none },
  { cls := 10, slots := #[.int (-35)], vm := .none },
  { cls := 10, slots := #[.int (-34)], vm := .none },
  { cls := 10, slots := #[.int (-33)], vm := .none },
  { cls := 10, slots := #[.int (-32)], vm := .none },
  { cls := 10, slots := #[.int (-31)], vm := .none },
  { cls := 10, slots := #[.int (-30)], vm := .none },
  { cls := 10, slots := #[.int (-29)], vm := .none },
  { cls := 10, slots := #[.int (-28)], vm := .none },
  { cls := 10, slots := #[.int (-27)], vm := .none },
  { cls := 10, slots := #[.int (-26)], vm := .none },
  { cls := 10, slots := #[.int (-25)], vm := .none },
  { cls := 10, slots := #[.int (-24)], vm := .none },
  { cls := 10, slots := #[.int (-23)], vm := .none },
  { cls := 10, slots := #[.int (-22)], vm := .none },
  { cls := 10, slots := #[.int (-21)], vm := .none },
  { cls := 10, slots := #[.int (-20)], vm := .none },
  { cls := 10, slots := #[.int (-19)], vm := .none },
  { cls := 10, slots := #[.int (-18)], vm := .none },
  { cls := 10, slots := #[.int (-17)], vm := .none },
  { cls := 10, slots := #[.int (-16)], vm := .none },
  { cls := 10, slots := #[.int (-15)], vm := .none },
  { cls := 10, slots := #[.int (-14)], vm := .none },
  { cls := 10, slots := #[.int (-13)], vm := .none },
  { cls := 10, slots := #[.int (-12)], vm := .none },
  { cls := 10, slots := #[.int (-11)], vm := .none },
  { cls := 10, slots := #[.int (-10)], vm := .none },
  { cls := 10, slots := #[.int (-9)], vm := .none },
  { cls := 10, slots := #[.int (-8)], vm := .none },
  { cls := 10, slots := #[.int (-7)], vm := .none },
  { cls := 10, slots := #[.int (-6)], vm := .none },
  { cls := 10, slots := #[.int (-5)], vm := .none },
  { cls := 10, slots := #[.int (-4)], vm := .none },
  { cls := 10, slots := #[.int (-3)], vm := .none },
  { cls := 10, slots := #[.int (-2)], vm := .none },
  { cls := 10, slots := #[.int (-1)], vm := .none },
  { cls := 10, slots := #[.int (0)], vm := .none },
  { cls := 10, slots := #[.int (1)], vm := .none },
  { cls := 10, slots := #[.int (2)], vm := .none },
  { cls := 10, slots := #[.int (3)], vm := .none },
  { cls := 10, slots := #[.int (4)], vm := .none },
  { cls := 10, slots := #[.int (5)], vm := .none },
  { cls := 10, slots := #[.int (6)], vm := .none },
  { cls := 10, slots := #[.int (7)], vm := .none },
  { cls := 10, slots := #[.int (8)], vm := .none },
  { cls := 10, slots := #[.int (9)], vm := .none },
  { cls := 10, slots := #[.int (10)], vm := .none },
  { cls := 10, slots := #[.int (11)], vm := .none },
  { cls := 10, slots := #[.int (12)], vm := .none },
  { cls := 10, slots := #[.int (13)], vm := .none },
  { cls := 10, slots := #[.int (14)], vm := .none },
  { cls := 10, slots := #[.int (15)], vm := .none },
  { cls := 10, slots := #[.int (16)], vm := .none },
  { cls := 10, slots := #[.int (17)], vm := .none },
  { cls := 10, slots := #[.int (18)], vm := .none },
  { cls := 10, slots := #[.int (19)], vm := .none },
  { cls := 10, slots := #[.int (20)], vm := .none },
  { cls := 10, slots := #[.int (21)], vm := .none },
  { cls := 10, slots := #[.int (22)], vm := .none },
  { cls := 10, slots := #[.int (23)], vm := .none },
  { cls := 10, slots := #[.int (24)], vm := .none },
  { cls := 10, slots := #[.int (25)], vm := .none },
  { cls := 10, slots := #[.int (26)], vm := .none },
  { cls := 10, slots := #[.int (27)], vm := .none },
  { cls := 10, slots := #[.int (28)], vm := .none },
  { cls := 10, slots := #[.int (29)], vm := .none },
  { cls := 10, slots := #[.int (30)], vm := .none },
  { cls := 10, slots := #[.int (31)], vm := .none },
  { cls := 10, slots := #[.int (32)], vm := .none },
  { cls := 10, slots := #[.int (33)], vm := .none },
  { cls := 10, slots := #[.int (34)], vm := .none },
  { cls := 10, slots := #[.int (35)], vm := .none },
  { cls := 10, slots := #[.int (36)], vm := .none },
  { cls := 10, slots := #[.int (37)], vm := .none },
  { cls := 10, slots := #[.int (38)], vm := .none },
  { cls := 10, slots := #[.int (39)], vm := .none },
  { cls := 10, slots := #[.int (40)], vm := .none },
  { cls := 10, slots := #[.int (41)], vm := .none },
  { cls := 10, slots := #[.int (42)], vm := .none },
  { cls := 10, slots := #[.int (43)], vm := .none },
  { cls := 10, slots := #[.int (44)], vm := .none },
  { cls := 10, slots := #[.int (45)], vm := .none },
  { cls := 10, slots := #[.int (46)], vm := .none },
  { cls := 10, slots := #[.int (47)], vm := .none },
  { cls := 10, slots := #[.int (48)], vm := .none },
  { cls := 10, slots := #[.int (49)], vm := .none },
  { cls := 10, slots := #[.int (50)], vm := .none },
  { cls := 10, slots := #[.int (51)], vm := .none },
  { cls := 10, slots := #[.int (52)], vm := .none },
  { cls := 10, slots := #[.int (53)], vm := .none },
  { cls := 10, slots := #[.int (54)], vm := .none },
  { cls := 10, slots := #[.int (55)], vm := .none },
  { cls := 10, slots := #[.int (56)], vm := .none },
  { cls := 10, slots := #[.int (57)], vm := .none },
  { cls := 10, slots := #[.int (58)], vm := .none },
  { cls := 10, slots := #[.int (59)], vm := .none },
  { cls := 10, slots := #[.int (60)], vm := .none },
  { cls := 10, slots := #[.int (61)], vm := .none },
  { cls := 10, slots := #[.int (62)], vm := .none },
  { cls := 10, slots := #[.int (63)], vm := .none },
  { cls := 10, slots := #[.int (64)], vm := .none },
  { cls := 10, slots := #[.int (65)], vm := .none },
  { cls := 10, slots := #[.int (66)], vm := .none },
  { cls := 10, slots := #[.int (67)], vm := .none },
  { cls := 10, slots := #[.int (68)], vm := .none },
  { cls := 10, slots := #[.int (69)], vm := .none },
  { cls := 10, slots := #[.int (70)], vm := .none },
  { cls := 10, slots := #[.int (71)], vm := .none },
  { cls := 10, slots := #[.int (72)], vm := .none },
  { cls := 10, slots := #[.int (73)], vm := .none },
  { cls := 10, slots := #[.int (74)], vm := .none },
  { cls := 10, slots := #[.int (75)], vm := .none },
  { cls := 10, slots := #[.int (76)], vm := .none },
  { cls := 10, slots := #[.int (77)], vm := .none },
  { cls := 10, slots := #[.int (78)], vm := .none },
  { cls := 10, slots := #[.int (79)], vm := .none },
  { cls := 10, slots := #[.int (80)], vm := .none },
  { cls := 10, slots := #[.int (81)], vm := .none },
  { cls := 10, slots := #[.int (82)], vm := .none },
  { cls := 10, slots := #[.int (83)], vm := .none },
  { cls := 10, slots := #[.int (84)], vm := .none },
  { cls := 10, slots := #[.int (85)], vm := .none },
  { cls := 10, slots := #[.int (86)], vm := .none },
  { cls := 10, slots := #[.int (87)], vm := .none },
  { cls := 10, slots := #[.int (88)], vm := .none },
  { cls := 10, slots := #[.int (89)], vm := .none },
  { cls := 10, slots := #[.int (90)], vm := .none },
  { cls := 10, slots := #[.int (91)], vm := .none },
  { cls := 10, slots := #[.int (92)], vm := .none },
  { cls := 10, slots := #[.int (93)], vm := .none },
  { cls := 10, slots := #[.int (94)], vm := .none },
  { cls := 10, slots := #[.int (95)], vm := .none },
  { cls := 10, slots := #[.int (96)], vm := .none },
  { cls := 10, slots := #[.int (97)], vm := .none },
  { cls := 10, slots := #[.int (98)], vm := .none },
  { cls := 10, slots := #[.int (99)], vm := .none },
  { cls := 10, slots := #[.int (100)], vm := .none },
  { cls := 10, slots := #[.int (101)], vm := .none },
  { cls := 10, slots := #[.int (102)], vm := .none },
  { cls := 10, slots := #[.int (103)], vm := .none },
  { cls := 10, slots := #[.int (104)], vm := .none },
  { cls := 10, slots := #[.int (105)], vm := .none },
  { cls := 10, slots := #[.int (106)], vm := .none },
  { cls := 10, slots := #[.int (107)], vm := .none },
  { cls := 10, slots := #[.int (108)], vm := .none },
  { cls := 10, slots := #[.int (109)], vm := .none },
  { cls := 10, slots := #[.int (110)], vm := .none },
  { cls := 10, slots := #[.int (111)], vm := .none },
  { cls := 10, slots := #[.int (112)], vm := .none },
  { cls := 10, slots := #[.int (113)], vm := .none },
  { cls := 10, slots := #[.int (114)], vm := .none },
  { cls := 10, slots := #[.int (115)], vm := .none },
  { cls := 10, slots := #[.int (116)], vm := .none },
  { cls := 10, slots := #[.int (117)], vm := .none },
  { cls := 10, slots := #[.int (118)], vm := .none },
  { cls := 10, slots := #[.int (119)], vm := .none },
  { cls := 10, slots := #[.int (120)], vm := .none },
  { cls := 10, slots := #[.int (121)], vm := .none },
  { cls := 10, slots := #[.int (122)], vm := .none },
  { cls := 10, slots := #[.int (123)], vm := .none },
  { cls := 10, slots := #[.int (124)], vm := .none },
  { cls := 10, slots := #[.int (125)], vm := .none },
  { cls := 10, slots := #[.int (126)], vm := .none },
  { cls := 10, slots := #[.int (127)], vm := .none },
  { cls := 7, slots := #[.null, .int 0, .int 0], vm := .none },
  { cls := 7, slots := #[.null, .int 2, .int 0], vm := .none },
  { cls := 7, slots := #[.null, .int 3, .int 0], vm := .none }]
def classes : Array Class := #[k0, k1, k2, k3, k4, k5, k6, k7, k8, k9, k10, k11, k12, k13, k14, k15, k16, k17]
def interned : List (Array UInt16 × Addr) := []
def slotsUsed : Nat := 531
def theMethod : MethodId := ⟨1, 1⟩
def args0 : Array Value := #[.int 5, .int 0]
def aboutOver (below : List Frame) : State where
  vm := { classes := classes, interned := interned.toArray }
  heap := heap
  slotsUsed := slotsUsed
  threads := #[{ frames := .invoking theMethod args0 :: below }]
def below0 : List Frame := [.native { method := ⟨0, 0⟩, args := #[] }]
def about1 : State := aboutOver below0
def p0 : Program := .bare "" "" ""
def e0 : Env := launch0.env 0 0 0
theorem w_frames : about1.frames = Frame.invoking theMethod args0 :: below0 := rfl
set_option maxRecDepth 65536 in
theorem w_args : argsFit about1.vm theMethod args0 = true := by decide +kernel
set_option maxRecDepth 65536 in
theorem w_heap : heapFits about1 = true := by decide +kernel
set_option maxRecDepth 65536 in
theorem w_runnable : about1.curStatus? = some .runnable := by decide +kernel
set_option maxRecDepth 65536 in
theorem w_alone : about1.alone = true := by decide +kernel
set_option maxRecDepth 65536 in
theorem w_named : about1.methodNamed? x = some theMethod := by decide +kernel
set_option maxRecDepth 65536 in
theorem w_hears : about1.hears theMethod below0 = true := by decide +kernel
set_option maxRecDepth 65536 in
theorem w_ripe : about1.ripe theMethod args0 below0 = true := by decide +kernel
theorem w_running : about1.status = .running := rfl
set_option maxRecDepth 65536 in
theorem w_room : about1.hasRoom e0.platform room_1 = true :=
  launch0.hasRoom_least _ room_1 (by decide +kernel) (by decide +kernel) (by decide +kernel) (by decide +kernel) (by decide +kernel) (by decide +kernel)
theorem allAtoms_all (ts : List Jvm.Cond) (a : Array Jvm.Value) (st : Jvm.State) : (allAtoms ts).before a st = ts.all (fun c => c.before a st) := by
  induction ts with
  | nil => rfl
  | cons c t ih =>
    show (Jvm.Cond.and c (allAtoms t)).before a st = _
    rw [Jvm.Cond.before_and, ih, List.all_cons]
def words1 : List Jvm.Cond := Jvm.Cond.code x code maxLocals ret :: tables_1
/-- a 'code' word, met by the world's own term for the bytes: nothing is compared byte by byte -/
theorem code_word {y : MethodName} {bytes : ByteArray} {mx : Nat} {rt : Option FieldType} {a : Array Value} {s : State} {m : MethodId} {meth : Method} {c : Code} (h1 : s.methodNamed? y = some m) (h2 : s.vm.method? m = some meth) (h3 : meth.code = some c) (h4 : c.code = bytes)
    (h5 : (c.maxLocals == mx && c.exceptionTable.isEmpty && decide (c.maxStack ≤ mostOperands) && decide (meth.sig.returnType = rt) && !meth.locks && decide (parseMethodDescriptor y.desc = some meth.sig)) = true) : (Jvm.Cond.code y bytes mx rt).before a s = true := by
  simp only [Bool.and_eq_true, beq_iff_eq, Bool.not_eq_true', decide_eq_true_eq] at h5
  obtain ⟨⟨⟨⟨⟨g1, g2⟩, g3⟩, g4⟩, g5⟩, g6⟩ := h5
  simp [Cond.before, Cond.holds, Cond.value, h1, h2, h3, h4, g1, g2, g3, g4, g5, g6]
def isCode : Jvm.Cond → Bool
  | .code _ _ _ _ => true
  | _ => false
theorem all_split {L : List Jvm.Cond} {P : Jvm.Cond → Bool} (h1 : L.all (fun c => isCode c || P c) = true) (h2 : ∀ c ∈ L.filter isCode, P c = true) : L.all P = true := by
  refine List.all_eq_true.mpr fun c hc => ?_
  have h := List.all_eq_true.mp h1 c hc
  rcases Bool.eq_false_or_eq_true (isCode c) with hi | hi
  · exact h2 c (List.mem_filter.mpr ⟨hc, hi⟩)
  · simpa [hi] using h
set_option maxRecDepth 65536 in
theorem w_c0 : (Jvm.Cond.code x code maxLocals ret).before args0 about1 = true := code_word (m := ⟨1, 1⟩) (meth := k1m1) (c := k1c1) (by decide +kernel) rfl rfl rfl (by decide +kernel)
set_option maxRecDepth 65536 in
theorem w_c1 : (Jvm.Cond.code ({ cls := "com/example/idemnity/idemnity/Outcome", name := "executed", desc := "(Ljava/lang/Object;)Lcom/example/idemnity/idemnity/Outcome;" } : Jvm.MethodName) prog_25_method_2_code (1 : Nat) (Option.some (Jvm.ClassFile.FieldType.object "com/example/idemnity/idemnity/Outcome"))).before args0 about1 = true := code_word (m := ⟨2, 1⟩) (meth := k2m1) (c := k2c1) (by decide +kernel) rfl rfl rfl (by decide +kernel)
set_option maxRecDepth 65536 in
theorem w_c2 : (Jvm.Cond.code ({ cls := "com/example/idemnity/idemnity/Outcome", name := "<init>", desc := "(Lcom/example/idemnity/idemnity/Outcome$Status;Ljava/lang/Object;)V" } : Jvm.MethodName) prog_25_method_1_code (3 : Nat) (Option.none : Option Jvm.ClassFile.FieldType)).before args0 about1 = true := code_word (m := ⟨2, 0⟩) (meth := k2m0) (c := k2c0) (by decide +kernel) rfl rfl rfl (by decide +kernel)
set_option maxRecDepth 65536 in
theorem w_c3 : (Jvm.Cond.code ({ cls := "java/lang/Object", name := "<init>", desc := "()V" } : Jvm.MethodName) object_method_1_code (1 : Nat) (Option.none : Option Jvm.ClassFile.FieldType)).before args0 about1 = true := code_word (m := ⟨0, 0⟩) (meth := k0m0) (c := k0c0) (by decide +kernel) rfl rfl rfl (by decide +kernel)
set_option maxRecDepth 65536 in
theorem w_c4 : (Jvm.Cond.code ({ cls := "com/example/idemnity/idemnity/Outcome", name := "status", desc := "()Lcom/example/idemnity/idemnity/Outcome$Status;" } : Jvm.MethodName) prog_25_method_6_code (1 : Nat) (Option.some (Jvm.ClassFile.FieldType.object "com/example/idemnity/idemnity/Outcome$Status"))).before args0 about1 = true := code_word (m := ⟨2, 2⟩) (meth := k2m2) (c := k2c2) (by decide +kernel) rfl rfl rfl (by decide +kernel)
set_option maxRecDepth 65536 in
theorem w_c5 : (Jvm.Cond.code ({ cls := "com/example/idemnity/idemnity/Outcome", name := "value", desc := "()Ljava/lang/Object;" } : Jvm.MethodName) prog_25_method_7_code (1 : Nat) (Option.some (Jvm.ClassFile.FieldType.object "java/lang/Object"))).before args0 about1 = true := code_word (m := ⟨2, 3⟩) (meth := k2m3) (c := k2c3) (by decide +kernel) rfl rfl rfl (by decide +kernel)
set_option maxRecDepth 65536 in
theorem w_c6 : (Jvm.Cond.code ({ cls := "java/lang/Integer", name := "valueOf", desc := "(I)Ljava/lang/Integer;" } : Jvm.MethodName) jdk_33_method_22_code (1 : Nat) (Option.some (Jvm.ClassFile.FieldType.object "java/lang/Integer"))).before args0 about1 = true := code_word (m := ⟨10, 0⟩) (meth := k10m0) (c := k10c0) (by decide +kernel) rfl rfl rfl (by decide +kernel)
set_option maxRecDepth 65536 in
theorem w_c7 : (Jvm.Cond.code ({ cls := "java/lang/Integer", name := "<init>", desc := "(I)V" } : Jvm.MethodName) jdk_33_method_23_code (2 : Nat) (Option.none : Option Jvm.ClassFile.FieldType)).before args0 about1 = true := code_word (m := ⟨10, 1⟩) (meth := k10m1) (c := k10c1) (by decide +kernel) rfl rfl rfl (by decide +kernel)
set_option maxRecDepth 65536 in
theorem w_c8 : (Jvm.Cond.code ({ cls := "java/lang/Number", name := "<init>", desc := "()V" } : Jvm.MethodName) jdk_18_method_1_code (1 : Nat) (Option.none : Option Jvm.ClassFile.FieldType)).before args0 about1 = true := code_word (m := ⟨8, 0⟩) (meth := k8m0) (c := k8c0) (by decide +kernel) rfl rfl rfl (by decide +kernel)
set_option maxRecDepth 65536 in
theorem w_c9 : (Jvm.Cond.code ({ cls := "java/lang/Integer", name := "intValue", desc := "()I" } : Jvm.MethodName) jdk_33_method_27_code (1 : Nat) (Option.some Jvm.ClassFile.FieldType.int)).before args0 about1 = true := code_word (m := ⟨10, 2⟩) (meth := k10m2) (c := k10c2) (by decide +kernel) rfl rfl rfl (by decide +kernel)
def codes1 : List Jvm.Cond := [Jvm.Cond.code x code maxLocals ret, Jvm.Cond.code ({ cls := "com/example/idemnity/idemnity/Outcome", name := "executed", desc := "(Ljava/lang/Object;)Lcom/example/idemnity/idemnity/Outcome;" } : Jvm.MethodName) prog_25_method_2_code (1 : Nat) (Option.some (Jvm.ClassFile.FieldType.object "com/example/idemnity/idemnity/Outcome")), Jvm.Cond.code ({ cls := "com/example/idemnity/idemnity/Outcome", name := "<init>", desc := "(Lcom/example/idemnity/idemnity/Outcome$Status;Ljava/lang/Object;)V" } : Jvm.MethodName) prog_25_method_1_code (3 : Nat) (Option.none : Option Jvm.ClassFile.FieldType), Jvm.Cond.code ({ cls := "java/lang/Object", name := "<init>", desc := "()V" } : Jvm.MethodName) object_method_1_code (1 : Nat) (Option.none : Option Jvm.ClassFile.FieldType), Jvm.Cond.code ({ cls := "com/example/idemnity/idemnity/Outcome", name := "status", desc := "()Lcom/example/idemnity/idemnity/Outcome$Status;" } : Jvm.MethodName) prog_25_method_6_code (1 : Nat) (Option.some (Jvm.ClassFile.FieldType.object "com/example/idemnity/idemnity/Outcome$Status")), Jvm.Cond.code ({ cls := "com/example/idemnity/idemnity/Outcome", name := "value", desc := "()Ljava/lang/Object;" } : Jvm.MethodName) prog_25_method_7_code (1 : Nat) (Option.some (Jvm.ClassFile.FieldType.object "java/lang/Object")), Jvm.Cond.code ({ cls := "java/lang/Integer", name := "valueOf", desc := "(I)Ljava/lang/Integer;" } : Jvm.MethodName) jdk_33_method_22_code (1 : Nat) (Option.some (Jvm.ClassFile.FieldType.object "java/lang/Integer")), Jvm.Cond.code ({ cls := "java/lang/Integer", name := "<init>", desc := "(I)V" } : Jvm.MethodName) jdk_33_method_23_code (2 : Nat) (Option.none : Option Jvm.ClassFile.FieldType), Jvm.Cond.code ({ cls := "java/lang/Number", name := "<init>", desc := "()V" } : Jvm.MethodName) jdk_18_method_1_code (1 : Nat) (Option.none : Option Jvm.ClassFile.FieldType), Jvm.Cond.code ({ cls := "java/lang/Integer", name := "intValue", desc := "()I" } : Jvm.MethodName) jdk_33_method_27_code (1 : Nat) (Option.some Jvm.ClassFile.FieldType.int)]
set_option maxRecDepth 65536 in
theorem codes_eq : words1.filter isCode = codes1 := rfl
theorem w_codes : ∀ c ∈ words1.filter isCode, c.before args0 about1 = true := by
  rw [codes_eq]
  intro c hc
  simp only [codes1, List.mem_cons, List.not_mem_nil, or_false] at hc
  rcases hc with rfl | rfl | rfl | rfl | rfl | rfl | rfl | rfl | rfl | rfl
  · exact w_c0
  · exact w_c1
  · exact w_c2
  · exact w_c3
  · exact w_c4
  · exact w_c5
  · exact w_c6
  · exact w_c7
  · exact w_c8
  · exact w_c9
set_option maxRecDepth 65536 in
theorem w_t1 : (words1.take 24).all (fun c => isCode c || c.before args0 about1) = true := by decide +kernel
set_option maxRecDepth 65536 in
theorem w_t2 : ((words1.drop 24).take 24).all (fun c => isCode c || c.before args0 about1) = true := by decide +kernel
set_option maxRecDepth 65536 in
theorem w_t3 : ((words1.drop 24).drop 24).all (fun c => isCode c || c.before args0 about1) = true := by decide +kernel
theorem w_tables : (allAtoms (Jvm.Cond.code x code maxLocals ret :: tables_1)).before args0 about1 = true := by
  rw [allAtoms_all]
  show words1.all (fun c => c.before args0 about1) = true
  refine all_split ?_ w_codes
  rw [← List.take_append_drop 24 words1, List.all_append, w_t1, ← List.take_append_drop 24 (words1.drop 24), List.all_append, w_t2, w_t3]
  rfl
set_option maxRecDepth 65536 in
theorem w_rest : rest_1_c.before args0 about1 = true := by decide +kernel
set_option maxRecDepth 65536 in
theorem w_case : (Jvm.Cond.and given_1 narrow_1).before args0 about1 = true := by decide +kernel
theorem w_applies : (headSpec (Jvm.Cond.code x code maxLocals ret :: tables_1) room_1).applies x e0.platform about1 = true :=
  (Spec.applies_iff w_frames).mpr ⟨w_running, w_runnable, w_alone, w_named, w_hears, w_ripe, w_room, w_tables⟩
theorem atStart : AtStart classFile x code maxLocals ret World_1 tables_1 room_1 Calls_1 rest_1 Pre_1 launch0 p0 e0 about1 theMethod args0 below0 :=
  ⟨lists_1, trivial, launch0.admits_env _ _ _, launch0.least_env, fairChoices_fair.cas, fairChoices_fair.clock, w_frames, w_args, w_heap, w_applies, trivial, w_rest, w_case⟩
end start1
theorem witness_1 : WitnessClaimed_1 := ⟨start1.p0, start1.e0, start1.about1, start1.theMethod, start1.args0, start1.below0, start1.atStart⟩
end Jvm.Pilot.@@N@@
