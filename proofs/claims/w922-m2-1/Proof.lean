import JvmDerived
import JvmDerived.Pilot.@@N@@Statement
import JvmDerived.Pilot.@@N@@Code
set_option linter.unusedVariables false
set_option linter.unusedSimpArgs false
namespace Jvm.WpK
open Sem ClassFile Op Lib Jvm.Stand Jvm.Free Jvm.LawKit Jvm.RoadKit
/-- the run's own unknowns: program, environment, the invocation's state, method, arguments, frames below, the method's record, its code -/
abbrev Cx : Type := Program × Env × State × MethodId × Array Value × List Frame × Method × Code
/-- a decoded instruction and the pc behind it -/
def Fet (code : ByteArray) (pc pc' : Nat) (i : Instr) (len : Nat) : Prop := decode code pc = .ok (i, len) ∧ pc + len = pc'
/-- a decoded branch: the pc behind it and its target -/
def Brn (code : ByteArray) (pc pcN pcT : Nat) (i : Instr) (o : Int) : Prop := decode code pc = .ok (i, 3) ∧ pc + 3 = pcN ∧ 0 ≤ (pc : Int) + o ∧ ((pc : Int) + o).toNat = pcT
/-- what is known of the body that is walked -/
def Ok (Z : State) (K : Cx) (code : ByteArray) (own nm : String) (maxL : Nat) (ret : Option FieldType) : Prop :=
  match K with
  | (p, _, s, m, _, _, meth, c) => p.tables.exec = Jvm.exec ∧ c.code = code ∧ Z.Warmed39 s.vm ∧ s.vm.findClass own = some m.cls ∧ meth.name = nm ∧ c.maxLocals = maxL ∧ meth.sig.returnType = ret ∧ meth.locks = false
/-- from this point (heap h, k cells and n slots made so far) the body ends in Q, having written nothing below n0 -/
def Wp (l : Launch) (R : Room) (n0 : Nat) (K : Cx) (Q : Option Value → Heap → Prop) (h : Heap) (k n : Nat) (pc : Nat) (Ls : Array Slot) (st : List Value) : Prop :=
  match K with
  | (p, e, s, m, args, below, meth, c) => ∀ (T : State) (locs : List Loc), Stand p l e R s m args below meth c T locs k n → T.heap = h → Fr n0 locs →
      ∃ s₂ o, Steps p.tables e below (T.setTop (mkF m pc Ls st)) s₂ ∧ s₂.status = .running ∧ Ended s₂ below o ∧ ∃ v L, o = .returned v ∧ (Q v s₂.heap ∧ Fr n0 L) ∧ FrameEnd s o s₂ L R.cells R.slots
/-- a body's contract at one call -/
def Con (l : Launch) (Z : State) (n0 : Nat) (y : MethodName) (bytes : ByteArray) (maxL : Nat) (ret : Option FieldType) (ws : List Cond) (rm : Room) (as : Array Value) (h : Heap) (Q : Option Value → Heap → Prop) : Prop :=
  MetFree l y (head1 (Cond.code y bytes maxL ret :: ws) rm) (fun a U => a = as ∧ Z.Warmed39 U.vm ∧ U.heap = h) (fun _ _ _ _ _ => True) (fun _ U o U' => ∃ v L, o = .returned v ∧ (Q v U'.heap ∧ Fr n0 L) ∧ FrameEnd U o U' L rm.cells rm.slots)
abbrev ConV (l : Launch) (Z : State) (n0 : Nat) (y : MethodName) (bytes : ByteArray) (maxL : Nat) (ret : Option FieldType) (ws : List Cond) (rm : Room) (as : Array Value) (h : Heap) (Q : Value → Heap → Prop) : Prop :=
  Con l Z n0 y bytes maxL ret ws rm as h (fun v h' => ∃ w, v = some w ∧ Q w h')
abbrev ConN (l : Launch) (Z : State) (n0 : Nat) (y : MethodName) (bytes : ByteArray) (maxL : Nat) (ret : Option FieldType) (ws : List Cond) (rm : Room) (as : Array Value) (h : Heap) (Q : Heap → Prop) : Prop :=
  Con l Z n0 y bytes maxL ret ws rm as h (fun v h' => v = none ∧ Q h')
theorem con_of_wp {l : Launch} {Z : State} {n0 : Nat} {y : MethodName} {bytes : ByteArray} {maxL : Nat} {ret : Option FieldType} {ws : List Cond} {rm : Room} {as : Array Value} {h : Heap} {Q : Option Value → Heap → Prop} {Ls : Array Slot}
    (hpl : plainFor y = true) (hef : ∀ m, entryFrame m as maxL = mkF m 0 Ls []) (H : ∀ K, Ok Z K bytes y.cls y.name maxL ret → Wp l rm n0 K Q h 0 0 0 Ls []) : Con l Z n0 y bytes maxL ret ws rm as h Q := by
  refine MetFree.of_bodySF hpl hisR ?_
  intro p e s m args below meth c s₁ Bd hml0 hP hK
  obtain ⟨rfl, hZ, hh⟩ := hP
  have X0 : Stand p l e rm s m args below meth c s₁ [] 0 0 := Stand.of_body Bd
  have e0 : s₁.heap = h := by rw [← hh, Bd.state]; rfl
  obtain ⟨s₂, o, h1, h2, h3, h4⟩ := H (p, e, s, m, args, below, meth, c) ⟨Bd.exec, Bd.bytes, hZ, findClass_of_methodNamed Bd.named, (name_of_methodNamed Bd.named Bd.method).1, hml0, Bd.returns, Bd.notSynchronized⟩ s₁ [] X0 e0 (Fr.nil n0)
  exact ⟨s₂, o, castTop (hef m) h1, h2, h3, h4⟩
section Rules
variable {l : Launch} {R : Room} {n0 : Nat} {K : Cx} {Q : Option Value → Heap → Prop} {h : Heap} {k n k' n' : Nat} {pc pc' : Nat} {Ls Ls' : Array Slot} {st rest : List Value} {Z : State} {code : ByteArray} {own nm : String} {maxL : Nat} {ret : Option FieldType} {a0 : Array Value}
theorem w_cast {pc1 : Nat} {L1 : Array Slot} {s1 : List Value} (hr : Wp l R n0 K Q h k n pc1 L1 s1) (q1 : pc1 = pc) (q2 : L1 = Ls) (q3 : s1 = st) : Wp l R n0 K Q h k n pc Ls st := by
  subst q1 q2 q3; exact hr
theorem w_mono {Q' : Option Value → Heap → Prop} (hr : Wp l R n0 K Q' h k n pc Ls st) (hq : ∀ v h', Q' v h' → Q v h') : Wp l R n0 K Q h k n pc Ls st := by
  obtain ⟨p, e, s, m, args, below, meth, c⟩ := K
  intro T locs X hT hF
  obtain ⟨s₂, o, h1, h2, h3, v, L, h4, ⟨h5, h6⟩, h7⟩ := hr T locs X hT hF
  exact ⟨s₂, o, h1, h2, h3, v, L, h4, ⟨hq _ _ h5, h6⟩, h7⟩
theorem w_int {a b : Int32} (e : a = b) (hr : Wp l R n0 K Q h k n pc Ls (.int b :: st)) : Wp l R n0 K Q h k n pc Ls (.int a :: st) := e ▸ hr
theorem w_long {a b : Int64} (e : a = b) (hr : Wp l R n0 K Q h k n pc Ls (.long b :: st)) : Wp l R n0 K Q h k n pc Ls (.long a :: st) := e ▸ hr
/-- more cells or slots may be booked -/
theorem w_more {k1 n1 : Nat} (hr : Wp l R n0 K Q h k1 n1 pc Ls st) (hk : k ≤ k1) (hn : n ≤ n1) : Wp l R n0 K Q h k n pc Ls st := by
  obtain ⟨p, e, s, m, args, below, meth, c⟩ := K
  intro T locs X hT hF
  exact hr T locs (X.more hk hn) hT hF

theorem w_iloadN (ok : Ok Z K code own nm maxL ret) {j : Fin 4} {x : Int32} (hd : Fet code pc pc' (.iload_n j) 1) (hl : Ls[j.val]? = some (.val (.int x))) (hr : Wp l R n0 K Q h k n pc' Ls (.int x :: st)) : Wp l R n0 K Q h k n pc Ls st := by
  obtain ⟨p, e, s, m, args, below, meth, c⟩ := K
  obtain ⟨hx, hby, hZ, hown, hnm, hml, hret, hlk⟩ := ok
  obtain ⟨hd, rfl⟩ := hd
  intro T locs X hT hF
  obtain ⟨s₂, o, h1, h2⟩ := hr T locs X hT hF
  exact ⟨s₂, o, XS.iloadN X.here hx rfl (hb hby hd) hl h1, h2⟩
theorem w_iload (ok : Ok Z K code own nm maxL ret) {j : Nat} {x : Int32} (hd : Fet code pc pc' (.iload j) 2) (hl : Ls[j]? = some (.val (.int x))) (hr : Wp l R n0 K Q h k n pc' Ls (.int x :: st)) : Wp l R n0 K Q h k n pc Ls st := by
  obtain ⟨p, e, s, m, args, below, meth, c⟩ := K
  obtain ⟨hx, hby, hZ, hown, hnm, hml, hret, hlk⟩ := ok
  obtain ⟨hd, rfl⟩ := hd
  intro T locs X hT hF
  obtain ⟨s₂, o, h1, h2⟩ := hr T locs X hT hF
  exact ⟨s₂, o, XS.iload X.here hx rfl (hb hby hd) hl h1, h2⟩
theorem w_lloadN (ok : Ok Z K code own nm maxL ret) {j : Fin 4} {x : Int64} (hd : Fet code pc pc' (.lload_n j) 1) (hl : Ls[j.val]? = some (.val (.long x))) (hr : Wp l R n0 K Q h k n pc' Ls (.long x :: st)) : Wp l R n0 K Q h k n pc Ls st := by
  obtain ⟨p, e, s, m, args, below, meth, c⟩ := K
  obtain ⟨hx, hby, hZ, hown, hnm, hml, hret, hlk⟩ := ok
  obtain ⟨hd, rfl⟩ := hd
  intro T locs X hT hF
  obtain ⟨s₂, o, h1, h2⟩ := hr T locs X hT hF
  exact ⟨s₂, o, XS.lloadN X.here hx rfl (hb hby hd) hl h1, h2⟩
theorem w_lload (ok : Ok Z K code own nm maxL ret) {j : Nat} {x : Int64} (hd : Fet code pc pc' (.lload j) 2) (hl : Ls[j]? = some (.val (.long x))) (hr : Wp l R n0 K Q h k n pc' Ls (.long x :: st)) : Wp l R n0 K Q h k n pc Ls st := by
  obtain ⟨p, e, s, m, args, below, meth, c⟩ := K
  obtain ⟨hx, hby, hZ, hown, hnm, hml, hret, hlk⟩ := ok
  obtain ⟨hd, rfl⟩ := hd
  intro T locs X hT hF
  obtain ⟨s₂, o, h1, h2⟩ := hr T locs X hT hF
  exact ⟨s₂, o, XS.lload X.here hx rfl (hb hby hd) hl h1, h2⟩
theorem w_aloadN (ok : Ok Z K code own nm maxL ret) {j : Fin 4} {x : Value} (hd : Fet code pc pc' (.aload_n j) 1) (hl : Ls[j.val]? = some (.val x)) (hv : x.isRef = true) (hr : Wp l R n0 K Q h k n pc' Ls (x :: st)) : Wp l R n0 K Q h k n pc Ls st := by
  obtain ⟨p, e, s, m, args, below, meth, c⟩ := K
  obtain ⟨hx, hby, hZ, hown, hnm, hml, hret, hlk⟩ := ok
  obtain ⟨hd, rfl⟩ := hd
  intro T locs X hT hF
  obtain ⟨s₂, o, h1, h2⟩ := hr T locs X hT hF
  exact ⟨s₂, o, XS.aloadN X.here hx rfl (hb hby hd) hl hv h1, h2⟩
theorem w_aload (ok : Ok Z K code own nm maxL ret) {j : Nat} {x : Value} (hd : Fet code pc pc' (.aload j) 2) (hl : Ls[j]? = some (.val x)) (hv : x.isRef = true) (hr : Wp l R n0 K Q h k n pc' Ls (x :: st)) : Wp l R n0 K Q h k n pc Ls st := by
  obtain ⟨p, e, s, m, args, below, meth, c⟩ := K
  obtain ⟨hx, hby, hZ, hown, hnm, hml, hret, hlk⟩ := ok
  obtain ⟨hd, rfl⟩ := hd
  intro T locs X hT hF
  obtain ⟨s₂, o, h1, h2⟩ := hr T locs X hT hF
  exact ⟨s₂, o, XS.aload X.here hx rfl (hb hby hd) hl hv h1, h2⟩
theorem w_istoreN (ok : Ok Z K code own nm maxL ret) {j : Fin 4} {x : Int32} (hd : Fet code pc pc' (.istore_n j) 1) (hl : storeLocals Ls j.val (.int x) = some Ls') (hr : Wp l R n0 K Q h k n pc' Ls' st) : Wp l R n0 K Q h k n pc Ls (.int x :: st) := by
  obtain ⟨p, e, s, m, args, below, meth, c⟩ := K
  obtain ⟨hx, hby, hZ, hown, hnm, hml, hret, hlk⟩ := ok
  obtain ⟨hd, rfl⟩ := hd
  intro T locs X hT hF
  obtain ⟨s₂, o, h1, h2⟩ := hr T locs X hT hF
  exact ⟨s₂, o, XS.istoreN X.here hx rfl (hb hby hd) rfl hl h1, h2⟩
theorem w_istore (ok : Ok Z K code own nm maxL ret) {j : Nat} {x : Int32} (hd : Fet code pc pc' (.istore j) 2) (hl : storeLocals Ls j (.int x) = some Ls') (hr : Wp l R n0 K Q h k n pc' Ls' st) : Wp l R n0 K Q h k n pc Ls (.int x :: st) := by
  obtain ⟨p, e, s, m, args, below, meth, c⟩ := K
  obtain ⟨hx, hby, hZ, hown, hnm, hml, hret, hlk⟩ := ok
  obtain ⟨hd, rfl⟩ := hd
  intro T locs X hT hF
  obtain ⟨s₂, o, h1, h2⟩ := hr T locs X hT hF
  exact ⟨s₂, o, XS.istore X.here hx rfl (hb hby hd) rfl hl h1, h2⟩
theorem w_lstoreN (ok : Ok Z K code own nm maxL ret) {j : Fin 4} {x : Int64} (hd : Fet code pc pc' (.lstore_n j) 1) (hl : storeLocals Ls j.val (.long x) = some Ls') (hr : Wp l R n0 K Q h k n pc' Ls' st) : Wp l R n0 K Q h k n pc Ls (.long x :: st) := by
  obtain ⟨p, e, s, m, args, below, meth, c⟩ := K
  obtain ⟨hx, hby, hZ, hown, hnm, hml, hret, hlk⟩ := ok
  obtain ⟨hd, rfl⟩ := hd
  intro T locs X hT hF
  obtain ⟨s₂, o, h1, h2⟩ := hr T locs X hT hF
  exact ⟨s₂, o, XS.lstoreN X.here hx rfl (hb hby hd) rfl hl h1, h2⟩
theorem w_lstore (ok : Ok Z K code own nm maxL ret) {j : Nat} {x : Int64} (hd : Fet code pc pc' (.lstore j) 2) (hl : storeLocals Ls j (.long x) = some Ls') (hr : Wp l R n0 K Q h k n pc' Ls' st) : Wp l R n0 K Q h k n pc Ls (.long x :: st) := by
  obtain ⟨p, e, s, m, args, below, meth, c⟩ := K
  obtain ⟨hx, hby, hZ, hown, hnm, hml, hret, hlk⟩ := ok
  obtain ⟨hd, rfl⟩ := hd
  intro T locs X hT hF
  obtain ⟨s₂, o, h1, h2⟩ := hr T locs X hT hF
  exact ⟨s₂, o, XS.lstore X.here hx rfl (hb hby hd) rfl hl h1, h2⟩
theorem w_astoreN (ok : Ok Z K code own nm maxL ret) {j : Fin 4} {x : Value} (hd : Fet code pc pc' (.astore_n j) 1) (hl : storeLocals Ls j.val x = some Ls') (hv : x.isRef = true) (hr : Wp l R n0 K Q h k n pc' Ls' st) : Wp l R n0 K Q h k n pc Ls (x :: st) := by
  obtain ⟨p, e, s, m, args, below, meth, c⟩ := K
  obtain ⟨hx, hby, hZ, hown, hnm, hml, hret, hlk⟩ := ok
  obtain ⟨hd, rfl⟩ := hd
  intro T locs X hT hF
  obtain ⟨s₂, o, h1, h2⟩ := hr T locs X hT hF
  exact ⟨s₂, o, XS.astoreN X.here hx rfl (hb hby hd) rfl hv hl h1, h2⟩
theorem w_astore (ok : Ok Z K code own nm maxL ret) {j : Nat} {x : Value} (hd : Fet code pc pc' (.astore j) 2) (hl : storeLocals Ls j x = some Ls') (hv : x.isRef = true) (hr : Wp l R n0 K Q h k n pc' Ls' st) : Wp l R n0 K Q h k n pc Ls (x :: st) := by
  obtain ⟨p, e, s, m, args, below, meth, c⟩ := K
  obtain ⟨hx, hby, hZ, hown, hnm, hml, hret, hlk⟩ := ok
  obtain ⟨hd, rfl⟩ := hd
  intro T locs X hT hF
  obtain ⟨s₂, o, h1, h2⟩ := hr T locs X hT hF
  exact ⟨s₂, o, XS.astore X.here hx rfl (hb hby hd) rfl hv hl h1, h2⟩
theorem w_iinc (ok : Ok Z K code own nm maxL ret) {j : Nat} {cst : Int} {x : Int32} (hd : Fet code pc pc' (.iinc j cst) 3) (hl : Ls[j]? = some (.val (.int x))) (hl' : storeLocals Ls j (.int (x + Int32.ofInt cst)) = some Ls') (hr : Wp l R n0 K Q h k n pc' Ls' st) : Wp l R n0 K Q h k n pc Ls st := by
  obtain ⟨p, e, s, m, args, below, meth, c⟩ := K
  obtain ⟨hx, hby, hZ, hown, hnm, hml, hret, hlk⟩ := ok
  obtain ⟨hd, rfl⟩ := hd
  intro T locs X hT hF
  obtain ⟨s₂, o, h1, h2⟩ := hr T locs X hT hF
  exact ⟨s₂, o, XS.iinc X.here hx rfl (hb hby hd) hl hl' h1, h2⟩
theorem w_iconst (ok : Ok Z K code own nm maxL ret) {i : Int} {z : Int32} (hd : Fet code pc pc' (.iconst i) 1) (hz : Int32.ofInt i = z) (hr : Wp l R n0 K Q h k n pc' Ls (.int z :: st)) : Wp l R n0 K Q h k n pc Ls st := by
  obtain ⟨p, e, s, m, args, below, meth, c⟩ := K
  obtain ⟨hx, hby, hZ, hown, hnm, hml, hret, hlk⟩ := ok
  obtain ⟨hd, rfl⟩ := hd
  intro T locs X hT hF
  subst hz
  obtain ⟨s₂, o, h1, h2⟩ := hr T locs X hT hF
  exact ⟨s₂, o, XS.iconst X.here hx rfl (hb hby hd) h1, h2⟩
theorem w_bipush (ok : Ok Z K code own nm maxL ret) {i : Int} {z : Int32} (hd : Fet code pc pc' (.bipush i) 2) (hz : (Int8.ofInt i).toInt32 = z) (hr : Wp l R n0 K Q h k n pc' Ls (.int z :: st)) : Wp l R n0 K Q h k n pc Ls st := by
  obtain ⟨p, e, s, m, args, below, meth, c⟩ := K
  obtain ⟨hx, hby, hZ, hown, hnm, hml, hret, hlk⟩ := ok
  obtain ⟨hd, rfl⟩ := hd
  intro T locs X hT hF
  subst hz
  obtain ⟨s₂, o, h1, h2⟩ := hr T locs X hT hF
  exact ⟨s₂, o, XS.bipush X.here hx rfl (hb hby hd) h1, h2⟩
theorem w_sipush (ok : Ok Z K code own nm maxL ret) {i : Int} {z : Int32} (hd : Fet code pc pc' (.sipush i) 3) (hz : (Int16.ofInt i).toInt32 = z) (hr : Wp l R n0 K Q h k n pc' Ls (.int z :: st)) : Wp l R n0 K Q h k n pc Ls st := by
  obtain ⟨p, e, s, m, args, below, meth, c⟩ := K
  obtain ⟨hx, hby, hZ, hown, hnm, hml, hret, hlk⟩ := ok
  obtain ⟨hd, rfl⟩ := hd
  intro T locs X hT hF
  subst hz
  obtain ⟨s₂, o, h1, h2⟩ := hr T locs X hT hF
  exact ⟨s₂, o, XS.sipush X.here hx rfl (hb hby hd) h1, h2⟩
theorem w_lconst (ok : Ok Z K code own nm maxL ret) {i : Fin 2} {z : Int64} (hd : Fet code pc pc' (.lconst i) 1) (hz : Int64.ofNat i = z) (hr : Wp l R n0 K Q h k n pc' Ls (.long z :: st)) : Wp l R n0 K Q h k n pc Ls st := by
  obtain ⟨p, e, s, m, args, below, meth, c⟩ := K
  obtain ⟨hx, hby, hZ, hown, hnm, hml, hret, hlk⟩ := ok
  obtain ⟨hd, rfl⟩ := hd
  intro T locs X hT hF
  subst hz
  obtain ⟨s₂, o, h1, h2⟩ := hr T locs X hT hF
  exact ⟨s₂, o, XS.lconst X.here hx rfl (hb hby hd) h1, h2⟩
theorem w_aconstNull (ok : Ok Z K code own nm maxL ret)  (hd : Fet code pc pc' (.aconst_null) 1)  (hr : Wp l R n0 K Q h k n pc' Ls (.null :: st)) : Wp l R n0 K Q h k n pc Ls st := by
  obtain ⟨p, e, s, m, args, below, meth, c⟩ := K
  obtain ⟨hx, hby, hZ, hown, hnm, hml, hret, hlk⟩ := ok
  obtain ⟨hd, rfl⟩ := hd
  intro T locs X hT hF
  obtain ⟨s₂, o, h1, h2⟩ := hr T locs X hT hF
  exact ⟨s₂, o, XS.aconstNull X.here hx rfl (hb hby hd)  h1, h2⟩
theorem w_iadd (ok : Ok Z K code own nm maxL ret) {x y : Int32} (hd : Fet code pc pc' (.iadd) 1)  (hr : Wp l R n0 K Q h k n pc' Ls (.int (x + y) :: st)) : Wp l R n0 K Q h k n pc Ls (.int y :: .int x :: st) := by
  obtain ⟨p, e, s, m, args, below, meth, c⟩ := K
  obtain ⟨hx, hby, hZ, hown, hnm, hml, hret, hlk⟩ := ok
  obtain ⟨hd, rfl⟩ := hd
  intro T locs X hT hF
  obtain ⟨s₂, o, h1, h2⟩ := hr T locs X hT hF
  exact ⟨s₂, o, XS.iadd X.here hx rfl (hb hby hd) rfl h1, h2⟩
theorem w_isub (ok : Ok Z K code own nm maxL ret) {x y : Int32} (hd : Fet code pc pc' (.isub) 1)  (hr : Wp l R n0 K Q h k n pc' Ls (.int (x - y) :: st)) : Wp l R n0 K Q h k n pc Ls (.int y :: .int x :: st) := by
  obtain ⟨p, e, s, m, args, below, meth, c⟩ := K
  obtain ⟨hx, hby, hZ, hown, hnm, hml, hret, hlk⟩ := ok
  obtain ⟨hd, rfl⟩ := hd
  intro T locs X hT hF
  obtain ⟨s₂, o, h1, h2⟩ := hr T locs X hT hF
  exact ⟨s₂, o, XS.isub X.here hx rfl (hb hby hd) rfl h1, h2⟩
theorem w_imul (ok : Ok Z K code own nm maxL ret) {x y : Int32} (hd : Fet code pc pc' (.imul) 1)  (hr : Wp l R n0 K Q h k n pc' Ls (.int (x * y) :: st)) : Wp l R n0 K Q h k n pc Ls (.int y :: .int x :: st) := by
  obtain ⟨p, e, s, m, args, below, meth, c⟩ := K
  obtain ⟨hx, hby, hZ, hown, hnm, hml, hret, hlk⟩ := ok
  obtain ⟨hd, rfl⟩ := hd
  intro T locs X hT hF
  obtain ⟨s₂, o, h1, h2⟩ := hr T locs X hT hF
  exact ⟨s₂, o, XS.imul X.here hx rfl (hb hby hd) rfl h1, h2⟩
theorem w_iand (ok : Ok Z K code own nm maxL ret) {x y : Int32} (hd : Fet code pc pc' (.iand) 1)  (hr : Wp l R n0 K Q h k n pc' Ls (.int (x &&& y) :: st)) : Wp l R n0 K Q h k n pc Ls (.int y :: .int x :: st) := by
  obtain ⟨p, e, s, m, args, below, meth, c⟩ := K
  obtain ⟨hx, hby, hZ, hown, hnm, hml, hret, hlk⟩ := ok
  obtain ⟨hd, rfl⟩ := hd
  intro T locs X hT hF
  obtain ⟨s₂, o, h1, h2⟩ := hr T locs X hT hF
  exact ⟨s₂, o, XS.iand X.here hx rfl (hb hby hd) rfl h1, h2⟩
theorem w_ior (ok : Ok Z K code own nm maxL ret) {x y : Int32} (hd : Fet code pc pc' (.ior) 1)  (hr : Wp l R n0 K Q h k n pc' Ls (.int (x ||| y) :: st)) : Wp l R n0 K Q h k n pc Ls (.int y :: .int x :: st) := by
  obtain ⟨p, e, s, m, args, below, meth, c⟩ := K
  obtain ⟨hx, hby, hZ, hown, hnm, hml, hret, hlk⟩ := ok
  obtain ⟨hd, rfl⟩ := hd
  intro T locs X hT hF
  obtain ⟨s₂, o, h1, h2⟩ := hr T locs X hT hF
  exact ⟨s₂, o, XS.ior X.here hx rfl (hb hby hd) rfl h1, h2⟩
theorem w_ixor (ok : Ok Z K code own nm maxL ret) {x y : Int32} (hd : Fet code pc pc' (.ixor) 1)  (hr : Wp l R n0 K Q h k n pc' Ls (.int (x ^^^ y) :: st)) : Wp l R n0 K Q h k n pc Ls (.int y :: .int x :: st) := by
  obtain ⟨p, e, s, m, args, below, meth, c⟩ := K
  obtain ⟨hx, hby, hZ, hown, hnm, hml, hret, hlk⟩ := ok
  obtain ⟨hd, rfl⟩ := hd
  intro T locs X hT hF
  obtain ⟨s₂, o, h1, h2⟩ := hr T locs X hT hF
  exact ⟨s₂, o, XS.ixor X.here hx rfl (hb hby hd) rfl h1, h2⟩
theorem w_ladd (ok : Ok Z K code own nm maxL ret) {x y : Int64} (hd : Fet code pc pc' (.ladd) 1)  (hr : Wp l R n0 K Q h k n pc' Ls (.long (x + y) :: st)) : Wp l R n0 K Q h k n pc Ls (.long y :: .long x :: st) := by
  obtain ⟨p, e, s, m, args, below, meth, c⟩ := K
  obtain ⟨hx, hby, hZ, hown, hnm, hml, hret, hlk⟩ := ok
  obtain ⟨hd, rfl⟩ := hd
  intro T locs X hT hF
  obtain ⟨s₂, o, h1, h2⟩ := hr T locs X hT hF
  exact ⟨s₂, o, XS.ladd X.here hx rfl (hb hby hd) rfl h1, h2⟩
theorem w_lsub (ok : Ok Z K code own nm maxL ret) {x y : Int64} (hd : Fet code pc pc' (.lsub) 1)  (hr : Wp l R n0 K Q h k n pc' Ls (.long (x - y) :: st)) : Wp l R n0 K Q h k n pc Ls (.long y :: .long x :: st) := by
  obtain ⟨p, e, s, m, args, below, meth, c⟩ := K
  obtain ⟨hx, hby, hZ, hown, hnm, hml, hret, hlk⟩ := ok
  obtain ⟨hd, rfl⟩ := hd
  intro T locs X hT hF
  obtain ⟨s₂, o, h1, h2⟩ := hr T locs X hT hF
  exact ⟨s₂, o, XS.lsub X.here hx rfl (hb hby hd) rfl h1, h2⟩
theorem w_lmul (ok : Ok Z K code own nm maxL ret) {x y : Int64} (hd : Fet code pc pc' (.lmul) 1)  (hr : Wp l R n0 K Q h k n pc' Ls (.long (x * y) :: st)) : Wp l R n0 K Q h k n pc Ls (.long y :: .long x :: st) := by
  obtain ⟨p, e, s, m, args, below, meth, c⟩ := K
  obtain ⟨hx, hby, hZ, hown, hnm, hml, hret, hlk⟩ := ok
  obtain ⟨hd, rfl⟩ := hd
  intro T locs X hT hF
  obtain ⟨s₂, o, h1, h2⟩ := hr T locs X hT hF
  exact ⟨s₂, o, XS.lmul X.here hx rfl (hb hby hd) rfl h1, h2⟩
theorem w_land (ok : Ok Z K code own nm maxL ret) {x y : Int64} (hd : Fet code pc pc' (.land) 1)  (hr : Wp l R n0 K Q h k n pc' Ls (.long (x &&& y) :: st)) : Wp l R n0 K Q h k n pc Ls (.long y :: .long x :: st) := by
  obtain ⟨p, e, s, m, args, below, meth, c⟩ := K
  obtain ⟨hx, hby, hZ, hown, hnm, hml, hret, hlk⟩ := ok
  obtain ⟨hd, rfl⟩ := hd
  intro T locs X hT hF
  obtain ⟨s₂, o, h1, h2⟩ := hr T locs X hT hF
  exact ⟨s₂, o, XS.land X.here hx rfl (hb hby hd) rfl h1, h2⟩
theorem w_lor (ok : Ok Z K code own nm maxL ret) {x y : Int64} (hd : Fet code pc pc' (.lor) 1)  (hr : Wp l R n0 K Q h k n pc' Ls (.long (x ||| y) :: st)) : Wp l R n0 K Q h k n pc Ls (.long y :: .long x :: st) := by
  obtain ⟨p, e, s, m, args, below, meth, c⟩ := K
  obtain ⟨hx, hby, hZ, hown, hnm, hml, hret, hlk⟩ := ok
  obtain ⟨hd, rfl⟩ := hd
  intro T locs X hT hF
  obtain ⟨s₂, o, h1, h2⟩ := hr T locs X hT hF
  exact ⟨s₂, o, XS.lor X.here hx rfl (hb hby hd) rfl h1, h2⟩
theorem w_lxor (ok : Ok Z K code own nm maxL ret) {x y : Int64} (hd : Fet code pc pc' (.lxor) 1)  (hr : Wp l R n0 K Q h k n pc' Ls (.long (x ^^^ y) :: st)) : Wp l R n0 K Q h k n pc Ls (.long y :: .long x :: st) := by
  obtain ⟨p, e, s, m, args, below, meth, c⟩ := K
  obtain ⟨hx, hby, hZ, hown, hnm, hml, hret, hlk⟩ := ok
  obtain ⟨hd, rfl⟩ := hd
  intro T locs X hT hF
  obtain ⟨s₂, o, h1, h2⟩ := hr T locs X hT hF
  exact ⟨s₂, o, XS.lxor X.here hx rfl (hb hby hd) rfl h1, h2⟩
theorem w_ishl (ok : Ok Z K code own nm maxL ret) {x y : Int32} (hd : Fet code pc pc' (.ishl) 1)  (hr : Wp l R n0 K Q h k n pc' Ls (.int (x <<< (y &&& 31)) :: st)) : Wp l R n0 K Q h k n pc Ls (.int y :: .int x :: st) := by
  obtain ⟨p, e, s, m, args, below, meth, c⟩ := K
  obtain ⟨hx, hby, hZ, hown, hnm, hml, hret, hlk⟩ := ok
  obtain ⟨hd, rfl⟩ := hd
  intro T locs X hT hF
  obtain ⟨s₂, o, h1, h2⟩ := hr T locs X hT hF
  exact ⟨s₂, o, XS.ishl X.here hx rfl (hb hby hd) rfl h1, h2⟩
theorem w_ishr (ok : Ok Z K code own nm maxL ret) {x y : Int32} (hd : Fet code pc pc' (.ishr) 1)  (hr : Wp l R n0 K Q h k n pc' Ls (.int (x >>> (y &&& 31)) :: st)) : Wp l R n0 K Q h k n pc Ls (.int y :: .int x :: st) := by
  obtain ⟨p, e, s, m, args, below, meth, c⟩ := K
  obtain ⟨hx, hby, hZ, hown, hnm, hml, hret, hlk⟩ := ok
  obtain ⟨hd, rfl⟩ := hd
  intro T locs X hT hF
  obtain ⟨s₂, o, h1, h2⟩ := hr T locs X hT hF
  exact ⟨s₂, o, XS.ishr X.here hx rfl (hb hby hd) rfl h1, h2⟩
theorem w_iushr (ok : Ok Z K code own nm maxL ret) {x y : Int32} (hd : Fet code pc pc' (.iushr) 1)  (hr : Wp l R n0 K Q h k n pc' Ls (.int ((x.toUInt32 >>> (y &&& 31).toUInt32).toInt32) :: st)) : Wp l R n0 K Q h k n pc Ls (.int y :: .int x :: st) := by
  obtain ⟨p, e, s, m, args, below, meth, c⟩ := K
  obtain ⟨hx, hby, hZ, hown, hnm, hml, hret, hlk⟩ := ok
  obtain ⟨hd, rfl⟩ := hd
  intro T locs X hT hF
  obtain ⟨s₂, o, h1, h2⟩ := hr T locs X hT hF
  exact ⟨s₂, o, XS.iushr X.here hx rfl (hb hby hd) rfl h1, h2⟩
theorem w_lshl (ok : Ok Z K code own nm maxL ret) {x : Int64} {y : Int32} (hd : Fet code pc pc' (.lshl) 1)  (hr : Wp l R n0 K Q h k n pc' Ls (.long (x <<< (y &&& 0x3f).toInt64) :: st)) : Wp l R n0 K Q h k n pc Ls (.int y :: .long x :: st) := by
  obtain ⟨p, e, s, m, args, below, meth, c⟩ := K
  obtain ⟨hx, hby, hZ, hown, hnm, hml, hret, hlk⟩ := ok
  obtain ⟨hd, rfl⟩ := hd
  intro T locs X hT hF
  obtain ⟨s₂, o, h1, h2⟩ := hr T locs X hT hF
  exact ⟨s₂, o, XS.lshl X.here hx rfl (hb hby hd) rfl h1, h2⟩
theorem w_lshr (ok : Ok Z K code own nm maxL ret) {x : Int64} {y : Int32} (hd : Fet code pc pc' (.lshr) 1)  (hr : Wp l R n0 K Q h k n pc' Ls (.long (x >>> (y &&& 0x3f).toInt64) :: st)) : Wp l R n0 K Q h k n pc Ls (.int y :: .long x :: st) := by
  obtain ⟨p, e, s, m, args, below, meth, c⟩ := K
  obtain ⟨hx, hby, hZ, hown, hnm, hml, hret, hlk⟩ := ok
  obtain ⟨hd, rfl⟩ := hd
  intro T locs X hT hF
  obtain ⟨s₂, o, h1, h2⟩ := hr T locs X hT hF
  exact ⟨s₂, o, XS.lshr X.here hx rfl (hb hby hd) rfl h1, h2⟩
theorem w_lushr (ok : Ok Z K code own nm maxL ret) {x : Int64} {y : Int32} (hd : Fet code pc pc' (.lushr) 1)  (hr : Wp l R n0 K Q h k n pc' Ls (.long ((x.toUInt64 >>> (y &&& 0x3f).toInt64.toUInt64).toInt64) :: st)) : Wp l R n0 K Q h k n pc Ls (.int y :: .long x :: st) := by
  obtain ⟨p, e, s, m, args, below, meth, c⟩ := K
  obtain ⟨hx, hby, hZ, hown, hnm, hml, hret, hlk⟩ := ok
  obtain ⟨hd, rfl⟩ := hd
  intro T locs X hT hF
  obtain ⟨s₂, o, h1, h2⟩ := hr T locs X hT hF
  exact ⟨s₂, o, XS.lushr X.here hx rfl (hb hby hd) rfl h1, h2⟩
theorem w_idiv (ok : Ok Z K code own nm maxL ret) {x y : Int32} (hd : Fet code pc pc' (.idiv) 1) (hy : y ≠ 0) (hr : Wp l R n0 K Q h k n pc' Ls (.int (x / y) :: st)) : Wp l R n0 K Q h k n pc Ls (.int y :: .int x :: st) := by
  obtain ⟨p, e, s, m, args, below, meth, c⟩ := K
  obtain ⟨hx, hby, hZ, hown, hnm, hml, hret, hlk⟩ := ok
  obtain ⟨hd, rfl⟩ := hd
  intro T locs X hT hF
  obtain ⟨s₂, o, h1, h2⟩ := hr T locs X hT hF
  exact ⟨s₂, o, XS.idiv X.here hx rfl (hb hby hd) rfl hy h1, h2⟩
theorem w_ldiv (ok : Ok Z K code own nm maxL ret) {x y : Int64} (hd : Fet code pc pc' (.ldiv) 1) (hy : y ≠ 0) (hr : Wp l R n0 K Q h k n pc' Ls (.long (x / y) :: st)) : Wp l R n0 K Q h k n pc Ls (.long y :: .long x :: st) := by
  obtain ⟨p, e, s, m, args, below, meth, c⟩ := K
  obtain ⟨hx, hby, hZ, hown, hnm, hml, hret, hlk⟩ := ok
  obtain ⟨hd, rfl⟩ := hd
  intro T locs X hT hF
  obtain ⟨s₂, o, h1, h2⟩ := hr T locs X hT hF
  exact ⟨s₂, o, XS.ldiv X.here hx rfl (hb hby hd) rfl hy h1, h2⟩
theorem w_ineg (ok : Ok Z K code own nm maxL ret) {x : Int32} (hd : Fet code pc pc' (.ineg) 1)  (hr : Wp l R n0 K Q h k n pc' Ls (.int (-x) :: st)) : Wp l R n0 K Q h k n pc Ls (.int x :: st) := by
  obtain ⟨p, e, s, m, args, below, meth, c⟩ := K
  obtain ⟨hx, hby, hZ, hown, hnm, hml, hret, hlk⟩ := ok
  obtain ⟨hd, rfl⟩ := hd
  intro T locs X hT hF
  obtain ⟨s₂, o, h1, h2⟩ := hr T locs X hT hF
  exact ⟨s₂, o, XS.ineg X.here hx rfl (hb hby hd) rfl h1, h2⟩
theorem w_lneg (ok : Ok Z K code own nm maxL ret) {x : Int64} (hd : Fet code pc pc' (.lneg) 1)  (hr : Wp l R n0 K Q h k n pc' Ls (.long (-x) :: st)) : Wp l R n0 K Q h k n pc Ls (.long x :: st) := by
  obtain ⟨p, e, s, m, args, below, meth, c⟩ := K
  obtain ⟨hx, hby, hZ, hown, hnm, hml, hret, hlk⟩ := ok
  obtain ⟨hd, rfl⟩ := hd
  intro T locs X hT hF
  obtain ⟨s₂, o, h1, h2⟩ := hr T locs X hT hF
  exact ⟨s₂, o, XS.lneg X.here hx rfl (hb hby hd) rfl h1, h2⟩
theorem w_i2l (ok : Ok Z K code own nm maxL ret) {x : Int32} (hd : Fet code pc pc' (.i2l) 1)  (hr : Wp l R n0 K Q h k n pc' Ls (.long x.toInt64 :: st)) : Wp l R n0 K Q h k n pc Ls (.int x :: st) := by
  obtain ⟨p, e, s, m, args, below, meth, c⟩ := K
  obtain ⟨hx, hby, hZ, hown, hnm, hml, hret, hlk⟩ := ok
  obtain ⟨hd, rfl⟩ := hd
  intro T locs X hT hF
  obtain ⟨s₂, o, h1, h2⟩ := hr T locs X hT hF
  exact ⟨s₂, o, XS.i2l X.here hx rfl (hb hby hd) rfl h1, h2⟩
theorem w_l2i (ok : Ok Z K code own nm maxL ret) {x : Int64} (hd : Fet code pc pc' (.l2i) 1)  (hr : Wp l R n0 K Q h k n pc' Ls (.int x.toInt32 :: st)) : Wp l R n0 K Q h k n pc Ls (.long x :: st) := by
  obtain ⟨p, e, s, m, args, below, meth, c⟩ := K
  obtain ⟨hx, hby, hZ, hown, hnm, hml, hret, hlk⟩ := ok
  obtain ⟨hd, rfl⟩ := hd
  intro T locs X hT hF
  obtain ⟨s₂, o, h1, h2⟩ := hr T locs X hT hF
  exact ⟨s₂, o, XS.l2i X.here hx rfl (hb hby hd) rfl h1, h2⟩
theorem w_i2b (ok : Ok Z K code own nm maxL ret) {x : Int32} (hd : Fet code pc pc' (.i2b) 1)  (hr : Wp l R n0 K Q h k n pc' Ls (.int x.toInt8.toInt32 :: st)) : Wp l R n0 K Q h k n pc Ls (.int x :: st) := by
  obtain ⟨p, e, s, m, args, below, meth, c⟩ := K
  obtain ⟨hx, hby, hZ, hown, hnm, hml, hret, hlk⟩ := ok
  obtain ⟨hd, rfl⟩ := hd
  intro T locs X hT hF
  obtain ⟨s₂, o, h1, h2⟩ := hr T locs X hT hF
  exact ⟨s₂, o, XS.i2b X.here hx rfl (hb hby hd) rfl h1, h2⟩
theorem w_i2s (ok : Ok Z K code own nm maxL ret) {x : Int32} (hd : Fet code pc pc' (.i2s) 1)  (hr : Wp l R n0 K Q h k n pc' Ls (.int x.toInt16.toInt32 :: st)) : Wp l R n0 K Q h k n pc Ls (.int x :: st) := by
  obtain ⟨p, e, s, m, args, below, meth, c⟩ := K
  obtain ⟨hx, hby, hZ, hown, hnm, hml, hret, hlk⟩ := ok
  obtain ⟨hd, rfl⟩ := hd
  intro T locs X hT hF
  obtain ⟨s₂, o, h1, h2⟩ := hr T locs X hT hF
  exact ⟨s₂, o, XS.i2s X.here hx rfl (hb hby hd) rfl h1, h2⟩
theorem w_i2c (ok : Ok Z K code own nm maxL ret) {x : Int32} (hd : Fet code pc pc' (.i2c) 1)  (hr : Wp l R n0 K Q h k n pc' Ls (.int x.toUInt32.toUInt16.toUInt32.toInt32 :: st)) : Wp l R n0 K Q h k n pc Ls (.int x :: st) := by
  obtain ⟨p, e, s, m, args, below, meth, c⟩ := K
  obtain ⟨hx, hby, hZ, hown, hnm, hml, hret, hlk⟩ := ok
  obtain ⟨hd, rfl⟩ := hd
  intro T locs X hT hF
  obtain ⟨s₂, o, h1, h2⟩ := hr T locs X hT hF
  exact ⟨s₂, o, XS.i2c X.here hx rfl (hb hby hd) rfl h1, h2⟩
theorem w_dup (ok : Ok Z K code own nm maxL ret) {x : Value} (hd : Fet code pc pc' (.dup) 1) (hc : x.category = 1) (hr : Wp l R n0 K Q h k n pc' Ls (x :: x :: st)) : Wp l R n0 K Q h k n pc Ls (x :: st) := by
  obtain ⟨p, e, s, m, args, below, meth, c⟩ := K
  obtain ⟨hx, hby, hZ, hown, hnm, hml, hret, hlk⟩ := ok
  obtain ⟨hd, rfl⟩ := hd
  intro T locs X hT hF
  obtain ⟨s₂, o, h1, h2⟩ := hr T locs X hT hF
  exact ⟨s₂, o, XS.dup X.here hx rfl (hb hby hd) rfl hc h1, h2⟩
theorem w_pop (ok : Ok Z K code own nm maxL ret) {x : Value} (hd : Fet code pc pc' (.pop) 1) (hc : x.category = 1) (hr : Wp l R n0 K Q h k n pc' Ls st) : Wp l R n0 K Q h k n pc Ls (x :: st) := by
  obtain ⟨p, e, s, m, args, below, meth, c⟩ := K
  obtain ⟨hx, hby, hZ, hown, hnm, hml, hret, hlk⟩ := ok
  obtain ⟨hd, rfl⟩ := hd
  intro T locs X hT hF
  obtain ⟨s₂, o, h1, h2⟩ := hr T locs X hT hF
  exact ⟨s₂, o, XS.pop X.here hx rfl (hb hby hd) rfl hc h1, h2⟩
theorem w_dupX1 (ok : Ok Z K code own nm maxL ret) {x y : Value} (hd : Fet code pc pc' (.dup_x1) 1) (hc : x.category = 1) (hc' : y.category = 1) (hr : Wp l R n0 K Q h k n pc' Ls (x :: y :: x :: st)) : Wp l R n0 K Q h k n pc Ls (x :: y :: st) := by
  obtain ⟨p, e, s, m, args, below, meth, c⟩ := K
  obtain ⟨hx, hby, hZ, hown, hnm, hml, hret, hlk⟩ := ok
  obtain ⟨hd, rfl⟩ := hd
  intro T locs X hT hF
  obtain ⟨s₂, o, h1, h2⟩ := hr T locs X hT hF
  exact ⟨s₂, o, XS.dupX1 X.here hx rfl (hb hby hd) rfl hc hc' h1, h2⟩
theorem w_dup2 (ok : Ok Z K code own nm maxL ret) {x y : Value} (hd : Fet code pc pc' (.dup2) 1) (hc : x.category = 1) (hc' : y.category = 1) (hr : Wp l R n0 K Q h k n pc' Ls (x :: y :: x :: y :: st)) : Wp l R n0 K Q h k n pc Ls (x :: y :: st) := by
  obtain ⟨p, e, s, m, args, below, meth, c⟩ := K
  obtain ⟨hx, hby, hZ, hown, hnm, hml, hret, hlk⟩ := ok
  obtain ⟨hd, rfl⟩ := hd
  intro T locs X hT hF
  obtain ⟨s₂, o, h1, h2⟩ := hr T locs X hT hF
  exact ⟨s₂, o, Jvm.Free.XT.dup2 X.here hx rfl (hb hby hd) rfl hc hc' h1, h2⟩
theorem w_dup2L (ok : Ok Z K code own nm maxL ret) {x : Int64} (hd : Fet code pc pc' (.dup2) 1)  (hr : Wp l R n0 K Q h k n pc' Ls (.long x :: .long x :: st)) : Wp l R n0 K Q h k n pc Ls (.long x :: st) := by
  obtain ⟨p, e, s, m, args, below, meth, c⟩ := K
  obtain ⟨hx, hby, hZ, hown, hnm, hml, hret, hlk⟩ := ok
  obtain ⟨hd, rfl⟩ := hd
  intro T locs X hT hF
  obtain ⟨s₂, o, h1, h2⟩ := hr T locs X hT hF
  exact ⟨s₂, o, Jvm.Free.XT.dup2L X.here hx rfl (hb hby hd) rfl h1, h2⟩
theorem w_irem (ok : Ok Z K code own nm maxL ret) {x y : Int32} (hd : Fet code pc pc' (.irem) 1) (hy : y ≠ 0) (hr : Wp l R n0 K Q h k n pc' Ls (.int (x % y) :: st)) : Wp l R n0 K Q h k n pc Ls (.int y :: .int x :: st) := by
  obtain ⟨p, e, s, m, args, below, meth, c⟩ := K
  obtain ⟨hx, hby, hZ, hown, hnm, hml, hret, hlk⟩ := ok
  obtain ⟨hd, rfl⟩ := hd
  intro T locs X hT hF
  obtain ⟨s₂, o, h1, h2⟩ := hr T locs X hT hF
  exact ⟨s₂, o, iremM X hx rfl (hb hby hd) rfl hy h1, h2⟩
theorem lrem_mod (x y : Int64) : x - (x / y) * y = x % y := by
  apply Int64.toInt_inj.mp
  have h1 := Int64.le_toInt (x % y)
  have h2 := Int64.toInt_lt (x % y)
  rw [Int64.toInt_sub, Int64.toInt_mul, Int64.toInt_div, Int.bmod_mul_bmod, Int.sub_bmod_bmod, Int.mul_comm (x.toInt.tdiv y.toInt), ← Int.tmod_def, ← Int64.toInt_mod]
  exact Int.bmod_eq_of_le_mul_two (by omega) (by omega)

theorem w_lrem (ok : Ok Z K code own nm maxL ret) {x y : Int64} (hd : Fet code pc pc' (.lrem) 1) (hy : y ≠ 0) (hr : Wp l R n0 K Q h k n pc' Ls (.long (x % y) :: st)) : Wp l R n0 K Q h k n pc Ls (.long y :: .long x :: st) := by
  obtain ⟨p, e, s, m, args, below, meth, c⟩ := K
  obtain ⟨hx, hby, hZ, hown, hnm, hml, hret, hlk⟩ := ok
  obtain ⟨hd, rfl⟩ := hd
  intro T locs X hT hF
  obtain ⟨s₂, o, h1, h2⟩ := hr T locs X hT hF
  exact ⟨s₂, o, XS.lrem X.here hx rfl (hb hby hd) rfl hy (by rw [lrem_mod]; exact h1), h2⟩
theorem w_ldc (ok : Ok Z K code own nm maxL ret) {i : Nat} {x : Int32} (w : (Cond.constant own i x).before a0 Z = true) (hd : Fet code pc pc' (.ldc i) 2) (hr : Wp l R n0 K Q h k n pc' Ls (.int x :: st)) : Wp l R n0 K Q h k n pc Ls st := by
  obtain ⟨p, e, s, m, args, below, meth, c⟩ := K
  obtain ⟨hx, hby, hZ, hown, hnm, hml, hret, hlk⟩ := ok
  obtain ⟨hd, rfl⟩ := hd
  intro T locs X hT hF
  obtain ⟨s₂, o, h1, h2⟩ := hr T locs X hT hF
  exact ⟨s₂, o, X.ldcInt hx hown (mvT hZ w) (g := mkF m pc Ls st) rfl (hb hby hd) _ h1, h2⟩
theorem w_ldc2 (ok : Ok Z K code own nm maxL ret) {i : Nat} {x : Int64} (w : (Cond.constantLong own i x).before a0 Z = true) (hd : Fet code pc pc' (.ldc2_w i) 3) (hr : Wp l R n0 K Q h k n pc' Ls (.long x :: st)) : Wp l R n0 K Q h k n pc Ls st := by
  obtain ⟨p, e, s, m, args, below, meth, c⟩ := K
  obtain ⟨hx, hby, hZ, hown, hnm, hml, hret, hlk⟩ := ok
  obtain ⟨hd, rfl⟩ := hd
  intro T locs X hT hF
  obtain ⟨s₂, o, h1, h2⟩ := hr T locs X hT hF
  exact ⟨s₂, o, X.ldc2Long hx hown (mvT hZ w) (g := mkF m pc Ls st) rfl (hb hby hd) _ h1, h2⟩
theorem w_goto (ok : Ok Z K code own nm maxL ret) {pcN : Nat} {o : Int} (hd : Brn code pc pcN pc' (.goto o) o) (hr : Wp l R n0 K Q h k n pc' Ls st) : Wp l R n0 K Q h k n pc Ls st := by
  obtain ⟨p, e, s, m, args, below, meth, c⟩ := K
  obtain ⟨hx, hby, hZ, hown, hnm, hml, hret, hlk⟩ := ok
  obtain ⟨hd, rfl, ho, hp⟩ := hd
  intro T locs X hT hF
  obtain ⟨s₂, o, h1, h2⟩ := hr T locs X hT hF
  exact ⟨s₂, o, XS.goto X.here hx rfl rfl (hb hby hd) ho hp h1, h2⟩
theorem w_if0 (ok : Ok Z K code own nm maxL ret) {pcN pcT : Nat} {o : Int} {cd : ClassFile.Cond} {x : Int32} (hd : Brn code pc pcN pcT (.ifCond cd o) o) (hy : ifCond.holds cd x = true → Wp l R n0 K Q h k n pcT Ls st) (hn : ifCond.holds cd x = false → Wp l R n0 K Q h k n pcN Ls st) : Wp l R n0 K Q h k n pc Ls (.int x :: st) := by
  obtain ⟨p, e, s, m, args, below, meth, c⟩ := K
  obtain ⟨hx, hby, hZ, hown, hnm, hml, hret, hlk⟩ := ok
  obtain ⟨hd, rfl, ho, hp⟩ := hd
  intro T locs X hT hF
  cases hc : ifCond.holds cd x
  · obtain ⟨s₂, o, h1, h2⟩ := hn hc T locs X hT hF
    exact ⟨s₂, o, XS.ifNo X.here hx rfl (hb hby hd) rfl hc h1, h2⟩
  · obtain ⟨s₂, o, h1, h2⟩ := hy hc T locs X hT hF
    exact ⟨s₂, o, XS.ifYes X.here hx rfl rfl (hb hby hd) rfl hc ho hp h1, h2⟩
theorem w_ic (ok : Ok Z K code own nm maxL ret) {pcN pcT : Nat} {o : Int} {cd : ClassFile.Cond} {x y : Int32} (hd : Brn code pc pcN pcT (.if_icmp cd o) o) (hy : if_icmp.holds cd x y = true → Wp l R n0 K Q h k n pcT Ls st) (hn : if_icmp.holds cd x y = false → Wp l R n0 K Q h k n pcN Ls st) : Wp l R n0 K Q h k n pc Ls (.int y :: .int x :: st) := by
  obtain ⟨p, e, s, m, args, below, meth, c⟩ := K
  obtain ⟨hx, hby, hZ, hown, hnm, hml, hret, hlk⟩ := ok
  obtain ⟨hd, rfl, ho, hp⟩ := hd
  intro T locs X hT hF
  cases hc : if_icmp.holds cd x y
  · obtain ⟨s₂, o, h1, h2⟩ := hn hc T locs X hT hF
    exact ⟨s₂, o, XS.icmpNo X.here hx rfl (hb hby hd) rfl hc h1, h2⟩
  · obtain ⟨s₂, o, h1, h2⟩ := hy hc T locs X hT hF
    exact ⟨s₂, o, XS.icmpYes X.here hx rfl rfl (hb hby hd) rfl hc ho hp h1, h2⟩
theorem w_lcmp (ok : Ok Z K code own nm maxL ret) {x y : Int64} (hd : Fet code pc pc' .lcmp 1) (hr : Wp l R n0 K Q h k n pc' Ls (.int (lcmpW x y) :: st)) : Wp l R n0 K Q h k n pc Ls (.long y :: .long x :: st) := by
  obtain ⟨p, e, s, m, args, below, meth, c⟩ := K
  obtain ⟨hx, hby, hZ, hown, hnm, hml, hret, hlk⟩ := ok
  obtain ⟨hd, rfl⟩ := hd
  intro T locs X hT hF
  obtain ⟨s₂, o, h1, h2⟩ := hr T locs X hT hF
  exact ⟨s₂, o, XS.lcmp X.here hx rfl (hb hby hd) rfl h1, h2⟩
theorem h_eq {x y : Int32} : if_icmp.holds .eq x y = decide (x = y) := by rw [Bool.eq_iff_iff]; simp [if_icmp.holds]
theorem h_ne {x y : Int32} : if_icmp.holds .ne x y = decide (¬ x = y) := by rw [Bool.eq_iff_iff]; simp [if_icmp.holds]
theorem h_lt {x y : Int32} : if_icmp.holds .lt x y = decide (x < y) := by simp [if_icmp.holds]
theorem h_ge {x y : Int32} : if_icmp.holds .ge x y = decide (¬ x < y) := by simp [if_icmp.holds]
theorem h_gt {x y : Int32} : if_icmp.holds .gt x y = decide (y < x) := by simp [if_icmp.holds]
theorem h_le {x y : Int32} : if_icmp.holds .le x y = decide (¬ y < x) := by simp [if_icmp.holds]
theorem w_ic_eq (ok : Ok Z K code own nm maxL ret) {pcN pcT : Nat} {o : Int} {x y : Int32} (hd : Brn code pc pcN pcT (.if_icmp .eq o) o) (hy : x = y → Wp l R n0 K Q h k n pcT Ls st) (hn : ¬ x = y → Wp l R n0 K Q h k n pcN Ls st) : Wp l R n0 K Q h k n pc Ls (.int y :: .int x :: st) :=
  w_ic ok hd (fun q => hy (by rw [h_eq] at q; simpa using q)) (fun q => hn (by rw [h_eq] at q; simpa using q))
theorem w_if_eq (ok : Ok Z K code own nm maxL ret) {pcN pcT : Nat} {o : Int} {x : Int32} (hd : Brn code pc pcN pcT (.ifCond .eq o) o) (hy : x = 0 → Wp l R n0 K Q h k n pcT Ls st) (hn : ¬ x = 0 → Wp l R n0 K Q h k n pcN Ls st) : Wp l R n0 K Q h k n pc Ls (.int x :: st) :=
  w_if0 ok hd (fun q => hy (by rw [if0, h_eq] at q; simpa using q)) (fun q => hn (by rw [if0, h_eq] at q; simpa using q))
theorem w_lc_eq (ok : Ok Z K code own nm maxL ret) {pcM pcN pcT : Nat} {o : Int} {x y : Int64} (hd1 : Fet code pc pcM .lcmp 1) (hd : Brn code pcM pcN pcT (.ifCond .eq o) o) (hy : x = y → Wp l R n0 K Q h k n pcT Ls st) (hn : ¬ x = y → Wp l R n0 K Q h k n pcN Ls st) : Wp l R n0 K Q h k n pc Ls (.long y :: .long x :: st) :=
  w_lcmp ok hd1 (w_if_eq ok hd (fun q => hy ((lw_eq x y).mp q)) (fun q => hn (fun r => q ((lw_eq x y).mpr r))))
theorem w_ic_ne (ok : Ok Z K code own nm maxL ret) {pcN pcT : Nat} {o : Int} {x y : Int32} (hd : Brn code pc pcN pcT (.if_icmp .ne o) o) (hy : ¬ x = y → Wp l R n0 K Q h k n pcT Ls st) (hn : x = y → Wp l R n0 K Q h k n pcN Ls st) : Wp l R n0 K Q h k n pc Ls (.int y :: .int x :: st) :=
  w_ic ok hd (fun q => hy (by rw [h_ne] at q; simpa using q)) (fun q => hn (by rw [h_ne] at q; simpa using q))
theorem w_if_ne (ok : Ok Z K code own nm maxL ret) {pcN pcT : Nat} {o : Int} {x : Int32} (hd : Brn code pc pcN pcT (.ifCond .ne o) o) (hy : ¬ x = 0 → Wp l R n0 K Q h k n pcT Ls st) (hn : x = 0 → Wp l R n0 K Q h k n pcN Ls st) : Wp l R n0 K Q h k n pc Ls (.int x :: st) :=
  w_if0 ok hd (fun q => hy (by rw [if0, h_ne] at q; simpa using q)) (fun q => hn (by rw [if0, h_ne] at q; simpa using q))
theorem w_lc_ne (ok : Ok Z K code own nm maxL ret) {pcM pcN pcT : Nat} {o : Int} {x y : Int64} (hd1 : Fet code pc pcM .lcmp 1) (hd : Brn code pcM pcN pcT (.ifCond .ne o) o) (hy : ¬ x = y → Wp l R n0 K Q h k n pcT Ls st) (hn : x = y → Wp l R n0 K Q h k n pcN Ls st) : Wp l R n0 K Q h k n pc Ls (.long y :: .long x :: st) :=
  w_lcmp ok hd1 (w_if_ne ok hd (fun q => hy (fun r => q ((lw_eq x y).mpr r))) (fun q => hn ((lw_eq x y).mp q)))
theorem w_ic_lt (ok : Ok Z K code own nm maxL ret) {pcN pcT : Nat} {o : Int} {x y : Int32} (hd : Brn code pc pcN pcT (.if_icmp .lt o) o) (hy : x < y → Wp l R n0 K Q h k n pcT Ls st) (hn : ¬ x < y → Wp l R n0 K Q h k n pcN Ls st) : Wp l R n0 K Q h k n pc Ls (.int y :: .int x :: st) :=
  w_ic ok hd (fun q => hy (by rw [h_lt] at q; simpa using q)) (fun q => hn (by rw [h_lt] at q; simpa using q))
theorem w_if_lt (ok : Ok Z K code own nm maxL ret) {pcN pcT : Nat} {o : Int} {x : Int32} (hd : Brn code pc pcN pcT (.ifCond .lt o) o) (hy : x < 0 → Wp l R n0 K Q h k n pcT Ls st) (hn : ¬ x < 0 → Wp l R n0 K Q h k n pcN Ls st) : Wp l R n0 K Q h k n pc Ls (.int x :: st) :=
  w_if0 ok hd (fun q => hy (by rw [if0, h_lt] at q; simpa using q)) (fun q => hn (by rw [if0, h_lt] at q; simpa using q))
theorem w_lc_lt (ok : Ok Z K code own nm maxL ret) {pcM pcN pcT : Nat} {o : Int} {x y : Int64} (hd1 : Fet code pc pcM .lcmp 1) (hd : Brn code pcM pcN pcT (.ifCond .lt o) o) (hy : x < y → Wp l R n0 K Q h k n pcT Ls st) (hn : ¬ x < y → Wp l R n0 K Q h k n pcN Ls st) : Wp l R n0 K Q h k n pc Ls (.long y :: .long x :: st) :=
  w_lcmp ok hd1 (w_if_lt ok hd (fun q => hy ((lw_lt x y).mp q)) (fun q => hn (fun r => q ((lw_lt x y).mpr r))))
theorem w_ic_ge (ok : Ok Z K code own nm maxL ret) {pcN pcT : Nat} {o : Int} {x y : Int32} (hd : Brn code pc pcN pcT (.if_icmp .ge o) o) (hy : ¬ x < y → Wp l R n0 K Q h k n pcT Ls st) (hn : x < y → Wp l R n0 K Q h k n pcN Ls st) : Wp l R n0 K Q h k n pc Ls (.int y :: .int x :: st) :=
  w_ic ok hd (fun q => hy (by rw [h_ge] at q; simpa using q)) (fun q => hn (by rw [h_ge] at q; simpa using q))
theorem w_if_ge (ok : Ok Z K code own nm maxL ret) {pcN pcT : Nat} {o : Int} {x : Int32} (hd : Brn code pc pcN pcT (.ifCond .ge o) o) (hy : ¬ x < 0 → Wp l R n0 K Q h k n pcT Ls st) (hn : x < 0 → Wp l R n0 K Q h k n pcN Ls st) : Wp l R n0 K Q h k n pc Ls (.int x :: st) :=
  w_if0 ok hd (fun q => hy (by rw [if0, h_ge] at q; simpa using q)) (fun q => hn (by rw [if0, h_ge] at q; simpa using q))
theorem w_lc_ge (ok : Ok Z K code own nm maxL ret) {pcM pcN pcT : Nat} {o : Int} {x y : Int64} (hd1 : Fet code pc pcM .lcmp 1) (hd : Brn code pcM pcN pcT (.ifCond .ge o) o) (hy : ¬ x < y → Wp l R n0 K Q h k n pcT Ls st) (hn : x < y → Wp l R n0 K Q h k n pcN Ls st) : Wp l R n0 K Q h k n pc Ls (.long y :: .long x :: st) :=
  w_lcmp ok hd1 (w_if_ge ok hd (fun q => hy (fun r => q ((lw_lt x y).mpr r))) (fun q => hn ((lw_lt x y).mp q)))
theorem w_ic_gt (ok : Ok Z K code own nm maxL ret) {pcN pcT : Nat} {o : Int} {x y : Int32} (hd : Brn code pc pcN pcT (.if_icmp .gt o) o) (hy : y < x → Wp l R n0 K Q h k n pcT Ls st) (hn : ¬ y < x → Wp l R n0 K Q h k n pcN Ls st) : Wp l R n0 K Q h k n pc Ls (.int y :: .int x :: st) :=
  w_ic ok hd (fun q => hy (by rw [h_gt] at q; simpa using q)) (fun q => hn (by rw [h_gt] at q; simpa using q))
theorem w_if_gt (ok : Ok Z K code own nm maxL ret) {pcN pcT : Nat} {o : Int} {x : Int32} (hd : Brn code pc pcN pcT (.ifCond .gt o) o) (hy : 0 < x → Wp l R n0 K Q h k n pcT Ls st) (hn : ¬ 0 < x → Wp l R n0 K Q h k n pcN Ls st) : Wp l R n0 K Q h k n pc Ls (.int x :: st) :=
  w_if0 ok hd (fun q => hy (by rw [if0, h_gt] at q; simpa using q)) (fun q => hn (by rw [if0, h_gt] at q; simpa using q))
theorem w_lc_gt (ok : Ok Z K code own nm maxL ret) {pcM pcN pcT : Nat} {o : Int} {x y : Int64} (hd1 : Fet code pc pcM .lcmp 1) (hd : Brn code pcM pcN pcT (.ifCond .gt o) o) (hy : y < x → Wp l R n0 K Q h k n pcT Ls st) (hn : ¬ y < x → Wp l R n0 K Q h k n pcN Ls st) : Wp l R n0 K Q h k n pc Ls (.long y :: .long x :: st) :=
  w_lcmp ok hd1 (w_if_gt ok hd (fun q => hy ((lw_gt x y).mp q)) (fun q => hn (fun r => q ((lw_gt x y).mpr r))))
theorem w_ic_le (ok : Ok Z K code own nm maxL ret) {pcN pcT : Nat} {o : Int} {x y : Int32} (hd : Brn code pc pcN pcT (.if_icmp .le o) o) (hy : ¬ y < x → Wp l R n0 K Q h k n pcT Ls st) (hn : y < x → Wp l R n0 K Q h k n pcN Ls st) : Wp l R n0 K Q h k n pc Ls (.int y :: .int x :: st) :=
  w_ic ok hd (fun q => hy (by rw [h_le] at q; simpa using q)) (fun q => hn (by rw [h_le] at q; simpa using q))
theorem w_if_le (ok : Ok Z K code own nm maxL ret) {pcN pcT : Nat} {o : Int} {x : Int32} (hd : Brn code pc pcN pcT (.ifCond .le o) o) (hy : ¬ 0 < x → Wp l R n0 K Q h k n pcT Ls st) (hn : 0 < x → Wp l R n0 K Q h k n pcN Ls st) : Wp l R n0 K Q h k n pc Ls (.int x :: st) :=
  w_if0 ok hd (fun q => hy (by rw [if0, h_le] at q; simpa using q)) (fun q => hn (by rw [if0, h_le] at q; simpa using q))
theorem w_lc_le (ok : Ok Z K code own nm maxL ret) {pcM pcN pcT : Nat} {o : Int} {x y : Int64} (hd1 : Fet code pc pcM .lcmp 1) (hd : Brn code pcM pcN pcT (.ifCond .le o) o) (hy : ¬ y < x → Wp l R n0 K Q h k n pcT Ls st) (hn : y < x → Wp l R n0 K Q h k n pcN Ls st) : Wp l R n0 K Q h k n pc Ls (.long y :: .long x :: st) :=
  w_lcmp ok hd1 (w_if_le ok hd (fun q => hy (fun r => q ((lw_gt x y).mpr r))) (fun q => hn ((lw_gt x y).mp q)))
theorem w_ifnull_yes (ok : Ok Z K code own nm maxL ret) {pcN pcT : Nat} {o : Int} (hd : Brn code pc pcN pcT (.ifnull o) o) (hr : Wp l R n0 K Q h k n pcT Ls st) : Wp l R n0 K Q h k n pc Ls (.null :: st) := by
  obtain ⟨p, e, s, m, args, below, meth, c⟩ := K
  obtain ⟨hx, hby, hZ, hown, hnm, hml, hret, hlk⟩ := ok
  obtain ⟨hd, rfl, ho, hp⟩ := hd
  intro T locs X hT hF
  obtain ⟨s₂, o, h1, h2⟩ := hr T locs X hT hF
  exact ⟨s₂, o, XS.ifnullYes X.here hx rfl rfl (hb hby hd) rfl ho hp h1, h2⟩
theorem w_ifnull_no (ok : Ok Z K code own nm maxL ret) {pcN pcT : Nat} {o : Int} {b : Addr} (hd : Brn code pc pcN pcT (.ifnull o) o) (hr : Wp l R n0 K Q h k n pcN Ls st) : Wp l R n0 K Q h k n pc Ls (.ref b :: st) := by
  obtain ⟨p, e, s, m, args, below, meth, c⟩ := K
  obtain ⟨hx, hby, hZ, hown, hnm, hml, hret, hlk⟩ := ok
  obtain ⟨hd, rfl, ho, hp⟩ := hd
  intro T locs X hT hF
  obtain ⟨s₂, o, h1, h2⟩ := hr T locs X hT hF
  exact ⟨s₂, o, XS.ifnullNo X.here hx rfl (hb hby hd) rfl h1, h2⟩
theorem w_ifnonnull_yes (ok : Ok Z K code own nm maxL ret) {pcN pcT : Nat} {o : Int} {b : Addr} (hd : Brn code pc pcN pcT (.ifnonnull o) o) (hr : Wp l R n0 K Q h k n pcT Ls st) : Wp l R n0 K Q h k n pc Ls (.ref b :: st) := by
  obtain ⟨p, e, s, m, args, below, meth, c⟩ := K
  obtain ⟨hx, hby, hZ, hown, hnm, hml, hret, hlk⟩ := ok
  obtain ⟨hd, rfl, ho, hp⟩ := hd
  intro T locs X hT hF
  obtain ⟨s₂, o, h1, h2⟩ := hr T locs X hT hF
  exact ⟨s₂, o, XS.ifnonnullYes X.here hx rfl rfl (hb hby hd) rfl ho hp h1, h2⟩
theorem w_ifnonnull_no (ok : Ok Z K code own nm maxL ret) {pcN pcT : Nat} {o : Int} (hd : Brn code pc pcN pcT (.ifnonnull o) o) (hr : Wp l R n0 K Q h k n pcN Ls st) : Wp l R n0 K Q h k n pc Ls (.null :: st) := by
  obtain ⟨p, e, s, m, args, below, meth, c⟩ := K
  obtain ⟨hx, hby, hZ, hown, hnm, hml, hret, hlk⟩ := ok
  obtain ⟨hd, rfl, ho, hp⟩ := hd
  intro T locs X hT hF
  obtain ⟨s₂, o, h1, h2⟩ := hr T locs X hT hF
  exact ⟨s₂, o, XS.ifnonnullNo X.here hx rfl (hb hby hd) rfl h1, h2⟩
theorem w_acmp_eq (ok : Ok Z K code own nm maxL ret) {pcN pcT : Nat} {o : Int} {x y : Value} (hd : Brn code pc pcN pcT (.if_acmp .eq o) o) (hx' : x.isRef = true) (hy' : y.isRef = true) (hy : x = y → Wp l R n0 K Q h k n pcT Ls st) (hn : ¬ x = y → Wp l R n0 K Q h k n pcN Ls st) : Wp l R n0 K Q h k n pc Ls (y :: x :: st) := by
  obtain ⟨p, e, s, m, args, below, meth, c⟩ := K
  obtain ⟨hx, hby, hZ, hown, hnm, hml, hret, hlk⟩ := ok
  obtain ⟨hd, rfl, ho, hp⟩ := hd
  intro T locs X hT hF
  by_cases q : x = y
  · obtain ⟨s₂, o, h1, h2⟩ := hy q T locs X hT hF
    exact ⟨s₂, o, Jvm.RoadKit.acmp X hx rfl hx' hy' rfl (hb hby hd) rfl (decide_eq_true q) ho (by simp [acV, hp]) h1, h2⟩
  · obtain ⟨s₂, o, h1, h2⟩ := hn q T locs X hT hF
    exact ⟨s₂, o, Jvm.RoadKit.acmp X hx rfl hx' hy' rfl (hb hby hd) rfl (decide_eq_false q) ho (by simp [acV, hp]) h1, h2⟩
theorem w_acmp_ne (ok : Ok Z K code own nm maxL ret) {pcN pcT : Nat} {o : Int} {x y : Value} (hd : Brn code pc pcN pcT (.if_acmp .ne o) o) (hx' : x.isRef = true) (hy' : y.isRef = true) (hy : ¬ x = y → Wp l R n0 K Q h k n pcT Ls st) (hn : x = y → Wp l R n0 K Q h k n pcN Ls st) : Wp l R n0 K Q h k n pc Ls (y :: x :: st) := by
  obtain ⟨p, e, s, m, args, below, meth, c⟩ := K
  obtain ⟨hx, hby, hZ, hown, hnm, hml, hret, hlk⟩ := ok
  obtain ⟨hd, rfl, ho, hp⟩ := hd
  intro T locs X hT hF
  by_cases q : x = y
  · obtain ⟨s₂, o, h1, h2⟩ := hn q T locs X hT hF
    exact ⟨s₂, o, Jvm.RoadKit.acmp X hx rfl hx' hy' rfl (hb hby hd) rfl (decide_eq_true q) ho (by simp [acV, hp]) h1, h2⟩
  · obtain ⟨s₂, o, h1, h2⟩ := hy q T locs X hT hF
    exact ⟨s₂, o, Jvm.RoadKit.acmp X hx rfl hx' hy' rfl (hb hby hd) rfl (decide_eq_false q) ho (by simp [acV, hp]) h1, h2⟩
theorem w_return (ok : Ok Z K code own nm maxL none) (hd : Fet code pc pc' .return_ 1) (hk : k ≤ R.cells) (hn : n ≤ R.slots) (hQ : Q none h) : Wp l R n0 K Q h k n pc Ls [] := by
  obtain ⟨p, e, s, m, args, below, meth, c⟩ := K
  obtain ⟨hx, hby, hZ, hown, hnm, hml, hret, hlk⟩ := ok
  obtain ⟨hd, -⟩ := hd
  intro T locs X hT hF
  obtain ⟨fs, hr, hrun, hended, hW, hsame⟩ := X.leave (v := none) (fun _ => rfl) hlk
  refine ⟨_, _, X.returnOut hx hret (hb hby hd) hr, hrun, hended, _, locs, rfl, ⟨?_, hF⟩, ⟨_, rfl⟩, hW, hsame.mono hk hn⟩
  show Q _ T.heap
  rw [hT]; exact hQ
theorem w_ireturnN {t : FieldType} (ok : Ok Z K code own nm maxL (some t)) {x : Int32} (ht : t = .boolean ∨ t = .byte ∨ t = .char ∨ t = .short) (hd : Fet code pc pc' .ireturn 1) (hk : k ≤ R.cells) (hn : n ≤ R.slots) (hQ : Q (some (.int (nar t x))) h) : Wp l R n0 K Q h k n pc Ls (.int x :: st) := by
  obtain ⟨p, e, s, m, args, below, meth, c⟩ := K
  obtain ⟨hx, hby, hZ, hown, hnm, hml, hret, hlk⟩ := ok
  obtain ⟨hd, -⟩ := hd
  intro T locs X hT hF
  obtain ⟨fs, hr, hrun, hended, hW, hsame⟩ := X.leave (v := some (.int (nar t x))) (fun q => by rw [hret] at q; cases q) hlk
  refine ⟨_, _, retN X hx hret ht (hb hby hd) hr, hrun, hended, _, locs, rfl, ⟨?_, hF⟩, ⟨_, rfl⟩, hW, hsame.mono hk hn⟩
  show Q _ T.heap
  rw [hT]; exact hQ
theorem w_ireturnI (ok : Ok Z K code own nm maxL (some .int)) {x : Int32} (hd : Fet code pc pc' .ireturn 1) (hk : k ≤ R.cells) (hn : n ≤ R.slots) (hQ : Q (some (.int x)) h) : Wp l R n0 K Q h k n pc Ls (.int x :: st) := by
  obtain ⟨p, e, s, m, args, below, meth, c⟩ := K
  obtain ⟨hx, hby, hZ, hown, hnm, hml, hret, hlk⟩ := ok
  obtain ⟨hd, -⟩ := hd
  intro T locs X hT hF
  obtain ⟨fs, hr, hrun, hended, hW, hsame⟩ := X.leave (v := some (.int x)) (fun q => by rw [hret] at q; cases q) hlk
  refine ⟨_, _, retOut X hx hret (by rfl) (Or.inl ⟨rfl, Or.inl rfl, _, rfl⟩) (hb hby hd) hr, hrun, hended, _, locs, rfl, ⟨?_, hF⟩, ⟨_, rfl⟩, hW, hsame.mono hk hn⟩
  show Q _ T.heap
  rw [hT]; exact hQ
theorem w_lreturn (ok : Ok Z K code own nm maxL (some .long)) {x : Int64} (hd : Fet code pc pc' .lreturn 1) (hk : k ≤ R.cells) (hn : n ≤ R.slots) (hQ : Q (some (.long x)) h) : Wp l R n0 K Q h k n pc Ls (.long x :: st) := by
  obtain ⟨p, e, s, m, args, below, meth, c⟩ := K
  obtain ⟨hx, hby, hZ, hown, hnm, hml, hret, hlk⟩ := ok
  obtain ⟨hd, -⟩ := hd
  intro T locs X hT hF
  obtain ⟨fs, hr, hrun, hended, hW, hsame⟩ := X.leave (v := some (.long x)) (fun q => by rw [hret] at q; cases q) hlk
  refine ⟨_, _, retOut X hx hret (by rfl) (Or.inr (Or.inl ⟨rfl, rfl, _, rfl⟩)) (hb hby hd) hr, hrun, hended, _, locs, rfl, ⟨?_, hF⟩, ⟨_, rfl⟩, hW, hsame.mono hk hn⟩
  show Q _ T.heap
  rw [hT]; exact hQ
theorem w_areturn {t : FieldType} (ok : Ok Z K code own nm maxL (some t)) {x : Value} (ht : t.isReference = true) (hv : x.isRef = true) (hnar : narrow t x = x) (hd : Fet code pc pc' .areturn 1) (hk : k ≤ R.cells) (hn : n ≤ R.slots) (hQ : Q (some x) h) : Wp l R n0 K Q h k n pc Ls (x :: st) := by
  obtain ⟨p, e, s, m, args, below, meth, c⟩ := K
  obtain ⟨hx, hby, hZ, hown, hnm, hml, hret, hlk⟩ := ok
  obtain ⟨hd, -⟩ := hd
  intro T locs X hT hF
  obtain ⟨fs, hr, hrun, hended, hW, hsame⟩ := X.leave (v := some x) (fun q => by rw [hret] at q; cases q) hlk
  refine ⟨_, _, retOut X hx hret hnar (Or.inr (Or.inr (Or.inr (Or.inr ⟨rfl, ht, hv⟩)))) (hb hby hd) hr, hrun, hended, _, locs, rfl, ⟨?_, hF⟩, ⟨_, rfl⟩, hW, hsame.mono hk hn⟩
  show Q _ T.heap
  rw [hT]; exact hQ
theorem w_getfield (ok : Ok Z K code own nm maxL ret) {R0 O f d host : String} {i : Nat} {a : Addr} {x : Value} (w : (Cond.fieldLink own i R0 f d).before a0 Z = true ∨ (Cond.fieldLinkNest own i R0 f d host).before a0 Z = true) (via : Via Z R0 O f d) (F : Fld Z h a O f d x) (hd : Fet code pc pc' (.getfield i) 3) (hr : Wp l R n0 K Q h k n pc' Ls (x :: st)) : Wp l R n0 K Q h k n pc Ls (.ref a :: st) := by
  obtain ⟨p, e, s, m, args, below, meth, c⟩ := K
  obtain ⟨hx, hby, hZ, hown, hnm, hml, hret, hlk⟩ := ok
  obtain ⟨hd, rfl⟩ := hd
  intro T locs X hT hF
  obtain ⟨T', X', e', stp⟩ := getF X hx hZ hown w via hT F (g := mkF m pc Ls (.ref a :: st)) rfl rfl (hb hby hd)
  obtain ⟨s₂, o, h1, h2⟩ := hr T' locs X' e' hF
  exact ⟨s₂, o, stp _ h1, h2⟩
theorem w_getstatic (ok : Ok Z K code own nm maxL ret) {R0 O f d : String} {i : Nat} {x : Value} (w : (Cond.fieldLink own i R0 f d).before a0 Z = true) (via : Via Z R0 O f d) (F : Sta Z h O f d x) (hd : Fet code pc pc' (.getstatic i) 3) (hr : Wp l R n0 K Q h k n pc' Ls (x :: st)) : Wp l R n0 K Q h k n pc Ls st := by
  obtain ⟨p, e, s, m, args, below, meth, c⟩ := K
  obtain ⟨hx, hby, hZ, hown, hnm, hml, hret, hlk⟩ := ok
  obtain ⟨hd, rfl⟩ := hd
  intro T locs X hT hF
  obtain ⟨T', X', e', stp⟩ := getS (host := "") X hx hZ hown w via hT F (g := mkF m pc Ls st) rfl (hb hby hd)
  obtain ⟨s₂, o, h1, h2⟩ := hr T' locs X' e' hF
  exact ⟨s₂, o, stp _ h1, h2⟩
theorem w_putfield (ok : Ok Z K code own nm maxL ret) {R0 O f d host C : String} {i kk : Nat} {ty : FieldType} {a : Addr} {x old : Value} (w : (Cond.fieldLink own i R0 f d).before a0 Z = true ∨ (Cond.fieldLinkNest own i R0 f d host).before a0 Z = true) (via : Via Z R0 O f d) (F : Fld Z h a O f d old) (E : Exa Z h a C)
    (L : (Cond.lays C O f d).before a0 Z = true ∨ ((Cond.laysFinal C O f d).before a0 Z = true ∧ own = O ∧ nm = "<init>")) (wi : (Cond.instantiable C kk).before a0 Z = true) (hty : parseFieldDescriptor d = some ty) (hna : narrow ty x = x) (hfi : fits ty x = true) (ha : n0 ≤ a) (hd : Fet code pc pc' (.putfield i) 3)
    (hr : ∀ h', Wr h h' a (Jvm.RoadKit.slotOf Z O f d) x → Wp l R n0 K Q h' k n pc' Ls st) : Wp l R n0 K Q h k n pc Ls (x :: .ref a :: st) := by
  obtain ⟨p, e, s, m, args, below, meth, c⟩ := K
  obtain ⟨hx, hby, hZ, hown, hnm, hml, hret, hlk⟩ := ok
  obtain ⟨hd, rfl⟩ := hd
  intro T locs X hT hF
  obtain ⟨T', h', X', e', W', stp⟩ := putF X hx hZ hown w via hT F E (L.imp id fun q => ⟨q.1, q.2.1, hnm.trans q.2.2⟩) wi hty hna hfi (g := mkF m pc Ls (x :: .ref a :: st)) rfl rfl (hb hby hd)
  obtain ⟨s₂, o, h1, h2⟩ := hr h' W' T' _ X' e' (Fr.snoc X' hF ha)
  exact ⟨s₂, o, stp _ h1, h2⟩
theorem w_putfieldN (ok : Ok Z K code own nm maxL ret) {R0 O f d C : String} {i kk : Nat} {ty : FieldType} {a : Addr} {x x' old : Value} (w : (Cond.fieldLink own i R0 f d).before a0 Z = true) (via : Via Z R0 O f d) (F : Fld Z h a O f d old) (E : Exa Z h a C)
    (L : (Cond.lays C O f d).before a0 Z = true ∨ ((Cond.laysFinal C O f d).before a0 Z = true ∧ own = O ∧ nm = "<init>")) (wi : (Cond.instantiable C kk).before a0 Z = true) (hty : parseFieldDescriptor d = some ty) (hna : narrow ty x = x') (hfi : fits ty x' = true) (ha : n0 ≤ a) (hd : Fet code pc pc' (.putfield i) 3)
    (hr : ∀ h', Wr h h' a (Jvm.RoadKit.slotOf Z O f d) x' → Wp l R n0 K Q h' k n pc' Ls st) : Wp l R n0 K Q h k n pc Ls (x :: .ref a :: st) := by
  obtain ⟨p, e, s, m, args, below, meth, c⟩ := K
  obtain ⟨hx, hby, hZ, hown, hnm, hml, hret, hlk⟩ := ok
  obtain ⟨hd, rfl⟩ := hd
  intro T locs X hT hF
  obtain ⟨T', h', X', e', W', stp⟩ := putFN X hx hZ hown w via hT F E (L.imp id fun q => ⟨q.1, q.2.1, hnm.trans q.2.2⟩) wi hty hna hfi (g := mkF m pc Ls (x :: .ref a :: st)) rfl rfl (hb hby hd)
  obtain ⟨s₂, o, h1, h2⟩ := hr h' W' T' _ X' e' (Fr.snoc X' hF ha)
  exact ⟨s₂, o, stp _ h1, h2⟩
theorem w_new (ok : Ok Z K code own nm maxL ret) {C : String} {i nn : Nat} (w : (Cond.classLink own i C).before a0 Z = true) (wi : (Cond.instantiable C nn).before a0 Z = true) (wz : (Cond.initialized C).before a0 Z = true) (hd : Fet code pc pc' (.new i) 3) (ek : k + 1 = k') (en : n + nn = n') (hc : k' ≤ R.cells) (hl : n' ≤ R.slots)
    (hr : ∀ h' b, b = h.size → Ext h h' → Exa Z h' b C → (∀ {O f d : String} {ty : FieldType}, Laid Z a0 C O f d → parseFieldDescriptor d = some ty → Fld Z h' b O f d (defaultValue ty)) → Wp l R n0 K Q h' k' n' pc' Ls (.ref b :: st)) : Wp l R n0 K Q h k n pc Ls st := by
  obtain ⟨p, e, s, m, args, below, meth, c⟩ := K
  obtain ⟨hx, hby, hZ, hown, hnm, hml, hret, hlk⟩ := ok
  obtain ⟨hd, rfl⟩ := hd
  intro T locs X hT hF
  subst ek en
  obtain ⟨T', h', X', e', E', A', D', -, stp⟩ := newO X hx hZ hown w wi wz hT (g := mkF m pc Ls st) rfl (hb hby hd) hc hl
  obtain ⟨s₂, o, h1, h2⟩ := hr h' _ rfl E' A' D' T' _ X' e' hF
  exact ⟨s₂, o, stp _ h1, h2⟩
theorem w_newarray (ok : Ok Z K code own nm maxL ret) {aty : ArrayType} {z : Int32} {cap : Nat} (w : (Cond.arrayClass (newarray.typeOf aty)).before a0 Z = true) (hd : Fet code pc pc' (.newarray aty) 2) (hz : ¬ z < 0) (hcap : z.toNatClampNeg ≤ cap) (hb8 : cap * 8 ≤ 536870912) (ek : k + 1 = k') (en : n + cap = n') (hc : k' ≤ R.cells) (hl : n' ≤ R.slots)
    (hr : ∀ h' b cA, b = h.size → Ext h h' → Arr Z h' b (newA cA (newarray.typeOf aty) z) (newarray.typeOf aty) → Wp l R n0 K Q h' k' n' pc' Ls (.ref b :: st)) : Wp l R n0 K Q h k n pc Ls (.int z :: st) := by
  obtain ⟨p, e, s, m, args, below, meth, c⟩ := K
  obtain ⟨hx, hby, hZ, hown, hnm, hml, hret, hlk⟩ := ok
  obtain ⟨hd, rfl⟩ := hd
  intro T locs X hT hF
  subst ek en
  obtain ⟨T', h', cA, X', e', E', A', stp⟩ := newP X hx hZ w hT (g := mkF m pc Ls (.int z :: st)) rfl (hb hby hd) rfl hz hcap hb8 hc hl
  obtain ⟨s₂, o, h1, h2⟩ := hr h' _ cA rfl E' A' T' _ X' e' hF
  exact ⟨s₂, o, stp _ h1, h2⟩
theorem w_initO (ok : Ok Z K code own nm maxL ret) {i : Nat} {a : Addr} (w1 : (Cond.methodLink own i Lib.objectInit).before a0 Z = true) (w2 : (Cond.instanceMethod Lib.objectInit).before a0 Z = true) (w3 : (Cond.code Lib.objectInit ⟨#[0xb1]⟩ 1 none).before a0 Z = true) (hd : Fet code pc pc' (.invokespecial i) 3)
    (hsz : Ls.size = maxL) (hf : 1 ≤ R.frames) (hl : (st.map fun v => v.category).sum + 12 ≤ R.locals) (hr : Wp l R n0 K Q h k n pc' Ls st) : Wp l R n0 K Q h k n pc Ls (.ref a :: st) := by
  obtain ⟨p, e, s, m, args, below, meth, c⟩ := K
  obtain ⟨hx, hby, hZ, hown, hnm, hml, hret, hlk⟩ := ok
  obtain ⟨hd, rfl⟩ := hd
  intro T locs X hT hF
  obtain ⟨T', X', e', stp⟩ := initO X hx hZ hown w1 w2 w3 hT (g := mkF m pc Ls (.ref a :: st)) rfl (hsz.trans hml.symm) rfl (hb hby hd) hf (W := (st.map fun v => v.category).sum) (by show 2 * 0 + _ ≤ _; omega) hl
  obtain ⟨s₂, o, h1, h2⟩ := hr T' locs X' e' hF
  exact ⟨s₂, o, stp _ h1, h2⟩
theorem w_iastore (ok : Ok Z K code own nm maxL ret) {a : Addr} {cl : Cell} {j : Int32} {x : Int32} (A : Arr Z h a cl .int) (hj : ¬ (j < 0 ∨ cl.slots.size ≤ j.toNatClampNeg)) (ha : n0 ≤ a) (hd : Fet code pc pc' .iastore 1)
    (hr : ∀ h', Wr h h' a j.toNatClampNeg (.int x) → Wp l R n0 K Q h' k n pc' Ls st) : Wp l R n0 K Q h k n pc Ls ((.int x) :: .int j :: .ref a :: st) := by
  obtain ⟨p, e, s, m, args, below, meth, c⟩ := K
  obtain ⟨hx, hby, hZ, hown, hnm, hml, hret, hlk⟩ := ok
  obtain ⟨hd, rfl⟩ := hd
  intro T locs X hT hF
  obtain ⟨T', h', X', e', W', stp⟩ := stI X hx hZ hT A hj (g := mkF m pc Ls ((.int x) :: .int j :: .ref a :: st)) rfl rfl (hb hby hd)
  obtain ⟨s₂, o, h1, h2⟩ := hr h' W' T' _ X' e' (Fr.snoc X' hF ha)
  exact ⟨s₂, o, stp _ h1, h2⟩
theorem w_lastore (ok : Ok Z K code own nm maxL ret) {a : Addr} {cl : Cell} {j : Int32} {x : Int64} (A : Arr Z h a cl .long) (hj : ¬ (j < 0 ∨ cl.slots.size ≤ j.toNatClampNeg)) (ha : n0 ≤ a) (hd : Fet code pc pc' .lastore 1)
    (hr : ∀ h', Wr h h' a j.toNatClampNeg (.long x) → Wp l R n0 K Q h' k n pc' Ls st) : Wp l R n0 K Q h k n pc Ls ((.long x) :: .int j :: .ref a :: st) := by
  obtain ⟨p, e, s, m, args, below, meth, c⟩ := K
  obtain ⟨hx, hby, hZ, hown, hnm, hml, hret, hlk⟩ := ok
  obtain ⟨hd, rfl⟩ := hd
  intro T locs X hT hF
  obtain ⟨T', h', X', e', W', stp⟩ := stJ X hx hZ hT A hj (g := mkF m pc Ls ((.long x) :: .int j :: .ref a :: st)) rfl rfl (hb hby hd)
  obtain ⟨s₂, o, h1, h2⟩ := hr h' W' T' _ X' e' (Fr.snoc X' hF ha)
  exact ⟨s₂, o, stp _ h1, h2⟩
theorem w_castore (ok : Ok Z K code own nm maxL ret) {a : Addr} {cl : Cell} {j : Int32} {x : Int32} (A : Arr Z h a cl .char) (hj : ¬ (j < 0 ∨ cl.slots.size ≤ j.toNatClampNeg)) (ha : n0 ≤ a) (hd : Fet code pc pc' .castore 1)
    (hr : ∀ h', Wr h h' a j.toNatClampNeg (.int (nar .char x)) → Wp l R n0 K Q h' k n pc' Ls st) : Wp l R n0 K Q h k n pc Ls ((.int x) :: .int j :: .ref a :: st) := by
  obtain ⟨p, e, s, m, args, below, meth, c⟩ := K
  obtain ⟨hx, hby, hZ, hown, hnm, hml, hret, hlk⟩ := ok
  obtain ⟨hd, rfl⟩ := hd
  intro T locs X hT hF
  obtain ⟨T', h', X', e', W', stp⟩ := stC X hx hZ hT A hj (g := mkF m pc Ls ((.int x) :: .int j :: .ref a :: st)) rfl rfl (hb hby hd)
  obtain ⟨s₂, o, h1, h2⟩ := hr h' W' T' _ X' e' (Fr.snoc X' hF ha)
  exact ⟨s₂, o, stp _ h1, h2⟩
theorem w_bastoreB (ok : Ok Z K code own nm maxL ret) {a : Addr} {cl : Cell} {j : Int32} {x : Int32} (A : Arr Z h a cl .byte) (hj : ¬ (j < 0 ∨ cl.slots.size ≤ j.toNatClampNeg)) (ha : n0 ≤ a) (hd : Fet code pc pc' .bastore 1)
    (hr : ∀ h', Wr h h' a j.toNatClampNeg (.int (nar .byte x)) → Wp l R n0 K Q h' k n pc' Ls st) : Wp l R n0 K Q h k n pc Ls ((.int x) :: .int j :: .ref a :: st) := by
  obtain ⟨p, e, s, m, args, below, meth, c⟩ := K
  obtain ⟨hx, hby, hZ, hown, hnm, hml, hret, hlk⟩ := ok
  obtain ⟨hd, rfl⟩ := hd
  intro T locs X hT hF
  obtain ⟨T', h', X', e', W', stp⟩ := stB X hx hZ hT A hj (g := mkF m pc Ls ((.int x) :: .int j :: .ref a :: st)) rfl rfl (hb hby hd)
  obtain ⟨s₂, o, h1, h2⟩ := hr h' W' T' _ X' e' (Fr.snoc X' hF ha)
  exact ⟨s₂, o, stp _ h1, h2⟩
theorem w_bastoreZ (ok : Ok Z K code own nm maxL ret) {a : Addr} {cl : Cell} {j : Int32} {x : Int32} (A : Arr Z h a cl .boolean) (hj : ¬ (j < 0 ∨ cl.slots.size ≤ j.toNatClampNeg)) (ha : n0 ≤ a) (hd : Fet code pc pc' .bastore 1)
    (hr : ∀ h', Wr h h' a j.toNatClampNeg (.int (nar .boolean x)) → Wp l R n0 K Q h' k n pc' Ls st) : Wp l R n0 K Q h k n pc Ls ((.int x) :: .int j :: .ref a :: st) := by
  obtain ⟨p, e, s, m, args, below, meth, c⟩ := K
  obtain ⟨hx, hby, hZ, hown, hnm, hml, hret, hlk⟩ := ok
  obtain ⟨hd, rfl⟩ := hd
  intro T locs X hT hF
  obtain ⟨T', h', X', e', W', stp⟩ := stZ X hx hZ hT A hj (g := mkF m pc Ls ((.int x) :: .int j :: .ref a :: st)) rfl rfl (hb hby hd)
  obtain ⟨s₂, o, h1, h2⟩ := hr h' W' T' _ X' e' (Fr.snoc X' hF ha)
  exact ⟨s₂, o, stp _ h1, h2⟩
theorem w_callSV (ok : Ok Z K code own nm maxL ret) {y : MethodName} {bytes : ByteArray} {mL i : Nat} {rt : Option FieldType} {rm : Room} {Qc : Value → Heap → Prop} {argsL : List Value}  (w1 : (Cond.methodLink own i y).before a0 Z = true) (w2 : (Cond.static y).before a0 Z = true) (wz : (Cond.initialized y.cls).before a0 Z = true) (wc : (Cond.code y bytes mL rt).before a0 Z = true) (hy : y.cls ≠ "java/lang/invoke/MethodHandle" ∧ y.cls ≠ "java/lang/invoke/VarHandle")
    (hM : ConV l Z n0 y bytes mL rt [] rm (argsL).toArray h Qc) (hd : Fet code pc pc' (.invokestatic i) 3) (hlen : ∀ sig, parseMethodDescriptor y.desc = some sig → argsL.length = sig.parameters.length) (hst : st = argsL.reverse ++ rest) (hsz : Ls.size = maxL) (hf : rm.frames + 1 ≤ R.frames) (hl : (rest.map fun v => v.category).sum + (mL + 11) + rm.locals ≤ R.locals)
    (ek : k + rm.cells = k') (en : n + rm.slots = n') (hc : k' ≤ R.cells) (hs : n' ≤ R.slots) (hr : ∀ w h', Qc w h' → Wp l R n0 K Q h' k' n' pc' Ls (w :: rest)) : Wp l R n0 K Q h k n pc Ls st := by
  obtain ⟨p, e, s, m, args, below, meth, c⟩ := K
  obtain ⟨hx, hby, hZ, hown, hnm, hml, hret, hlk⟩ := ok
  obtain ⟨hd, rfl⟩ := hd
  intro T locs X hT hF
  subst hst ek en
  obtain ⟨v, _, ⟨T', L', k1, n1⟩, -, X', ⟨Lc, hQ, l1, y1, z1⟩, stp⟩ := Jvm.LawKit.callS X hx (y := y) hown (mvT hZ w1) (mvT hZ w2) (mvT hZ wz) (mvT hZ wc) hy (backOf (W := (rest.map fun v => v.category).sum) (Q := fun v h' L => (∃ w, v = some w ∧ Qc w h') ∧ Fr n0 L) (as' := (argsL).toArray) (rm := rm) (bytes := bytes) (maxL := mL) (ret := rt) (h := h) (Z := Z) hM hZ wc wz hf hl) (g := mkF m pc Ls (argsL.reverse ++ rest)) rfl (hsz.trans hml.symm) (argsL := argsL) (rest := rest) hlen rfl (by show 2 * 0 + _ ≤ _; omega) (hb hby hd) (fun _ _ => ⟨rfl, hT, hc, hs⟩)
  dsimp only [Pt.U, Pt.locs, Pt.cells, Pt.slots] at X' l1 y1 z1 stp hQ
  subst l1 y1 z1

  obtain ⟨⟨w, rfl, hQ⟩, hFc⟩ := hQ
  obtain ⟨s₂, o, h1, h2⟩ := hr _ _ hQ T' _ X' rfl (Fr.app hF hFc)
  exact ⟨s₂, o, stp _ h1, h2⟩
theorem w_callSN (ok : Ok Z K code own nm maxL ret) {y : MethodName} {bytes : ByteArray} {mL i : Nat} {rt : Option FieldType} {rm : Room} {Qc : Heap → Prop} {argsL : List Value}  (w1 : (Cond.methodLink own i y).before a0 Z = true) (w2 : (Cond.static y).before a0 Z = true) (wz : (Cond.initialized y.cls).before a0 Z = true) (wc : (Cond.code y bytes mL rt).before a0 Z = true) (hy : y.cls ≠ "java/lang/invoke/MethodHandle" ∧ y.cls ≠ "java/lang/invoke/VarHandle")
    (hM : ConN l Z n0 y bytes mL rt [] rm (argsL).toArray h Qc) (hd : Fet code pc pc' (.invokestatic i) 3) (hlen : ∀ sig, parseMethodDescriptor y.desc = some sig → argsL.length = sig.parameters.length) (hst : st = argsL.reverse ++ rest) (hsz : Ls.size = maxL) (hf : rm.frames + 1 ≤ R.frames) (hl : (rest.map fun v => v.category).sum + (mL + 11) + rm.locals ≤ R.locals)
    (ek : k + rm.cells = k') (en : n + rm.slots = n') (hc : k' ≤ R.cells) (hs : n' ≤ R.slots) (hr : ∀ h', Qc h' → Wp l R n0 K Q h' k' n' pc' Ls rest) : Wp l R n0 K Q h k n pc Ls st := by
  obtain ⟨p, e, s, m, args, below, meth, c⟩ := K
  obtain ⟨hx, hby, hZ, hown, hnm, hml, hret, hlk⟩ := ok
  obtain ⟨hd, rfl⟩ := hd
  intro T locs X hT hF
  subst hst ek en
  obtain ⟨v, _, ⟨T', L', k1, n1⟩, -, X', ⟨Lc, hQ, l1, y1, z1⟩, stp⟩ := Jvm.LawKit.callS X hx (y := y) hown (mvT hZ w1) (mvT hZ w2) (mvT hZ wz) (mvT hZ wc) hy (backOf (W := (rest.map fun v => v.category).sum) (Q := fun v h' L => (v = none ∧ Qc h') ∧ Fr n0 L) (as' := (argsL).toArray) (rm := rm) (bytes := bytes) (maxL := mL) (ret := rt) (h := h) (Z := Z) hM hZ wc wz hf hl) (g := mkF m pc Ls (argsL.reverse ++ rest)) rfl (hsz.trans hml.symm) (argsL := argsL) (rest := rest) hlen rfl (by show 2 * 0 + _ ≤ _; omega) (hb hby hd) (fun _ _ => ⟨rfl, hT, hc, hs⟩)
  dsimp only [Pt.U, Pt.locs, Pt.cells, Pt.slots] at X' l1 y1 z1 stp hQ
  subst l1 y1 z1

  obtain ⟨⟨rfl, hQ⟩, hFc⟩ := hQ
  obtain ⟨s₂, o, h1, h2⟩ := hr _ hQ T' _ X' rfl (Fr.app hF hFc)
  exact ⟨s₂, o, stp _ h1, h2⟩
theorem w_init (ok : Ok Z K code own nm maxL ret) {y : MethodName} {bytes : ByteArray} {mL i : Nat} {rt : Option FieldType} {rm : Room} {Qc : Heap → Prop} {argsL : List Value} {a : Addr} (hy1 : y.name = "<init>") (hrt : rt = none) (w1 : (Cond.methodLink own i y).before a0 Z = true) (w2 : (Cond.instanceMethod y).before a0 Z = true) (wz : (Cond.initialized y.cls).before a0 Z = true) (wc : (Cond.code y bytes mL rt).before a0 Z = true) (hy : y.cls ≠ "java/lang/invoke/MethodHandle" ∧ y.cls ≠ "java/lang/invoke/VarHandle")
    (hM : ConN l Z n0 y bytes mL rt [] rm (.ref a :: argsL).toArray h Qc) (hd : Fet code pc pc' (.invokespecial i) 3) (hlen : ∀ sig, parseMethodDescriptor y.desc = some sig → argsL.length = sig.parameters.length) (hst : st = argsL.reverse ++ .ref a :: rest) (hsz : Ls.size = maxL) (hf : rm.frames + 1 ≤ R.frames) (hl : (rest.map fun v => v.category).sum + (mL + 11) + rm.locals ≤ R.locals)
    (ek : k + rm.cells = k') (en : n + rm.slots = n') (hc : k' ≤ R.cells) (hs : n' ≤ R.slots) (hr : ∀ h', Qc h' → Wp l R n0 K Q h' k' n' pc' Ls rest) : Wp l R n0 K Q h k n pc Ls st := by
  obtain ⟨p, e, s, m, args, below, meth, c⟩ := K
  obtain ⟨hx, hby, hZ, hown, hnm, hml, hret, hlk⟩ := ok
  obtain ⟨hd, rfl⟩ := hd
  intro T locs X hT hF
  subst hst ek en
  subst hrt
  obtain ⟨v, _, ⟨T', L', k1, n1⟩, -, X', ⟨Lc, hQ, l1, y1, z1⟩, stp⟩ := X.specialBack hx (y := y) hy1 hown (mvT hZ w1) (mvT hZ w2) (mvT hZ wc) hy (backOf (W := (rest.map fun v => v.category).sum) (Q := fun v h' L => (v = none ∧ Qc h') ∧ Fr n0 L) (as' := (Value.ref a :: argsL).toArray) (rm := rm) (bytes := bytes) (maxL := mL) (ret := none) (h := h) (Z := Z) hM hZ wc wz hf hl) (g := mkF m pc Ls (argsL.reverse ++ .ref a :: rest)) rfl (hsz.trans hml.symm) (Steps.refl _) (a := a) (argsL := argsL) (rest := rest) hlen rfl (by show 2 * 0 + _ ≤ _; omega) (hb hby hd) (fun _ _ => ⟨rfl, hT, hc, hs⟩)
  dsimp only [Pt.U, Pt.locs, Pt.cells, Pt.slots] at X' l1 y1 z1 stp hQ
  subst l1 y1 z1

  obtain ⟨⟨rfl, hQ⟩, hFc⟩ := hQ
  obtain ⟨s₂, o, h1, h2⟩ := hr _ hQ T' _ X' rfl (Fr.app hF hFc)
  exact ⟨s₂, o, stp.trans h1, h2⟩
theorem w_virtV (ok : Ok Z K code own nm maxL ret) {y : MethodName} {bytes : ByteArray} {mL i : Nat} {rt : Option FieldType} {rm : Room} {Qc : Value → Heap → Prop} {argsL : List Value} {a : Addr} {C : String} (w1 : (Cond.methodLink own i y).before a0 Z = true) (w2 : (Cond.declares y).before a0 Z = true) (w3 : (Cond.selects C y y).before a0 Z = true) (w4 : (Cond.instanceMethod y).before a0 Z = true) (wz : (Cond.initialized y.cls).before a0 Z = true) (wc : (Cond.code y bytes mL rt).before a0 Z = true) (E : Exa Z h a C) (hy : y.cls ≠ "java/lang/invoke/MethodHandle" ∧ y.cls ≠ "java/lang/invoke/VarHandle")
    (hM : ConV l Z n0 y bytes mL rt [] rm (.ref a :: argsL).toArray h Qc) (hd : Fet code pc pc' (.invokevirtual i) 3) (hlen : ∀ sig, parseMethodDescriptor y.desc = some sig → argsL.length = sig.parameters.length) (hst : st = argsL.reverse ++ .ref a :: rest) (hsz : Ls.size = maxL) (hf : rm.frames + 1 ≤ R.frames) (hl : (rest.map fun v => v.category).sum + (mL + 11) + rm.locals ≤ R.locals)
    (ek : k + rm.cells = k') (en : n + rm.slots = n') (hc : k' ≤ R.cells) (hs : n' ≤ R.slots) (hr : ∀ w h', Qc w h' → Wp l R n0 K Q h' k' n' pc' Ls (w :: rest)) : Wp l R n0 K Q h k n pc Ls st := by
  obtain ⟨p, e, s, m, args, below, meth, c⟩ := K
  obtain ⟨hx, hby, hZ, hown, hnm, hml, hret, hlk⟩ := ok
  obtain ⟨hd, rfl⟩ := hd
  intro T locs X hT hF
  subst hst ek en
  obtain ⟨cB, kB, qa, qb, qc⟩ := isOf hZ hT E
  obtain ⟨v, _, ⟨T', L', k1, n1⟩, -, X', ⟨Lc, hQ, l1, y1, z1⟩, stp⟩ := X.virtualBack hx (y := y) (z := y) hown (mvT hZ w1) (mvT hZ w2) (notFace_of_selects (args := #[]) (mvT hZ w3)) (mvT hZ w3) (mvT hZ w4) hy (backOf (W := (rest.map fun v => v.category).sum) (Q := fun v h' L => (∃ w, v = some w ∧ Qc w h') ∧ Fr n0 L) (as' := (Value.ref a :: argsL).toArray) (rm := rm) (bytes := bytes) (maxL := mL) (ret := rt) (h := h) (Z := Z) hM hZ wc wz hf hl) qa qc (g := mkF m pc Ls (argsL.reverse ++ .ref a :: rest)) rfl (hsz.trans hml.symm) (Steps.refl _) (argsL := argsL) (rest := rest) hlen rfl (by show 2 * 0 + _ ≤ _; omega) (hb hby hd) (fun _ _ => ⟨rfl, hT, hc, hs⟩)
  dsimp only [Pt.U, Pt.locs, Pt.cells, Pt.slots] at X' l1 y1 z1 stp hQ
  subst l1 y1 z1

  obtain ⟨⟨w, rfl, hQ⟩, hFc⟩ := hQ
  obtain ⟨s₂, o, h1, h2⟩ := hr _ _ hQ T' _ X' rfl (Fr.app hF hFc)
  exact ⟨s₂, o, stp.trans h1, h2⟩
theorem w_virtN (ok : Ok Z K code own nm maxL ret) {y : MethodName} {bytes : ByteArray} {mL i : Nat} {rt : Option FieldType} {rm : Room} {Qc : Heap → Prop} {argsL : List Value} {a : Addr} {C : String} (w1 : (Cond.methodLink own i y).before a0 Z = true) (w2 : (Cond.declares y).before a0 Z = true) (w3 : (Cond.selects C y y).before a0 Z = true) (w4 : (Cond.instanceMethod y).before a0 Z = true) (wz : (Cond.initialized y.cls).before a0 Z = true) (wc : (Cond.code y bytes mL rt).before a0 Z = true) (E : Exa Z h a C) (hy : y.cls ≠ "java/lang/invoke/MethodHandle" ∧ y.cls ≠ "java/lang/invoke/VarHandle")
    (hM : ConN l Z n0 y bytes mL rt [] rm (.ref a :: argsL).toArray h Qc) (hd : Fet code pc pc' (.invokevirtual i) 3) (hlen : ∀ sig, parseMethodDescriptor y.desc = some sig → argsL.length = sig.parameters.length) (hst : st = argsL.reverse ++ .ref a :: rest) (hsz : Ls.size = maxL) (hf : rm.frames + 1 ≤ R.frames) (hl : (rest.map fun v => v.category).sum + (mL + 11) + rm.locals ≤ R.locals)
    (ek : k + rm.cells = k') (en : n + rm.slots = n') (hc : k' ≤ R.cells) (hs : n' ≤ R.slots) (hr : ∀ h', Qc h' → Wp l R n0 K Q h' k' n' pc' Ls rest) : Wp l R n0 K Q h k n pc Ls st := by
  obtain ⟨p, e, s, m, args, below, meth, c⟩ := K
  obtain ⟨hx, hby, hZ, hown, hnm, hml, hret, hlk⟩ := ok
  obtain ⟨hd, rfl⟩ := hd
  intro T locs X hT hF
  subst hst ek en
  obtain ⟨cB, kB, qa, qb, qc⟩ := isOf hZ hT E
  obtain ⟨v, _, ⟨T', L', k1, n1⟩, -, X', ⟨Lc, hQ, l1, y1, z1⟩, stp⟩ := X.virtualBack hx (y := y) (z := y) hown (mvT hZ w1) (mvT hZ w2) (notFace_of_selects (args := #[]) (mvT hZ w3)) (mvT hZ w3) (mvT hZ w4) hy (backOf (W := (rest.map fun v => v.category).sum) (Q := fun v h' L => (v = none ∧ Qc h') ∧ Fr n0 L) (as' := (Value.ref a :: argsL).toArray) (rm := rm) (bytes := bytes) (maxL := mL) (ret := rt) (h := h) (Z := Z) hM hZ wc wz hf hl) qa qc (g := mkF m pc Ls (argsL.reverse ++ .ref a :: rest)) rfl (hsz.trans hml.symm) (Steps.refl _) (argsL := argsL) (rest := rest) hlen rfl (by show 2 * 0 + _ ≤ _; omega) (hb hby hd) (fun _ _ => ⟨rfl, hT, hc, hs⟩)
  dsimp only [Pt.U, Pt.locs, Pt.cells, Pt.slots] at X' l1 y1 z1 stp hQ
  subst l1 y1 z1

  obtain ⟨⟨rfl, hQ⟩, hFc⟩ := hQ
  obtain ⟨s₂, o, h1, h2⟩ := hr _ hQ T' _ X' rfl (Fr.app hF hFc)
  exact ⟨s₂, o, stp.trans h1, h2⟩
end Rules
/-- an array of this kind with these values -/
def Ary (Z : State) (h : Heap) (a : Addr) (ty : FieldType) (vs : List Value) : Prop := ∃ c : Cell, Arr Z h a c ty ∧ c.slots.toList = vs
section AryFacts
variable {Z : State} {h h' : Heap} {a b : Addr} {ty : FieldType} {vs : List Value} {v : Value} {sl i : Nat} {ws : List Addr}
theorem Ary.lt (A : Ary Z h a ty vs) : a < h.size := by obtain ⟨c, A, -⟩ := A; exact A.lt
theorem Ary.ext (A : Ary Z h a ty vs) (E : Ext h h') : Ary Z h' a ty vs := by obtain ⟨c, A, r⟩ := A; exact ⟨c, A.ext E, r⟩
theorem Ary.other (A : Ary Z h b ty vs) (W : Wr h h' a sl v) (q : b ≠ a) : Ary Z h' b ty vs := by obtain ⟨c, A, r⟩ := A; exact ⟨c, A.other W q, r⟩
theorem Ary.keep (A : Ary Z h a ty vs) (K : Keep h h' ws) (q : a ∉ ws) : Ary Z h' a ty vs := by obtain ⟨c, A, r⟩ := A; exact ⟨c, ⟨K.2.1 a c A.1 q, A.2⟩, r⟩
theorem Ary.same (A : Ary Z h a ty vs) (W : Wr h h' a i v) : Ary Z h' a ty (vs.set i v) := by
  obtain ⟨c, A, r⟩ := A
  refine ⟨_, A.same W, ?_⟩
  rw [← r]
  simp [Cell.setSlot, Array.toList_setIfInBounds]
theorem Ary.cast {vs' : List Value} (A : Ary Z h a ty vs) (e : vs = vs') : Ary Z h a ty vs' := e ▸ A
theorem ary_new {cA : ClassId} {z : Int32} (A : Arr Z h a (newA cA ty z) ty) : Ary Z h a ty (List.replicate z.toNatClampNeg (defaultValue ty)) := ⟨_, A, by simp [newA]⟩
theorem idx_ok {i n : Nat} (hi : i < n) (hn : n < 2 ^ 31) : ¬ (Int32.ofNat i < 0 ∨ n ≤ (Int32.ofNat i).toNatClampNeg) := idx_in hi hn
theorem idx_nat {i : Nat} (hi : i < 2 ^ 31) : (Int32.ofNat i).toNatClampNeg = i := by
  have q : (Int32.ofNat i).toInt = i := Int32.toInt_ofNat_of_lt (by omega)
  simp only [Int32.toNatClampNeg, q]; omega
end AryFacts
section AryRules
variable {l : Launch} {R : Room} {n0 : Nat} {K : Cx} {Q : Option Value → Heap → Prop} {h : Heap} {k n k' n' : Nat} {pc pc' : Nat} {Ls Ls' : Array Slot} {st rest : List Value} {Z : State} {code : ByteArray} {own nm : String} {maxL : Nat} {ret : Option FieldType} {a0 : Array Value}
theorem w_arraylength (ok : Ok Z K code own nm maxL ret) {a : Addr} {ty : FieldType} {vs : List Value} (A : Ary Z h a ty vs) (hd : Fet code pc pc' .arraylength 1) (hr : Wp l R n0 K Q h k n pc' Ls (.int (Int32.ofNat vs.length) :: st)) : Wp l R n0 K Q h k n pc Ls (.ref a :: st) := by
  obtain ⟨p, e, s, m, args, below, meth, c⟩ := K
  obtain ⟨hx, hby, hZ, hown, hnm, hml, hret, hlk⟩ := ok
  obtain ⟨hd, rfl⟩ := hd
  intro T locs X hT hF
  obtain ⟨c, A, rfl⟩ := A
  obtain ⟨s₂, o, h1, h2⟩ := hr T locs X hT hF
  exact ⟨s₂, o, X.arraylength hx (by rw [hT]; exact A.1) (State.isArrayOf_alike hZ.alike A.2.1) (g := mkF m pc Ls (.ref a :: st)) rfl rfl (hb hby hd) _ (by rw [Array.length_toList] at h1; exact h1), h2⟩
theorem w_iaload (ok : Ok Z K code own nm maxL ret) {a : Addr} {i : Nat} {v : Value} {vs : List Value} (A : Ary Z h a .int vs) (hl : vs.length < 2 ^ 31) (hv : vs[i]? = some v) (hd : Fet code pc pc' .iaload 1) (hr : Wp l R n0 K Q h k n pc' Ls (v :: st)) : Wp l R n0 K Q h k n pc Ls (.int (Int32.ofNat i) :: .ref a :: st) := by
  obtain ⟨p, e, s, m, args, below, meth, c⟩ := K
  obtain ⟨hx, hby, hZ, hown, hnm, hml, hret, hlk⟩ := ok
  obtain ⟨hd, rfl⟩ := hd
  intro T locs X hT hF
  obtain ⟨c, A, rfl⟩ := A
  obtain ⟨s₂, o, h1, h2⟩ := hr T locs X hT hF
  have hi : i < c.slots.toList.length := (List.getElem?_eq_some_iff.mp hv).1
  rw [Array.length_toList] at hi hl
  exact ⟨s₂, o, X.iaload hx (j := Int32.ofNat i) (v := v) (by rw [hT]; exact A.1) (State.isArrayOf_alike hZ.alike A.2.1) A.2.2 (idx_ok hi hl) (by rw [idx_nat (Nat.lt_trans hi hl), ← hv, Array.getElem?_toList]) (g := mkF m pc Ls (.int (Int32.ofNat i) :: .ref a :: st)) rfl rfl (hb hby hd) _ h1, h2⟩
theorem w_laload (ok : Ok Z K code own nm maxL ret) {a : Addr} {i : Nat} {v : Value} {vs : List Value} (A : Ary Z h a .long vs) (hl : vs.length < 2 ^ 31) (hv : vs[i]? = some v) (hd : Fet code pc pc' .laload 1) (hr : Wp l R n0 K Q h k n pc' Ls (v :: st)) : Wp l R n0 K Q h k n pc Ls (.int (Int32.ofNat i) :: .ref a :: st) := by
  obtain ⟨p, e, s, m, args, below, meth, c⟩ := K
  obtain ⟨hx, hby, hZ, hown, hnm, hml, hret, hlk⟩ := ok
  obtain ⟨hd, rfl⟩ := hd
  intro T locs X hT hF
  obtain ⟨c, A, rfl⟩ := A
  obtain ⟨s₂, o, h1, h2⟩ := hr T locs X hT hF
  have hi : i < c.slots.toList.length := (List.getElem?_eq_some_iff.mp hv).1
  rw [Array.length_toList] at hi hl
  exact ⟨s₂, o, X.laload hx (j := Int32.ofNat i) (v := v) (by rw [hT]; exact A.1) (State.isArrayOf_alike hZ.alike A.2.1) A.2.2 (idx_ok hi hl) (by rw [idx_nat (Nat.lt_trans hi hl), ← hv, Array.getElem?_toList]) (g := mkF m pc Ls (.int (Int32.ofNat i) :: .ref a :: st)) rfl rfl (hb hby hd) _ h1, h2⟩
theorem w_baloadB (ok : Ok Z K code own nm maxL ret) {a : Addr} {i : Nat} {v : Value} {vs : List Value} (A : Ary Z h a .byte vs) (hl : vs.length < 2 ^ 31) (hv : vs[i]? = some v) (hd : Fet code pc pc' .baload 1) (hr : Wp l R n0 K Q h k n pc' Ls (v :: st)) : Wp l R n0 K Q h k n pc Ls (.int (Int32.ofNat i) :: .ref a :: st) := by
  obtain ⟨p, e, s, m, args, below, meth, c⟩ := K
  obtain ⟨hx, hby, hZ, hown, hnm, hml, hret, hlk⟩ := ok
  obtain ⟨hd, rfl⟩ := hd
  intro T locs X hT hF
  obtain ⟨c, A, rfl⟩ := A
  obtain ⟨s₂, o, h1, h2⟩ := hr T locs X hT hF
  have hi : i < c.slots.toList.length := (List.getElem?_eq_some_iff.mp hv).1
  rw [Array.length_toList] at hi hl
  exact ⟨s₂, o, X.baloadBytes hx (j := Int32.ofNat i) (v := v) (by rw [hT]; exact A.1) (State.isArrayOf_alike hZ.alike A.2.1) A.2.2 (idx_ok hi hl) (by rw [idx_nat (Nat.lt_trans hi hl), ← hv, Array.getElem?_toList]) (g := mkF m pc Ls (.int (Int32.ofNat i) :: .ref a :: st)) rfl rfl (hb hby hd) _ h1, h2⟩
theorem w_baloadZ (ok : Ok Z K code own nm maxL ret) {a : Addr} {i : Nat} {v : Value} {vs : List Value} (A : Ary Z h a .boolean vs) (hl : vs.length < 2 ^ 31) (hv : vs[i]? = some v) (hd : Fet code pc pc' .baload 1) (hr : Wp l R n0 K Q h k n pc' Ls (v :: st)) : Wp l R n0 K Q h k n pc Ls (.int (Int32.ofNat i) :: .ref a :: st) := by
  obtain ⟨p, e, s, m, args, below, meth, c⟩ := K
  obtain ⟨hx, hby, hZ, hown, hnm, hml, hret, hlk⟩ := ok
  obtain ⟨hd, rfl⟩ := hd
  intro T locs X hT hF
  obtain ⟨c, A, rfl⟩ := A
  obtain ⟨s₂, o, h1, h2⟩ := hr T locs X hT hF
  have hi : i < c.slots.toList.length := (List.getElem?_eq_some_iff.mp hv).1
  rw [Array.length_toList] at hi hl
  exact ⟨s₂, o, X.baloadBooleans hx (j := Int32.ofNat i) (v := v) (by rw [hT]; exact A.1) (State.isArrayOf_alike hZ.alike A.2.1) A.2.2 (idx_ok hi hl) (by rw [idx_nat (Nat.lt_trans hi hl), ← hv, Array.getElem?_toList]) (g := mkF m pc Ls (.int (Int32.ofNat i) :: .ref a :: st)) rfl rfl (hb hby hd) _ h1, h2⟩
theorem w_iastore' (ok : Ok Z K code own nm maxL ret) {a : Addr} {i : Nat} {x : Int32} {vs : List Value} (A : Ary Z h a .int vs) (hl : vs.length < 2 ^ 31) (hi : i < vs.length) (ha : n0 ≤ a) (hd : Fet code pc pc' .iastore 1)
    (hr : ∀ h', Wr h h' a i (.int x) → Ary Z h' a .int (vs.set i (.int x)) → Wp l R n0 K Q h' k n pc' Ls st) : Wp l R n0 K Q h k n pc Ls ((.int x) :: .int (Int32.ofNat i) :: .ref a :: st) := by
  have A0 := A
  obtain ⟨c, A, rfl⟩ := A
  rw [Array.length_toList] at hi hl
  refine w_iastore ok A (idx_ok hi hl) ha hd (fun h' W => ?_)
  rw [idx_nat (Nat.lt_trans hi hl)] at W
  exact hr h' W (A0.same W)
theorem w_lastore' (ok : Ok Z K code own nm maxL ret) {a : Addr} {i : Nat} {x : Int64} {vs : List Value} (A : Ary Z h a .long vs) (hl : vs.length < 2 ^ 31) (hi : i < vs.length) (ha : n0 ≤ a) (hd : Fet code pc pc' .lastore 1)
    (hr : ∀ h', Wr h h' a i (.long x) → Ary Z h' a .long (vs.set i (.long x)) → Wp l R n0 K Q h' k n pc' Ls st) : Wp l R n0 K Q h k n pc Ls ((.long x) :: .int (Int32.ofNat i) :: .ref a :: st) := by
  have A0 := A
  obtain ⟨c, A, rfl⟩ := A
  rw [Array.length_toList] at hi hl
  refine w_lastore ok A (idx_ok hi hl) ha hd (fun h' W => ?_)
  rw [idx_nat (Nat.lt_trans hi hl)] at W
  exact hr h' W (A0.same W)
theorem w_bastoreB' (ok : Ok Z K code own nm maxL ret) {a : Addr} {i : Nat} {x : Int32} {vs : List Value} (A : Ary Z h a .byte vs) (hl : vs.length < 2 ^ 31) (hi : i < vs.length) (ha : n0 ≤ a) (hd : Fet code pc pc' .bastore 1)
    (hr : ∀ h', Wr h h' a i (.int (nar .byte x)) → Ary Z h' a .byte (vs.set i (.int (nar .byte x))) → Wp l R n0 K Q h' k n pc' Ls st) : Wp l R n0 K Q h k n pc Ls ((.int x) :: .int (Int32.ofNat i) :: .ref a :: st) := by
  have A0 := A
  obtain ⟨c, A, rfl⟩ := A
  rw [Array.length_toList] at hi hl
  refine w_bastoreB ok A (idx_ok hi hl) ha hd (fun h' W => ?_)
  rw [idx_nat (Nat.lt_trans hi hl)] at W
  exact hr h' W (A0.same W)
theorem w_bastoreZ' (ok : Ok Z K code own nm maxL ret) {a : Addr} {i : Nat} {x : Int32} {vs : List Value} (A : Ary Z h a .boolean vs) (hl : vs.length < 2 ^ 31) (hi : i < vs.length) (ha : n0 ≤ a) (hd : Fet code pc pc' .bastore 1)
    (hr : ∀ h', Wr h h' a i (.int (nar .boolean x)) → Ary Z h' a .boolean (vs.set i (.int (nar .boolean x))) → Wp l R n0 K Q h' k n pc' Ls st) : Wp l R n0 K Q h k n pc Ls ((.int x) :: .int (Int32.ofNat i) :: .ref a :: st) := by
  have A0 := A
  obtain ⟨c, A, rfl⟩ := A
  rw [Array.length_toList] at hi hl
  refine w_bastoreZ ok A (idx_ok hi hl) ha hd (fun h' W => ?_)
  rw [idx_nat (Nat.lt_trans hi hl)] at W
  exact hr h' W (A0.same W)
end AryRules
end Jvm.WpK
namespace Jvm.Pilot.@@N@@
open Jvm Jvm.ClassFile Sem Op Lib Jvm.Free Jvm.Stand Jvm.LawKit Jvm.RoadKit Jvm.WpK Bundle Jvm.Pilot.@@N@@.Jvm.D
def own_min (x y : Int32) : Int32 := if y < x then y else x
def own_miss (z m : Int32) : Int32 := if z = 0 then own_min 63 (2 * m + 1) else 0
def own_rest (k : Int32) : Int32 := if k = 0 then 0 else k - 1
def own_spin (k : Int32) : Int32 := if k = 0 then 1 else 0
theorem own_and3 (x : Int32) : x &&& 3 = 0 ∨ x &&& 3 = 1 ∨ x &&& 3 = 2 ∨ x &&& 3 = 3 := by
  have h : ∀ b : BitVec 32, b &&& 3#32 = 0#32 ∨ b &&& 3#32 = 1#32 ∨ b &&& 3#32 = 2#32 ∨ b &&& 3#32 = 3#32 := by
    intro b
    have e : (b &&& 3#32).toNat = b.toNat % 4 := by
      rw [BitVec.toNat_and]; exact Nat.and_two_pow_sub_one_eq_mod b.toNat 2
    have := Nat.mod_lt b.toNat (show 4 > 0 by omega)
    simp only [← BitVec.toNat_inj, e]
    simp; omega
  have g := h x.toBitVec
  simp only [← Int32.toBitVec_inj]
  exact g
theorem dI_0 : Fet prog_15_method_1_code 0 1 (.aload_n 0) 1 := ⟨by decide +kernel, rfl⟩
theorem dI_1 : Fet prog_15_method_1_code 1 4 (.invokespecial 1) 3 := ⟨by decide +kernel, rfl⟩
theorem dI_4 : Fet prog_15_method_1_code 4 5 (.return_) 1 := ⟨by decide +kernel, rfl⟩
theorem pn_com_example_trim_pool_trimpool_SpinBackoff : plainName "com/example/trim_pool/trimpool/SpinBackoff" = true := by first | (simp [plainName, overriddenIn]; done) | decide +kernel
set_option maxRecDepth 65536 in
set_option maxHeartbeats 4000000 in
theorem rmI (l : Launch) (Z : State) (a0 : Array Value) (hw : ∀ d ∈ tables_1, d.before a0 Z = true) (n0 : Nat) (a : Addr) (h : Heap) :
    ConN l Z n0 (⟨"com/example/trim_pool/trimpool/SpinBackoff", "<init>", "()V"⟩ : MethodName) prog_15_method_1_code 1 none [] ({ frames := 1, cells := 0, slots := 0, locals := 12 } : Room) #[(.ref a)] h (fun h' => h = h') := by
  refine con_of_wp (Ls := #[.val (.ref a)]) (plainFor_of_name pn_com_example_trim_pool_trimpool_SpinBackoff) (fun m => by first | rfl | (simp [entryFrame, mkF, argsToLocals, Value.category]; done)) ?_
  intro K ok
  replace ok : Ok Z K prog_15_method_1_code "com/example/trim_pool/trimpool/SpinBackoff" "<init>" 1 none := ok
  show Wp l ({ frames := 1, cells := 0, slots := 0, locals := 12 } : Room) n0 K (fun v h' => v = none ∧ h = h') h 0 0 0 #[.val (.ref a)] []
  refine w_aloadN ok dI_0 rfl rfl ?_
  refine w_initO ok (hw _ (List.mem_of_getElem? (i := 6) rfl)) (hw _ (List.mem_of_getElem? (i := 7) rfl)) (hw _ (List.mem_of_getElem? (i := 8) rfl)) dI_1 rfl (Nat.le_of_ble_eq_true rfl) (Nat.le_of_ble_eq_true rfl) ?_
  refine w_return ok dI_4 (Nat.le_of_ble_eq_true rfl) (Nat.le_of_ble_eq_true rfl) ?_
  exact ⟨rfl, rfl⟩
theorem dM_0 : Fet jdk_29_method_69_code 0 1 (.iload_n 0) 1 := ⟨by decide +kernel, rfl⟩
theorem dM_1 : Fet jdk_29_method_69_code 1 2 (.iload_n 1) 1 := ⟨by decide +kernel, rfl⟩
theorem dM_2 : Brn jdk_29_method_69_code 2 5 9 (.if_icmp .gt 7) 7 := ⟨by decide +kernel, rfl, by decide, by decide⟩
theorem dM_9 : Fet jdk_29_method_69_code 9 10 (.iload_n 1) 1 := ⟨by decide +kernel, rfl⟩
theorem dM_10 : Fet jdk_29_method_69_code 10 11 (.ireturn) 1 := ⟨by decide +kernel, rfl⟩
theorem dM_5 : Fet jdk_29_method_69_code 5 6 (.iload_n 0) 1 := ⟨by decide +kernel, rfl⟩
theorem dM_6 : Brn jdk_29_method_69_code 6 9 10 (.goto 4) 4 := ⟨by decide +kernel, rfl, by decide, by decide⟩
set_option maxRecDepth 65536 in
set_option maxHeartbeats 4000000 in
theorem rmM (l : Launch) (Z : State) (a0 : Array Value) (hw : ∀ d ∈ tables_1, d.before a0 Z = true) (n0 : Nat) (x y : Int32) (h : Heap) :
    ConV l Z n0 (⟨"java/lang/Math", "min", "(II)I"⟩ : MethodName) jdk_29_method_69_code 2 (some .int) [] ({ frames := 0, cells := 0, slots := 0, locals := 0 } : Room) #[(.int x), (.int y)] h (fun w h' => w = .int (own_min x y) ∧ h = h') := by
  refine con_of_wp (Ls := #[.val (.int x), .val (.int y)]) (by decide +kernel) (fun m => by first | rfl | (simp [entryFrame, mkF, argsToLocals, Value.category]; done)) ?_
  intro K ok
  replace ok : Ok Z K jdk_29_method_69_code "java/lang/Math" "min" 2 (some .int) := ok
  show Wp l ({ frames := 0, cells := 0, slots := 0, locals := 0 } : Room) n0 K (fun v h' => ∃ w, v = some w ∧ w = .int (own_min x y) ∧ h = h') h 0 0 0 #[.val (.int x), .val (.int y)] []
  refine w_iloadN ok dM_0 rfl ?_
  refine w_iloadN ok dM_1 rfl ?_
  refine w_ic_gt ok dM_2 (fun q => ?_) (fun q => ?_)
  · refine w_iloadN ok dM_9 rfl ?_
    refine w_ireturnI ok dM_10 (Nat.le_of_ble_eq_true rfl) (Nat.le_of_ble_eq_true rfl) ?_
    exact ⟨_, rfl, by rw [show own_min x y = y by simp [own_min, q]], rfl⟩
  · refine w_iloadN ok dM_5 rfl ?_
    refine w_goto ok dM_6 ?_
    refine w_ireturnI ok dM_10 (Nat.le_of_ble_eq_true rfl) (Nat.le_of_ble_eq_true rfl) ?_
    exact ⟨_, rfl, by rw [show own_min x y = x by simp [own_min, q]], rfl⟩
theorem dT_0 : Fet prog_15_method_2_code 0 1 (.aload_n 0) 1 := ⟨by decide +kernel, rfl⟩
theorem dT_1 : Fet prog_15_method_2_code 1 4 (.getfield 7) 3 := ⟨by decide +kernel, rfl⟩
theorem dT_4 : Brn prog_15_method_2_code 4 7 11 (.ifCond .ne 7) 7 := ⟨by decide +kernel, rfl, by decide, by decide⟩
theorem dT_11 : Fet prog_15_method_2_code 11 12 (.iconst 0) 1 := ⟨by decide +kernel, rfl⟩
theorem dT_12 : Fet prog_15_method_2_code 12 13 (.istore_n 1) 1 := ⟨by decide +kernel, rfl⟩
theorem dT_13 : Fet prog_15_method_2_code 13 14 (.iload_n 1) 1 := ⟨by decide +kernel, rfl⟩
theorem dT_14 : Brn prog_15_method_2_code 14 17 27 (.ifCond .ne 13) 13 := ⟨by decide +kernel, rfl, by decide, by decide⟩
theorem dT_17 : Fet prog_15_method_2_code 17 18 (.aload_n 0) 1 := ⟨by decide +kernel, rfl⟩
theorem dT_18 : Fet prog_15_method_2_code 18 19 (.dup) 1 := ⟨by decide +kernel, rfl⟩
theorem dT_19 : Fet prog_15_method_2_code 19 22 (.getfield 7) 3 := ⟨by decide +kernel, rfl⟩
theorem dT_22 : Fet prog_15_method_2_code 22 23 (.iconst 1) 1 := ⟨by decide +kernel, rfl⟩
theorem dT_23 : Fet prog_15_method_2_code 23 24 (.isub) 1 := ⟨by decide +kernel, rfl⟩
theorem dT_24 : Fet prog_15_method_2_code 24 27 (.putfield 7) 3 := ⟨by decide +kernel, rfl⟩
theorem dT_27 : Fet prog_15_method_2_code 27 28 (.iload_n 1) 1 := ⟨by decide +kernel, rfl⟩
theorem dT_28 : Fet prog_15_method_2_code 28 29 (.ireturn) 1 := ⟨by decide +kernel, rfl⟩
theorem dT_7 : Fet prog_15_method_2_code 7 8 (.iconst 1) 1 := ⟨by decide +kernel, rfl⟩
theorem dT_8 : Brn prog_15_method_2_code 8 11 12 (.goto 4) 4 := ⟨by decide +kernel, rfl, by decide, by decide⟩
set_option maxRecDepth 65536 in
set_option maxHeartbeats 4000000 in
theorem rmT (l : Launch) (Z : State) (a0 : Array Value) (hw : ∀ d ∈ tables_1, d.before a0 Z = true) (n0 : Nat) (a : Addr) (k m r k1 : Int32) (h : Heap) (Z0 : n0 ≤ h.size) (gn_a : n0 ≤ a) (E_a : Exa Z h a "com/example/trim_pool/trimpool/SpinBackoff") (F_l : Fld Z h a "com/example/trim_pool/trimpool/SpinBackoff" "skipsLeft" "I" (.int k)) (F_m : Fld Z h a "com/example/trim_pool/trimpool/SpinBackoff" "skipsAfterMiss" "I" (.int m)) (e1 : own_spin k = r) (e2 : own_rest k = k1) :
    ConV l Z n0 (⟨"com/example/trim_pool/trimpool/SpinBackoff", "spinsThisTime", "()Z"⟩ : MethodName) prog_15_method_2_code 2 (some .boolean) [] ({ frames := 0, cells := 0, slots := 0, locals := 0 } : Room) #[(.ref a)] h (fun w h' => w = .int r ∧ Keep h h' [a] ∧ Exa Z h' a "com/example/trim_pool/trimpool/SpinBackoff" ∧ Fld Z h' a "com/example/trim_pool/trimpool/SpinBackoff" "skipsLeft" "I" (.int k1) ∧ Fld Z h' a "com/example/trim_pool/trimpool/SpinBackoff" "skipsAfterMiss" "I" (.int m)) := by
  refine con_of_wp (Ls := #[.val (.ref a), .unset]) (plainFor_of_name pn_com_example_trim_pool_trimpool_SpinBackoff) (fun m => by first | rfl | (simp [entryFrame, mkF, argsToLocals, Value.category]; done)) ?_
  intro K ok
  replace ok : Ok Z K prog_15_method_2_code "com/example/trim_pool/trimpool/SpinBackoff" "spinsThisTime" 2 (some .boolean) := ok
  show Wp l ({ frames := 0, cells := 0, slots := 0, locals := 0 } : Room) n0 K (fun v h' => ∃ w, v = some w ∧ w = .int r ∧ Keep h h' [a] ∧ Exa Z h' a "com/example/trim_pool/trimpool/SpinBackoff" ∧ Fld Z h' a "com/example/trim_pool/trimpool/SpinBackoff" "skipsLeft" "I" (.int k1) ∧ Fld Z h' a "com/example/trim_pool/trimpool/SpinBackoff" "skipsAfterMiss" "I" (.int m)) h 0 0 0 #[.val (.ref a), .unset] []
  have Kp : Keep h h [a] := Keep.refl _ _
  refine w_aloadN ok dT_0 rfl rfl ?_
  refine w_getfield ok (host := "") (Or.inl (hw _ (List.mem_of_getElem? (i := 14) rfl))) Via.refl F_l dT_1 ?_
  refine w_if_ne ok dT_4 (fun q => ?_) (fun q => ?_)
  · refine w_iconst ok (z := 0) dT_11 rfl ?_
    refine w_istoreN ok (Ls' := #[.val (.ref a), .val (.int (0 : Int32))]) dT_12 rfl ?_
    refine w_iloadN ok dT_13 rfl ?_
    refine w_if_ne ok dT_14 (fun q => absurd (by decide) q) (fun _ => ?_)
    refine w_aloadN ok dT_17 rfl rfl ?_
    refine w_dup ok dT_18 rfl ?_
    refine w_getfield ok (host := "") (Or.inl (hw _ (List.mem_of_getElem? (i := 14) rfl))) Via.refl F_l dT_19 ?_
    refine w_iconst ok (z := 1) dT_22 rfl ?_
    refine w_isub ok dT_23 ?_
    refine w_putfield ok (host := "") (Or.inl (hw _ (List.mem_of_getElem? (i := 14) rfl))) Via.refl F_l E_a (Or.inl (hw _ (List.mem_of_getElem? (i := 15) rfl))) (hw _ (List.mem_of_getElem? (i := 1) rfl)) (ty := .int) (by decide) rfl rfl gn_a dT_24 (fun h1 W1 => ?_)
    have E_a := E_a.wr W1
    have F_l := F_l.same W1
    have F_m := F_m.other W1 (Or.inr (slot_ne (Or.inl (hw _ (List.mem_of_getElem? (i := 22) rfl))) (Or.inl (hw _ (List.mem_of_getElem? (i := 15) rfl))) (by decide) (t := .int) (t' := .int) (by decide) (by decide)))
    have Z0 := Nat.le_trans Z0 (Keep.of_wr W1).1
    have Kp := Kp.wr W1 (Or.inl (List.mem_of_getElem? (i := 0) rfl))
    refine w_iloadN ok dT_27 rfl ?_
    refine w_ireturnN ok (by simp) dT_28 (Nat.le_of_ble_eq_true rfl) (Nat.le_of_ble_eq_true rfl) ?_
    rw [← e1, ← e2]
    exact ⟨_, rfl, by rw [show own_spin k = 0 by simp [own_spin, q]]; rfl, Kp, E_a, by rw [show own_rest k = k - 1 by simp [own_rest, q]]; exact F_l, F_m⟩
  · refine w_iconst ok (z := 1) dT_7 rfl ?_
    refine w_goto ok dT_8 ?_
    refine w_istoreN ok (Ls' := #[.val (.ref a), .val (.int (1 : Int32))]) dT_12 rfl ?_
    refine w_iloadN ok dT_13 rfl ?_
    refine w_if_ne ok dT_14 (fun _ => ?_) (fun q => absurd q (by decide))
    refine w_iloadN ok dT_27 rfl ?_
    refine w_ireturnN ok (by simp) dT_28 (Nat.le_of_ble_eq_true rfl) (Nat.le_of_ble_eq_true rfl) ?_
    rw [← e1, ← e2]
    exact ⟨_, rfl, by rw [show own_spin k = 1 by simp [own_spin, q]]; rfl, Kp, E_a, by rw [show own_rest k = 0 by simp [own_rest, q]]; exact q ▸ F_l, F_m⟩
theorem dS_22 : Fet prog_15_method_3_code 22 25 (.putfield 13) 3 := ⟨by decide +kernel, rfl⟩
theorem dS_25 : Fet prog_15_method_3_code 25 26 (.aload_n 0) 1 := ⟨by decide +kernel, rfl⟩
theorem dS_26 : Fet prog_15_method_3_code 26 27 (.aload_n 0) 1 := ⟨by decide +kernel, rfl⟩
theorem dS_27 : Fet prog_15_method_3_code 27 30 (.getfield 13) 3 := ⟨by decide +kernel, rfl⟩
theorem dS_30 : Fet prog_15_method_3_code 30 33 (.putfield 7) 3 := ⟨by decide +kernel, rfl⟩
theorem dS_33 : Fet prog_15_method_3_code 33 34 (.return_) 1 := ⟨by decide +kernel, rfl⟩
theorem dS_0 : Fet prog_15_method_3_code 0 1 (.aload_n 0) 1 := ⟨by decide +kernel, rfl⟩
theorem dS_1 : Fet prog_15_method_3_code 1 2 (.iload_n 1) 1 := ⟨by decide +kernel, rfl⟩
theorem dS_2 : Brn prog_15_method_3_code 2 5 9 (.ifCond .eq 7) 7 := ⟨by decide +kernel, rfl, by decide, by decide⟩
theorem dS_5 : Fet prog_15_method_3_code 5 6 (.iconst 0) 1 := ⟨by decide +kernel, rfl⟩
theorem dS_6 : Brn prog_15_method_3_code 6 9 22 (.goto 16) 16 := ⟨by decide +kernel, rfl, by decide, by decide⟩
theorem dS_9 : Fet prog_15_method_3_code 9 11 (.bipush 63) 2 := ⟨by decide +kernel, rfl⟩
theorem dS_11 : Fet prog_15_method_3_code 11 12 (.iconst 2) 1 := ⟨by decide +kernel, rfl⟩
theorem dS_12 : Fet prog_15_method_3_code 12 13 (.aload_n 0) 1 := ⟨by decide +kernel, rfl⟩
theorem dS_13 : Fet prog_15_method_3_code 13 16 (.getfield 13) 3 := ⟨by decide +kernel, rfl⟩
theorem dS_16 : Fet prog_15_method_3_code 16 17 (.imul) 1 := ⟨by decide +kernel, rfl⟩
theorem dS_17 : Fet prog_15_method_3_code 17 18 (.iconst 1) 1 := ⟨by decide +kernel, rfl⟩
theorem dS_18 : Fet prog_15_method_3_code 18 19 (.iadd) 1 := ⟨by decide +kernel, rfl⟩
theorem dS_19 : Fet prog_15_method_3_code 19 22 (.invokestatic 16) 3 := ⟨by decide +kernel, rfl⟩
theorem pd__II_I : parseMethodDescriptor "(II)I" = some ⟨[.int, .int], some .int⟩ := by decide +kernel
set_option maxRecDepth 65536 in
set_option maxHeartbeats 4000000 in
theorem rmS (l : Launch) (Z : State) (a0 : Array Value) (hw : ∀ d ∈ tables_1, d.before a0 Z = true) (n0 : Nat) (a : Addr) (z k m m1 : Int32) (h : Heap) (Z0 : n0 ≤ h.size) (gn_a : n0 ≤ a) (E_a : Exa Z h a "com/example/trim_pool/trimpool/SpinBackoff") (F_l : Fld Z h a "com/example/trim_pool/trimpool/SpinBackoff" "skipsLeft" "I" (.int k)) (F_m : Fld Z h a "com/example/trim_pool/trimpool/SpinBackoff" "skipsAfterMiss" "I" (.int m)) (e : own_miss z m = m1) :
    ConN l Z n0 (⟨"com/example/trim_pool/trimpool/SpinBackoff", "spun", "(Z)V"⟩ : MethodName) prog_15_method_3_code 2 none [] ({ frames := 1, cells := 0, slots := 0, locals := 14 } : Room) #[(.ref a), (.int z)] h (fun h' => Keep h h' [a] ∧ Exa Z h' a "com/example/trim_pool/trimpool/SpinBackoff" ∧ Fld Z h' a "com/example/trim_pool/trimpool/SpinBackoff" "skipsLeft" "I" (.int m1) ∧ Fld Z h' a "com/example/trim_pool/trimpool/SpinBackoff" "skipsAfterMiss" "I" (.int m1)) := by
  refine con_of_wp (Ls := #[.val (.ref a), .val (.int z)]) (plainFor_of_name pn_com_example_trim_pool_trimpool_SpinBackoff) (fun m => by first | rfl | (simp [entryFrame, mkF, argsToLocals, Value.category]; done)) ?_
  intro K ok
  replace ok : Ok Z K prog_15_method_3_code "com/example/trim_pool/trimpool/SpinBackoff" "spun" 2 none := ok
  show Wp l ({ frames := 1, cells := 0, slots := 0, locals := 14 } : Room) n0 K (fun v h' => v = none ∧ Keep h h' [a] ∧ Exa Z h' a "com/example/trim_pool/trimpool/SpinBackoff" ∧ Fld Z h' a "com/example/trim_pool/trimpool/SpinBackoff" "skipsLeft" "I" (.int m1) ∧ Fld Z h' a "com/example/trim_pool/trimpool/SpinBackoff" "skipsAfterMiss" "I" (.int m1)) h 0 0 0 #[.val (.ref a), .val (.int z)] []
  have Kp : Keep h h [a] := Keep.refl _ _
  have J22 : ∀ (x : Int32) (hx : x = m1), Wp l ({ frames := 1, cells := 0, slots := 0, locals := 14 } : Room) n0 K (fun v h' => v = none ∧ Keep h h' [a] ∧ Exa Z h' a "com/example/trim_pool/trimpool/SpinBackoff" ∧ Fld Z h' a "com/example/trim_pool/trimpool/SpinBackoff" "skipsLeft" "I" (.int m1) ∧ Fld Z h' a "com/example/trim_pool/trimpool/SpinBackoff" "skipsAfterMiss" "I" (.int m1)) h 0 0 22 #[.val (.ref a), .val (.int z)] [(.int x), (.ref a)] := by
    intro x hx
    subst hx
    refine w_putfield ok (host := "") (Or.inl (hw _ (List.mem_of_getElem? (i := 21) rfl))) Via.refl F_m E_a (Or.inl (hw _ (List.mem_of_getElem? (i := 22) rfl))) (hw _ (List.mem_of_getElem? (i := 1) rfl)) (ty := .int) (by decide) rfl rfl gn_a dS_22 (fun h1 W1 => ?_)
    have E_a := E_a.wr W1
    have F_l := F_l.other W1 (Or.inr (slot_ne (Or.inl (hw _ (List.mem_of_getElem? (i := 15) rfl))) (Or.inl (hw _ (List.mem_of_getElem? (i := 22) rfl))) (by decide) (t := .int) (t' := .int) (by decide) (by decide)))
    have F_m := F_m.same W1
    have Z0 := Nat.le_trans Z0 (Keep.of_wr W1).1
    have Kp := Kp.wr W1 (Or.inl (List.mem_of_getElem? (i := 0) rfl))
    refine w_aloadN ok dS_25 rfl rfl ?_
    refine w_aloadN ok dS_26 rfl rfl ?_
    refine w_getfield ok (host := "") (Or.inl (hw _ (List.mem_of_getElem? (i := 21) rfl))) Via.refl F_m dS_27 ?_
    refine w_putfield ok (host := "") (Or.inl (hw _ (List.mem_of_getElem? (i := 14) rfl))) Via.refl F_l E_a (Or.inl (hw _ (List.mem_of_getElem? (i := 15) rfl))) (hw _ (List.mem_of_getElem? (i := 1) rfl)) (ty := .int) (by decide) rfl rfl gn_a dS_30 (fun h2 W2 => ?_)
    have E_a := E_a.wr W2
    have F_l := F_l.same W2
    have F_m := F_m.other W2 (Or.inr (slot_ne (Or.inl (hw _ (List.mem_of_getElem? (i := 22) rfl))) (Or.inl (hw _ (List.mem_of_getElem? (i := 15) rfl))) (by decide) (t := .int) (t' := .int) (by decide) (by decide)))
    have Z0 := Nat.le_trans Z0 (Keep.of_wr W2).1
    have Kp := Kp.wr W2 (Or.inl (List.mem_of_getElem? (i := 0) rfl))
    refine w_return ok dS_33 (Nat.le_of_ble_eq_true rfl) (Nat.le_of_ble_eq_true rfl) ?_
    exact ⟨rfl, Kp, E_a, F_l, F_m⟩
  refine w_aloadN ok dS_0 rfl rfl ?_
  refine w_iloadN ok dS_1 rfl ?_
  refine w_if_eq ok dS_2 (fun q => ?_) (fun q => ?_)
  · refine w_bipush ok (z := 63) dS_9 rfl ?_
    refine w_iconst ok (z := 2) dS_11 rfl ?_
    refine w_aloadN ok dS_12 rfl rfl ?_
    refine w_getfield ok (host := "") (Or.inl (hw _ (List.mem_of_getElem? (i := 21) rfl))) Via.refl F_m dS_13 ?_
    refine w_imul ok dS_16 ?_
    refine w_iconst ok (z := 1) dS_17 rfl ?_
    refine w_iadd ok dS_18 ?_
    refine w_callSV ok (argsL := [(.int (63 : Int32)), (.int (((2 : Int32) * m) + (1 : Int32)))]) (rest := [(.ref a)]) (hw _ (List.mem_of_getElem? (i := 23) rfl)) (hw _ (List.mem_of_getElem? (i := 24) rfl)) (hw _ (List.mem_of_getElem? (i := 25) rfl)) (hw _ (List.mem_of_getElem? (i := 26) rfl)) (by decide) (rmM l Z a0 hw n0 _ _ h) dS_19 (lenOf pd__II_I rfl) rfl rfl (Nat.le_of_ble_eq_true rfl) (Nat.le_of_ble_eq_true rfl) (k' := 0) (n' := 0) rfl rfl (Nat.le_of_ble_eq_true rfl) (Nat.le_of_ble_eq_true rfl) ?_
    rintro _ _ ⟨rfl, rfl⟩
    exact J22 _ (by rw [← e]; simp [own_miss, q])
  · refine w_iconst ok (z := 0) dS_5 rfl ?_
    refine w_goto ok dS_6 ?_
    exact J22 _ (by rw [← e]; simp [own_miss, q])
theorem d0_56 : Fet code 56 59 (.new 7) 3 := ⟨by decide +kernel, rfl⟩
theorem d0_59 : Fet code 59 60 (.dup) 1 := ⟨by decide +kernel, rfl⟩
theorem d0_60 : Fet code 60 63 (.invokespecial 9) 3 := ⟨by decide +kernel, rfl⟩
theorem pd___V : parseMethodDescriptor "()V" = some ⟨[], none⟩ := by decide +kernel
theorem d0_63 : Fet code 63 65 (.astore 7) 2 := ⟨by decide +kernel, rfl⟩
theorem d0_65 : Fet code 65 66 (.iconst 1) 1 := ⟨by decide +kernel, rfl⟩
theorem d0_66 : Fet code 66 68 (.istore 8) 2 := ⟨by decide +kernel, rfl⟩
theorem d0_219 : Fet code 219 220 (.iconst 1) 1 := ⟨by decide +kernel, rfl⟩
theorem d0_220 : Fet code 220 222 (.iload 9) 2 := ⟨by decide +kernel, rfl⟩
theorem d0_222 : Fet code 222 223 (.ishl) 1 := ⟨by decide +kernel, rfl⟩
theorem d0_223 : Fet code 223 224 (.iconst 1) 1 := ⟨by decide +kernel, rfl⟩
theorem d0_224 : Fet code 224 225 (.isub) 1 := ⟨by decide +kernel, rfl⟩
theorem d0_225 : Fet code 225 227 (.istore 10) 2 := ⟨by decide +kernel, rfl⟩
theorem d0_227 : Fet code 227 229 (.aload 7) 2 := ⟨by decide +kernel, rfl⟩
theorem d0_229 : Fet code 229 232 (.invokevirtual 14) 3 := ⟨by decide +kernel, rfl⟩
theorem pd___Z : parseMethodDescriptor "()Z" = some ⟨[], some .boolean⟩ := by decide +kernel
theorem d0_232 : Fet code 232 234 (.istore 11) 2 := ⟨by decide +kernel, rfl⟩
theorem d0_234 : Fet code 234 236 (.aload 7) 2 := ⟨by decide +kernel, rfl⟩
theorem d0_236 : Fet code 236 239 (.invokevirtual 14) 3 := ⟨by decide +kernel, rfl⟩
theorem d0_239 : Fet code 239 241 (.istore 12) 2 := ⟨by decide +kernel, rfl⟩
theorem d0_241 : Fet code 241 243 (.aload 7) 2 := ⟨by decide +kernel, rfl⟩
theorem d0_243 : Fet code 243 246 (.invokevirtual 14) 3 := ⟨by decide +kernel, rfl⟩
theorem d0_246 : Fet code 246 248 (.istore 13) 2 := ⟨by decide +kernel, rfl⟩
theorem d0_248 : Fet code 248 250 (.aload 7) 2 := ⟨by decide +kernel, rfl⟩
theorem d0_250 : Fet code 250 253 (.invokevirtual 14) 3 := ⟨by decide +kernel, rfl⟩
theorem d0_253 : Fet code 253 255 (.istore 14) 2 := ⟨by decide +kernel, rfl⟩
theorem d0_255 : Fet code 255 257 (.aload 7) 2 := ⟨by decide +kernel, rfl⟩
theorem d0_257 : Fet code 257 260 (.invokevirtual 14) 3 := ⟨by decide +kernel, rfl⟩
theorem d0_260 : Fet code 260 262 (.istore 15) 2 := ⟨by decide +kernel, rfl⟩
theorem d0_262 : Fet code 262 264 (.iload 8) 2 := ⟨by decide +kernel, rfl⟩
theorem d0_264 : Brn code 264 267 351 (.ifCond .eq 87) 87 := ⟨by decide +kernel, rfl, by decide, by decide⟩
theorem d0_267 : Fet code 267 269 (.iload 11) 2 := ⟨by decide +kernel, rfl⟩
theorem d0_269 : Fet code 269 270 (.iconst 0) 1 := ⟨by decide +kernel, rfl⟩
theorem d0_270 : Fet code 270 272 (.iload 10) 2 := ⟨by decide +kernel, rfl⟩
theorem d0_272 : Brn code 272 275 279 (.if_icmp .lt 7) 7 := ⟨by decide +kernel, rfl, by decide, by decide⟩
theorem d0_275 : Fet code 275 276 (.iconst 1) 1 := ⟨by decide +kernel, rfl⟩
theorem d0_276 : Brn code 276 279 280 (.goto 4) 4 := ⟨by decide +kernel, rfl, by decide, by decide⟩
theorem d0_280 : Brn code 280 283 351 (.if_icmp .ne 71) 71 := ⟨by decide +kernel, rfl, by decide, by decide⟩
theorem d0_283 : Fet code 283 285 (.iload 12) 2 := ⟨by decide +kernel, rfl⟩
theorem d0_285 : Fet code 285 286 (.iconst 1) 1 := ⟨by decide +kernel, rfl⟩
theorem d0_286 : Fet code 286 288 (.iload 10) 2 := ⟨by decide +kernel, rfl⟩
theorem d0_288 : Brn code 288 291 295 (.if_icmp .lt 7) 7 := ⟨by decide +kernel, rfl, by decide, by decide⟩
theorem d0_291 : Fet code 291 292 (.iconst 1) 1 := ⟨by decide +kernel, rfl⟩
theorem d0_292 : Brn code 292 295 296 (.goto 4) 4 := ⟨by decide +kernel, rfl, by decide, by decide⟩
theorem d0_296 : Brn code 296 299 351 (.if_icmp .ne 55) 55 := ⟨by decide +kernel, rfl, by decide, by decide⟩
theorem d0_299 : Fet code 299 301 (.iload 13) 2 := ⟨by decide +kernel, rfl⟩
theorem d0_301 : Fet code 301 302 (.iconst 2) 1 := ⟨by decide +kernel, rfl⟩
theorem d0_302 : Fet code 302 304 (.iload 10) 2 := ⟨by decide +kernel, rfl⟩
theorem d0_304 : Brn code 304 307 311 (.if_icmp .lt 7) 7 := ⟨by decide +kernel, rfl, by decide, by decide⟩
theorem d0_307 : Fet code 307 308 (.iconst 1) 1 := ⟨by decide +kernel, rfl⟩
theorem d0_308 : Brn code 308 311 312 (.goto 4) 4 := ⟨by decide +kernel, rfl, by decide, by decide⟩
theorem d0_312 : Brn code 312 315 351 (.if_icmp .ne 39) 39 := ⟨by decide +kernel, rfl, by decide, by decide⟩
theorem d0_315 : Fet code 315 317 (.iload 14) 2 := ⟨by decide +kernel, rfl⟩
theorem d0_317 : Fet code 317 318 (.iconst 3) 1 := ⟨by decide +kernel, rfl⟩
theorem d0_318 : Fet code 318 320 (.iload 10) 2 := ⟨by decide +kernel, rfl⟩
theorem d0_320 : Brn code 320 323 327 (.if_icmp .lt 7) 7 := ⟨by decide +kernel, rfl, by decide, by decide⟩
theorem d0_323 : Fet code 323 324 (.iconst 1) 1 := ⟨by decide +kernel, rfl⟩
theorem d0_324 : Brn code 324 327 328 (.goto 4) 4 := ⟨by decide +kernel, rfl, by decide, by decide⟩
theorem d0_328 : Brn code 328 331 351 (.if_icmp .ne 23) 23 := ⟨by decide +kernel, rfl, by decide, by decide⟩
theorem d0_331 : Fet code 331 333 (.iload 15) 2 := ⟨by decide +kernel, rfl⟩
theorem d0_333 : Fet code 333 334 (.iconst 4) 1 := ⟨by decide +kernel, rfl⟩
theorem d0_334 : Fet code 334 336 (.iload 10) 2 := ⟨by decide +kernel, rfl⟩
theorem d0_336 : Brn code 336 339 343 (.if_icmp .lt 7) 7 := ⟨by decide +kernel, rfl, by decide, by decide⟩
theorem d0_339 : Fet code 339 340 (.iconst 1) 1 := ⟨by decide +kernel, rfl⟩
theorem d0_340 : Brn code 340 343 344 (.goto 4) 4 := ⟨by decide +kernel, rfl, by decide, by decide⟩
theorem d0_344 : Brn code 344 347 351 (.if_icmp .ne 7) 7 := ⟨by decide +kernel, rfl, by decide, by decide⟩
theorem d0_347 : Fet code 347 348 (.iconst 1) 1 := ⟨by decide +kernel, rfl⟩
theorem d0_348 : Brn code 348 351 352 (.goto 4) 4 := ⟨by decide +kernel, rfl, by decide, by decide⟩
theorem d0_352 : Fet code 352 353 (.ireturn) 1 := ⟨by decide +kernel, rfl⟩
theorem d0_279 : Fet code 279 280 (.iconst 0) 1 := ⟨by decide +kernel, rfl⟩
theorem d0_295 : Fet code 295 296 (.iconst 0) 1 := ⟨by decide +kernel, rfl⟩
theorem d0_311 : Fet code 311 312 (.iconst 0) 1 := ⟨by decide +kernel, rfl⟩
theorem d0_327 : Fet code 327 328 (.iconst 0) 1 := ⟨by decide +kernel, rfl⟩
theorem d0_343 : Fet code 343 344 (.iconst 0) 1 := ⟨by decide +kernel, rfl⟩
theorem d0_68 : Fet code 68 69 (.iload_n 2) 1 := ⟨by decide +kernel, rfl⟩
theorem d0_69 : Fet code 69 70 (.iconst 1) 1 := ⟨by decide +kernel, rfl⟩
theorem d0_70 : Brn code 70 73 79 (.if_icmp .lt 9) 9 := ⟨by decide +kernel, rfl, by decide, by decide⟩
theorem d0_79 : Fet code 79 80 (.iload_n 2) 1 := ⟨by decide +kernel, rfl⟩
theorem d0_80 : Fet code 80 81 (.iconst 2) 1 := ⟨by decide +kernel, rfl⟩
theorem d0_81 : Brn code 81 84 109 (.if_icmp .lt 28) 28 := ⟨by decide +kernel, rfl, by decide, by decide⟩
theorem d0_109 : Fet code 109 110 (.iload_n 2) 1 := ⟨by decide +kernel, rfl⟩
theorem d0_110 : Fet code 110 111 (.iconst 2) 1 := ⟨by decide +kernel, rfl⟩
theorem d0_111 : Brn code 111 114 121 (.if_icmp .lt 10) 10 := ⟨by decide +kernel, rfl, by decide, by decide⟩
theorem d0_121 : Fet code 121 122 (.iload_n 2) 1 := ⟨by decide +kernel, rfl⟩
theorem d0_122 : Fet code 122 123 (.iconst 3) 1 := ⟨by decide +kernel, rfl⟩
theorem d0_123 : Brn code 123 126 133 (.if_icmp .lt 10) 10 := ⟨by decide +kernel, rfl, by decide, by decide⟩
theorem d0_133 : Fet code 133 134 (.iload_n 2) 1 := ⟨by decide +kernel, rfl⟩
theorem d0_134 : Brn code 134 137 143 (.ifCond .ne 9) 9 := ⟨by decide +kernel, rfl, by decide, by decide⟩
theorem d0_137 : Fet code 137 138 (.iconst 0) 1 := ⟨by decide +kernel, rfl⟩
theorem d0_138 : Fet code 138 140 (.istore 9) 2 := ⟨by decide +kernel, rfl⟩
theorem d0_140 : Brn code 140 143 219 (.goto 79) 79 := ⟨by decide +kernel, rfl, by decide, by decide⟩
theorem d0_73 : Fet code 73 75 (.aload 7) 2 := ⟨by decide +kernel, rfl⟩
theorem d0_75 : Fet code 75 76 (.iload_n 3) 1 := ⟨by decide +kernel, rfl⟩
theorem d0_76 : Fet code 76 79 (.invokevirtual 10) 3 := ⟨by decide +kernel, rfl⟩
theorem pd__Z_V : parseMethodDescriptor "(Z)V" = some ⟨[.boolean], none⟩ := by decide +kernel
theorem d0_143 : Fet code 143 144 (.iload_n 2) 1 := ⟨by decide +kernel, rfl⟩
theorem d0_144 : Fet code 144 145 (.iconst 1) 1 := ⟨by decide +kernel, rfl⟩
theorem d0_145 : Brn code 145 148 162 (.if_icmp .ne 17) 17 := ⟨by decide +kernel, rfl, by decide, by decide⟩
theorem d0_148 : Fet code 148 149 (.iload_n 3) 1 := ⟨by decide +kernel, rfl⟩
theorem d0_149 : Brn code 149 152 156 (.ifCond .eq 7) 7 := ⟨by decide +kernel, rfl, by decide, by decide⟩
theorem d0_156 : Fet code 156 157 (.iconst 1) 1 := ⟨by decide +kernel, rfl⟩
theorem d0_157 : Fet code 157 159 (.istore 9) 2 := ⟨by decide +kernel, rfl⟩
theorem d0_159 : Brn code 159 162 219 (.goto 60) 60 := ⟨by decide +kernel, rfl, by decide, by decide⟩
theorem d0_152 : Fet code 152 153 (.iconst 0) 1 := ⟨by decide +kernel, rfl⟩
theorem d0_153 : Brn code 153 156 157 (.goto 4) 4 := ⟨by decide +kernel, rfl, by decide, by decide⟩
theorem d0_84 : Fet code 84 86 (.iload 6) 2 := ⟨by decide +kernel, rfl⟩
theorem d0_86 : Brn code 86 89 109 (.ifCond .eq 23) 23 := ⟨by decide +kernel, rfl, by decide, by decide⟩
theorem d0_114 : Fet code 114 116 (.aload 7) 2 := ⟨by decide +kernel, rfl⟩
theorem d0_116 : Fet code 116 118 (.iload 4) 2 := ⟨by decide +kernel, rfl⟩
theorem d0_118 : Fet code 118 121 (.invokevirtual 10) 3 := ⟨by decide +kernel, rfl⟩
theorem d0_162 : Fet code 162 163 (.iload_n 2) 1 := ⟨by decide +kernel, rfl⟩
theorem d0_163 : Fet code 163 164 (.iconst 2) 1 := ⟨by decide +kernel, rfl⟩
theorem d0_164 : Brn code 164 167 190 (.if_icmp .ne 26) 26 := ⟨by decide +kernel, rfl, by decide, by decide⟩
theorem d0_167 : Fet code 167 169 (.iload 4) 2 := ⟨by decide +kernel, rfl⟩
theorem d0_169 : Brn code 169 172 176 (.ifCond .eq 7) 7 := ⟨by decide +kernel, rfl, by decide, by decide⟩
theorem d0_176 : Fet code 176 177 (.iload_n 3) 1 := ⟨by decide +kernel, rfl⟩
theorem d0_177 : Brn code 177 180 184 (.ifCond .eq 7) 7 := ⟨by decide +kernel, rfl, by decide, by decide⟩
theorem d0_184 : Fet code 184 185 (.iconst 2) 1 := ⟨by decide +kernel, rfl⟩
theorem d0_185 : Fet code 185 187 (.istore 9) 2 := ⟨by decide +kernel, rfl⟩
theorem d0_187 : Brn code 187 190 219 (.goto 32) 32 := ⟨by decide +kernel, rfl, by decide, by decide⟩
theorem d0_172 : Fet code 172 173 (.iconst 0) 1 := ⟨by decide +kernel, rfl⟩
theorem d0_173 : Brn code 173 176 185 (.goto 12) 12 := ⟨by decide +kernel, rfl, by decide, by decide⟩
theorem d0_89 : Fet code 89 91 (.aload 7) 2 := ⟨by decide +kernel, rfl⟩
theorem d0_91 : Fet code 91 94 (.invokevirtual 14) 3 := ⟨by decide +kernel, rfl⟩
theorem d0_94 : Fet code 94 96 (.istore 9) 2 := ⟨by decide +kernel, rfl⟩
theorem d0_96 : Fet code 96 98 (.iload 9) 2 := ⟨by decide +kernel, rfl⟩
theorem d0_98 : Fet code 98 99 (.iload_n 3) 1 := ⟨by decide +kernel, rfl⟩
theorem d0_99 : Brn code 99 102 106 (.if_icmp .ne 7) 7 := ⟨by decide +kernel, rfl, by decide, by decide⟩
theorem d0_102 : Fet code 102 103 (.iconst 1) 1 := ⟨by decide +kernel, rfl⟩
theorem d0_103 : Brn code 103 106 107 (.goto 4) 4 := ⟨by decide +kernel, rfl, by decide, by decide⟩
theorem d0_107 : Fet code 107 109 (.istore 8) 2 := ⟨by decide +kernel, rfl⟩
theorem d0_180 : Fet code 180 181 (.iconst 1) 1 := ⟨by decide +kernel, rfl⟩
theorem d0_181 : Brn code 181 184 185 (.goto 4) 4 := ⟨by decide +kernel, rfl, by decide, by decide⟩
theorem d0_126 : Fet code 126 128 (.aload 7) 2 := ⟨by decide +kernel, rfl⟩
theorem d0_128 : Fet code 128 130 (.iload 5) 2 := ⟨by decide +kernel, rfl⟩
theorem d0_130 : Fet code 130 133 (.invokevirtual 10) 3 := ⟨by decide +kernel, rfl⟩
theorem d0_190 : Fet code 190 192 (.iload 5) 2 := ⟨by decide +kernel, rfl⟩
theorem d0_192 : Brn code 192 195 199 (.ifCond .eq 7) 7 := ⟨by decide +kernel, rfl, by decide, by decide⟩
theorem d0_199 : Fet code 199 201 (.iload 4) 2 := ⟨by decide +kernel, rfl⟩
theorem d0_201 : Brn code 201 204 208 (.ifCond .eq 7) 7 := ⟨by decide +kernel, rfl, by decide, by decide⟩
theorem d0_208 : Fet code 208 209 (.iload_n 3) 1 := ⟨by decide +kernel, rfl⟩
theorem d0_209 : Brn code 209 212 216 (.ifCond .eq 7) 7 := ⟨by decide +kernel, rfl, by decide, by decide⟩
theorem d0_216 : Fet code 216 217 (.iconst 3) 1 := ⟨by decide +kernel, rfl⟩
theorem d0_217 : Fet code 217 219 (.istore 9) 2 := ⟨by decide +kernel, rfl⟩
theorem d0_195 : Fet code 195 196 (.iconst 0) 1 := ⟨by decide +kernel, rfl⟩
theorem d0_196 : Brn code 196 199 217 (.goto 21) 21 := ⟨by decide +kernel, rfl, by decide, by decide⟩
theorem d0_204 : Fet code 204 205 (.iconst 1) 1 := ⟨by decide +kernel, rfl⟩
theorem d0_205 : Brn code 205 208 217 (.goto 12) 12 := ⟨by decide +kernel, rfl, by decide, by decide⟩
theorem d0_212 : Fet code 212 213 (.iconst 2) 1 := ⟨by decide +kernel, rfl⟩
theorem d0_213 : Brn code 213 216 217 (.goto 4) 4 := ⟨by decide +kernel, rfl, by decide, by decide⟩
theorem d0_0 : Fet code 0 1 (.iload_n 0) 1 := ⟨by decide +kernel, rfl⟩
theorem d0_1 : Fet code 1 2 (.iconst 3) 1 := ⟨by decide +kernel, rfl⟩
theorem d0_2 : Fet code 2 3 (.iand) 1 := ⟨by decide +kernel, rfl⟩
theorem d0_3 : Fet code 3 4 (.istore_n 2) 1 := ⟨by decide +kernel, rfl⟩
theorem d0_4 : Fet code 4 5 (.iload_n 1) 1 := ⟨by decide +kernel, rfl⟩
theorem d0_5 : Fet code 5 6 (.iconst 1) 1 := ⟨by decide +kernel, rfl⟩
theorem d0_6 : Fet code 6 7 (.iand) 1 := ⟨by decide +kernel, rfl⟩
theorem d0_7 : Brn code 7 10 14 (.ifCond .eq 7) 7 := ⟨by decide +kernel, rfl, by decide, by decide⟩
theorem d0_14 : Fet code 14 15 (.iconst 0) 1 := ⟨by decide +kernel, rfl⟩
theorem d0_15 : Fet code 15 16 (.istore_n 3) 1 := ⟨by decide +kernel, rfl⟩
theorem d0_16 : Fet code 16 17 (.iload_n 1) 1 := ⟨by decide +kernel, rfl⟩
theorem d0_17 : Fet code 17 18 (.iconst 2) 1 := ⟨by decide +kernel, rfl⟩
theorem d0_18 : Fet code 18 19 (.iand) 1 := ⟨by decide +kernel, rfl⟩
theorem d0_19 : Brn code 19 22 26 (.ifCond .eq 7) 7 := ⟨by decide +kernel, rfl, by decide, by decide⟩
theorem d0_26 : Fet code 26 27 (.iconst 0) 1 := ⟨by decide +kernel, rfl⟩
theorem d0_27 : Fet code 27 29 (.istore 4) 2 := ⟨by decide +kernel, rfl⟩
theorem d0_29 : Fet code 29 30 (.iload_n 1) 1 := ⟨by decide +kernel, rfl⟩
theorem d0_30 : Fet code 30 31 (.iconst 4) 1 := ⟨by decide +kernel, rfl⟩
theorem d0_31 : Fet code 31 32 (.iand) 1 := ⟨by decide +kernel, rfl⟩
theorem d0_32 : Brn code 32 35 39 (.ifCond .eq 7) 7 := ⟨by decide +kernel, rfl, by decide, by decide⟩
theorem d0_39 : Fet code 39 40 (.iconst 0) 1 := ⟨by decide +kernel, rfl⟩
theorem d0_40 : Fet code 40 42 (.istore 5) 2 := ⟨by decide +kernel, rfl⟩
theorem d0_42 : Fet code 42 43 (.iload_n 1) 1 := ⟨by decide +kernel, rfl⟩
theorem d0_43 : Fet code 43 45 (.bipush 8) 2 := ⟨by decide +kernel, rfl⟩
theorem d0_45 : Fet code 45 46 (.iand) 1 := ⟨by decide +kernel, rfl⟩
theorem d0_46 : Brn code 46 49 53 (.ifCond .eq 7) 7 := ⟨by decide +kernel, rfl, by decide, by decide⟩
theorem d0_53 : Fet code 53 54 (.iconst 0) 1 := ⟨by decide +kernel, rfl⟩
theorem d0_54 : Fet code 54 56 (.istore 6) 2 := ⟨by decide +kernel, rfl⟩
theorem d0_49 : Fet code 49 50 (.iconst 1) 1 := ⟨by decide +kernel, rfl⟩
theorem d0_50 : Brn code 50 53 54 (.goto 4) 4 := ⟨by decide +kernel, rfl, by decide, by decide⟩
theorem d0_35 : Fet code 35 36 (.iconst 1) 1 := ⟨by decide +kernel, rfl⟩
theorem d0_36 : Brn code 36 39 40 (.goto 4) 4 := ⟨by decide +kernel, rfl, by decide, by decide⟩
theorem d0_22 : Fet code 22 23 (.iconst 1) 1 := ⟨by decide +kernel, rfl⟩
theorem d0_23 : Brn code 23 26 27 (.goto 4) 4 := ⟨by decide +kernel, rfl, by decide, by decide⟩
theorem d0_10 : Fet code 10 11 (.iconst 1) 1 := ⟨by decide +kernel, rfl⟩
theorem d0_11 : Brn code 11 14 15 (.goto 4) 4 := ⟨by decide +kernel, rfl, by decide, by decide⟩
theorem pn_com_example_trim_pool_trimpool_SpinBackoffSpunPinLaw : plainName "com/example/trim_pool/trimpool/SpinBackoffSpunPinLaw" = true := by first | (simp [plainName, overriddenIn]; done) | decide +kernel
set_option maxRecDepth 65536 in
set_option maxHeartbeats 4000000 in
theorem rm0 (l : Launch) (Z : State) (a0 : Array Value) (hw : ∀ d ∈ tables_1, d.before a0 Z = true) (n0 : Nat) (nn fl : Int32) (h : Heap) (Z0 : n0 ≤ h.size) :
    ConV l Z n0 x code maxLocals ret tables_1 room_1 #[(.int nn), (.int fl)] h (fun w h' => w = .int 1) := by
  refine con_of_wp (Ls := #[.val (.int nn), .val (.int fl), .unset, .unset, .unset, .unset, .unset, .unset, .unset, .unset, .unset, .unset, .unset, .unset, .unset, .unset]) (plainFor_of_name pn_com_example_trim_pool_trimpool_SpinBackoffSpunPinLaw) (fun m => by first | rfl | (simp [entryFrame, mkF, argsToLocals, Value.category, maxLocals]; done)) ?_
  intro K ok
  replace ok : Ok Z K code "com/example/trim_pool/trimpool/SpinBackoffSpunPinLaw" "law" 16 (some .boolean) := ok
  show Wp l room_1 n0 K (fun v h' => ∃ w, v = some w ∧ w = .int 1) h 0 0 0 #[.val (.int nn), .val (.int fl), .unset, .unset, .unset, .unset, .unset, .unset, .unset, .unset, .unset, .unset, .unset, .unset, .unset, .unset] []
  have JN : ∀ (cn z3 z4 z5 z6 : Int32) (hc : cn = 0 ∨ cn = 1 ∨ cn = 2 ∨ cn = 3) (hz3 : z3 = 0 ∨ z3 = 1) (hz4 : z4 = 0 ∨ z4 = 1) (hz5 : z5 = 0 ∨ z5 = 1) (hz6 : z6 = 0 ∨ z6 = 1), Wp l room_1 n0 K (fun v h' => ∃ w, v = some w ∧ w = .int 1) h 0 0 56 #[.val (.int nn), .val (.int fl), .val (.int cn), .val (.int z3), .val (.int z4), .val (.int z5), .val (.int z6), .unset, .unset, .unset, .unset, .unset, .unset, .unset, .unset, .unset] [] := by
    intro cn z3 z4 z5 z6 hc hz3 hz4 hz5 hz6
    refine w_new ok (hw _ (List.mem_of_getElem? (i := 0) rfl)) (hw _ (List.mem_of_getElem? (i := 1) rfl)) (hw _ (List.mem_of_getElem? (i := 2) rfl)) d0_56 (k' := 1) (n' := 2) rfl rfl (Nat.le_of_ble_eq_true rfl) (Nat.le_of_ble_eq_true rfl) (fun h1 b1 g1 E1 A1 D1 => ?_)
    have gn_b1 : n0 ≤ b1 := Nat.le_trans Z0 (Nat.le_of_eq g1.symm)
    have Z0 := Nat.le_trans Z0 E1.1
    have F_b1_skipsLeft : Fld Z h1 b1 "com/example/trim_pool/trimpool/SpinBackoff" "skipsLeft" "I" (.int (0 : Int32)) := D1 (Or.inl (hw _ (List.mem_of_getElem? (i := 15) rfl))) (ty := .int) (by decide)
    have F_b1_skipsAfterMiss : Fld Z h1 b1 "com/example/trim_pool/trimpool/SpinBackoff" "skipsAfterMiss" "I" (.int (0 : Int32)) := D1 (Or.inl (hw _ (List.mem_of_getElem? (i := 22) rfl))) (ty := .int) (by decide)
    refine w_dup ok d0_59 rfl ?_
    refine w_init ok (argsL := []) (rest := [(.ref b1)]) rfl rfl (hw _ (List.mem_of_getElem? (i := 3) rfl)) (hw _ (List.mem_of_getElem? (i := 4) rfl)) (hw _ (List.mem_of_getElem? (i := 2) rfl)) (hw _ (List.mem_of_getElem? (i := 5) rfl)) (by decide) (rmI l Z a0 hw n0 b1 h1) d0_60 (lenOf pd___V rfl) rfl rfl (Nat.le_of_ble_eq_true rfl) (Nat.le_of_ble_eq_true rfl) (k' := 1) (n' := 2) rfl rfl (Nat.le_of_ble_eq_true rfl) (Nat.le_of_ble_eq_true rfl) ?_
    rintro _ rfl
    have E_a := A1
    have F_l := F_b1_skipsLeft
    have F_m := F_b1_skipsAfterMiss
    refine w_astore ok (Ls' := #[.val (.int nn), .val (.int fl), .val (.int cn), .val (.int z3), .val (.int z4), .val (.int z5), .val (.int z6), .val (.ref b1), .unset, .unset, .unset, .unset, .unset, .unset, .unset, .unset]) d0_63 rfl rfl ?_
    refine w_iconst ok (z := 1) d0_65 rfl ?_
    refine w_istore ok (Ls' := #[.val (.int nn), .val (.int fl), .val (.int cn), .val (.int z3), .val (.int z4), .val (.int z5), .val (.int z6), .val (.ref b1), .val (.int (1 : Int32)), .unset, .unset, .unset, .unset, .unset, .unset, .unset]) d0_66 rfl ?_
    have JM : ∀ (mm kk mi : Int32) (hh : Heap) (Z0 : n0 ≤ hh.size) (E_a : Exa Z hh b1 "com/example/trim_pool/trimpool/SpinBackoff") (F_l : Fld Z hh b1 "com/example/trim_pool/trimpool/SpinBackoff" "skipsLeft" "I" (.int kk)) (F_m : Fld Z hh b1 "com/example/trim_pool/trimpool/SpinBackoff" "skipsAfterMiss" "I" (.int mi)) (hm : (mm = 0 ∧ kk = 0) ∨ (mm = 1 ∧ kk = 1) ∨ (mm = 2 ∧ kk = 3) ∨ (mm = 3 ∧ kk = 7)), Wp l room_1 n0 K (fun v h' => ∃ w, v = some w ∧ w = .int 1) hh 1 2 219 #[.val (.int nn), .val (.int fl), .val (.int cn), .val (.int z3), .val (.int z4), .val (.int z5), .val (.int z6), .val (.ref b1), .val (.int (1 : Int32)), .val (.int mm), .unset, .unset, .unset, .unset, .unset, .unset] [] := by
      intro mm kk mi hh Z0 E_a F_l F_m hm
      rcases hm with ⟨rfl, rfl⟩ | ⟨rfl, rfl⟩ | ⟨rfl, rfl⟩ | ⟨rfl, rfl⟩
      · refine w_iconst ok (z := 1) d0_219 rfl ?_
        refine w_iload ok d0_220 rfl ?_
        refine w_ishl ok d0_222 ?_
        refine w_int (b := 1) (by decide) ?_
        refine w_iconst ok (z := 1) d0_223 rfl ?_
        refine w_isub ok d0_224 ?_
        refine w_int (b := 0) (by decide) ?_
        refine w_istore ok (Ls' := #[.val (.int nn), .val (.int fl), .val (.int cn), .val (.int z3), .val (.int z4), .val (.int z5), .val (.int z6), .val (.ref b1), .val (.int (1 : Int32)), .val (.int (0 : Int32)), .val (.int (0 : Int32)), .unset, .unset, .unset, .unset, .unset]) d0_225 rfl ?_
        refine w_aload ok d0_227 rfl rfl ?_
        refine w_virtV ok (argsL := []) (rest := []) (hw _ (List.mem_of_getElem? (i := 9) rfl)) (hw _ (List.mem_of_getElem? (i := 10) rfl)) (hw _ (List.mem_of_getElem? (i := 12) rfl)) (hw _ (List.mem_of_getElem? (i := 11) rfl)) (hw _ (List.mem_of_getElem? (i := 2) rfl)) (hw _ (List.mem_of_getElem? (i := 13) rfl)) E_a (by decide) (rmT l Z a0 hw n0 b1 (0 : Int32) mi (1 : Int32) (0 : Int32) hh Z0 gn_b1 E_a F_l F_m (by decide) (by decide)) d0_229 (lenOf pd___Z rfl) rfl rfl (Nat.le_of_ble_eq_true rfl) (Nat.le_of_ble_eq_true rfl) (k' := 1) (n' := 2) rfl rfl (Nat.le_of_ble_eq_true rfl) (Nat.le_of_ble_eq_true rfl) ?_
        rintro _ h2 ⟨rfl, Kc, E_a, F_l, F_m⟩
        have Z0 := Nat.le_trans Z0 Kc.1
        refine w_istore ok (Ls' := #[.val (.int nn), .val (.int fl), .val (.int cn), .val (.int z3), .val (.int z4), .val (.int z5), .val (.int z6), .val (.ref b1), .val (.int (1 : Int32)), .val (.int (0 : Int32)), .val (.int (0 : Int32)), .val (.int (1 : Int32)), .unset, .unset, .unset, .unset]) d0_232 rfl ?_
        refine w_aload ok d0_234 rfl rfl ?_
        refine w_virtV ok (argsL := []) (rest := []) (hw _ (List.mem_of_getElem? (i := 9) rfl)) (hw _ (List.mem_of_getElem? (i := 10) rfl)) (hw _ (List.mem_of_getElem? (i := 12) rfl)) (hw _ (List.mem_of_getElem? (i := 11) rfl)) (hw _ (List.mem_of_getElem? (i := 2) rfl)) (hw _ (List.mem_of_getElem? (i := 13) rfl)) E_a (by decide) (rmT l Z a0 hw n0 b1 (0 : Int32) mi (1 : Int32) (0 : Int32) h2 Z0 gn_b1 E_a F_l F_m (by decide) (by decide)) d0_236 (lenOf pd___Z rfl) rfl rfl (Nat.le_of_ble_eq_true rfl) (Nat.le_of_ble_eq_true rfl) (k' := 1) (n' := 2) rfl rfl (Nat.le_of_ble_eq_true rfl) (Nat.le_of_ble_eq_true rfl) ?_
        rintro _ h3 ⟨rfl, Kc, E_a, F_l, F_m⟩
        have Z0 := Nat.le_trans Z0 Kc.1
        refine w_istore ok (Ls' := #[.val (.int nn), .val (.int fl), .val (.int cn), .val (.int z3), .val (.int z4), .val (.int z5), .val (.int z6), .val (.ref b1), .val (.int (1 : Int32)), .val (.int (0 : Int32)), .val (.int (0 : Int32)), .val (.int (1 : Int32)), .val (.int (1 : Int32)), .unset, .unset, .unset]) d0_239 rfl ?_
        refine w_aload ok d0_241 rfl rfl ?_
        refine w_virtV ok (argsL := []) (rest := []) (hw _ (List.mem_of_getElem? (i := 9) rfl)) (hw _ (List.mem_of_getElem? (i := 10) rfl)) (hw _ (List.mem_of_getElem? (i := 12) rfl)) (hw _ (List.mem_of_getElem? (i := 11) rfl)) (hw _ (List.mem_of_getElem? (i := 2) rfl)) (hw _ (List.mem_of_getElem? (i := 13) rfl)) E_a (by decide) (rmT l Z a0 hw n0 b1 (0 : Int32) mi (1 : Int32) (0 : Int32) h3 Z0 gn_b1 E_a F_l F_m (by decide) (by decide)) d0_243 (lenOf pd___Z rfl) rfl rfl (Nat.le_of_ble_eq_true rfl) (Nat.le_of_ble_eq_true rfl) (k' := 1) (n' := 2) rfl rfl (Nat.le_of_ble_eq_true rfl) (Nat.le_of_ble_eq_true rfl) ?_
        rintro _ h4 ⟨rfl, Kc, E_a, F_l, F_m⟩
        have Z0 := Nat.le_trans Z0 Kc.1
        refine w_istore ok (Ls' := #[.val (.int nn), .val (.int fl), .val (.int cn), .val (.int z3), .val (.int z4), .val (.int z5), .val (.int z6), .val (.ref b1), .val (.int (1 : Int32)), .val (.int (0 : Int32)), .val (.int (0 : Int32)), .val (.int (1 : Int32)), .val (.int (1 : Int32)), .val (.int (1 : Int32)), .unset, .unset]) d0_246 rfl ?_
        refine w_aload ok d0_248 rfl rfl ?_
        refine w_virtV ok (argsL := []) (rest := []) (hw _ (List.mem_of_getElem? (i := 9) rfl)) (hw _ (List.mem_of_getElem? (i := 10) rfl)) (hw _ (List.mem_of_getElem? (i := 12) rfl)) (hw _ (List.mem_of_getElem? (i := 11) rfl)) (hw _ (List.mem_of_getElem? (i := 2) rfl)) (hw _ (List.mem_of_getElem? (i := 13) rfl)) E_a (by decide) (rmT l Z a0 hw n0 b1 (0 : Int32) mi (1 : Int32) (0 : Int32) h4 Z0 gn_b1 E_a F_l F_m (by decide) (by decide)) d0_250 (lenOf pd___Z rfl) rfl rfl (Nat.le_of_ble_eq_true rfl) (Nat.le_of_ble_eq_true rfl) (k' := 1) (n' := 2) rfl rfl (Nat.le_of_ble_eq_true rfl) (Nat.le_of_ble_eq_true rfl) ?_
        rintro _ h5 ⟨rfl, Kc, E_a, F_l, F_m⟩
        have Z0 := Nat.le_trans Z0 Kc.1
        refine w_istore ok (Ls' := #[.val (.int nn), .val (.int fl), .val (.int cn), .val (.int z3), .val (.int z4), .val (.int z5), .val (.int z6), .val (.ref b1), .val (.int (1 : Int32)), .val (.int (0 : Int32)), .val (.int (0 : Int32)), .val (.int (1 : Int32)), .val (.int (1 : Int32)), .val (.int (1 : Int32)), .val (.int (1 : Int32)), .unset]) d0_253 rfl ?_
        refine w_aload ok d0_255 rfl rfl ?_
        refine w_virtV ok (argsL := []) (rest := []) (hw _ (List.mem_of_getElem? (i := 9) rfl)) (hw _ (List.mem_of_getElem? (i := 10) rfl)) (hw _ (List.mem_of_getElem? (i := 12) rfl)) (hw _ (List.mem_of_getElem? (i := 11) rfl)) (hw _ (List.mem_of_getElem? (i := 2) rfl)) (hw _ (List.mem_of_getElem? (i := 13) rfl)) E_a (by decide) (rmT l Z a0 hw n0 b1 (0 : Int32) mi (1 : Int32) (0 : Int32) h5 Z0 gn_b1 E_a F_l F_m (by decide) (by decide)) d0_257 (lenOf pd___Z rfl) rfl rfl (Nat.le_of_ble_eq_true rfl) (Nat.le_of_ble_eq_true rfl) (k' := 1) (n' := 2) rfl rfl (Nat.le_of_ble_eq_true rfl) (Nat.le_of_ble_eq_true rfl) ?_
        rintro _ h6 ⟨rfl, Kc, E_a, F_l, F_m⟩
        have Z0 := Nat.le_trans Z0 Kc.1
        refine w_istore ok (Ls' := #[.val (.int nn), .val (.int fl), .val (.int cn), .val (.int z3), .val (.int z4), .val (.int z5), .val (.int z6), .val (.ref b1), .val (.int (1 : Int32)), .val (.int (0 : Int32)), .val (.int (0 : Int32)), .val (.int (1 : Int32)), .val (.int (1 : Int32)), .val (.int (1 : Int32)), .val (.int (1 : Int32)), .val (.int (1 : Int32))]) d0_260 rfl ?_
        refine w_iload ok d0_262 rfl ?_
        refine w_if_eq ok d0_264 (fun q => absurd q (by decide)) (fun _ => ?_)
        refine w_iload ok d0_267 rfl ?_
        refine w_iconst ok (z := 0) d0_269 rfl ?_
        refine w_iload ok d0_270 rfl ?_
        refine w_ic_lt ok d0_272 (fun q => absurd q (by decide)) (fun _ => ?_)
        refine w_iconst ok (z := 1) d0_275 rfl ?_
        refine w_goto ok d0_276 ?_
        refine w_ic_ne ok d0_280 (fun q => absurd (by decide) q) (fun _ => ?_)
        refine w_iload ok d0_283 rfl ?_
        refine w_iconst ok (z := 1) d0_285 rfl ?_
        refine w_iload ok d0_286 rfl ?_
        refine w_ic_lt ok d0_288 (fun q => absurd q (by decide)) (fun _ => ?_)
        refine w_iconst ok (z := 1) d0_291 rfl ?_
        refine w_goto ok d0_292 ?_
        refine w_ic_ne ok d0_296 (fun q => absurd (by decide) q) (fun _ => ?_)
        refine w_iload ok d0_299 rfl ?_
        refine w_iconst ok (z := 2) d0_301 rfl ?_
        refine w_iload ok d0_302 rfl ?_
        refine w_ic_lt ok d0_304 (fun q => absurd q (by decide)) (fun _ => ?_)
        refine w_iconst ok (z := 1) d0_307 rfl ?_
        refine w_goto ok d0_308 ?_
        refine w_ic_ne ok d0_312 (fun q => absurd (by decide) q) (fun _ => ?_)
        refine w_iload ok d0_315 rfl ?_
        refine w_iconst ok (z := 3) d0_317 rfl ?_
        refine w_iload ok d0_318 rfl ?_
        refine w_ic_lt ok d0_320 (fun q => absurd q (by decide)) (fun _ => ?_)
        refine w_iconst ok (z := 1) d0_323 rfl ?_
        refine w_goto ok d0_324 ?_
        refine w_ic_ne ok d0_328 (fun q => absurd (by decide) q) (fun _ => ?_)
        refine w_iload ok d0_331 rfl ?_
        refine w_iconst ok (z := 4) d0_333 rfl ?_
        refine w_iload ok d0_334 rfl ?_
        refine w_ic_lt ok d0_336 (fun q => absurd q (by decide)) (fun _ => ?_)
        refine w_iconst ok (z := 1) d0_339 rfl ?_
        refine w_goto ok d0_340 ?_
        refine w_ic_ne ok d0_344 (fun q => absurd (by decide) q) (fun _ => ?_)
        refine w_iconst ok (z := 1) d0_347 rfl ?_
        refine w_goto ok d0_348 ?_
        refine w_ireturnN ok (by simp) d0_352 (Nat.le_of_ble_eq_true rfl) (Nat.le_of_ble_eq_true rfl) ?_
        exact ⟨_, rfl, rfl⟩
      · refine w_iconst ok (z := 1) d0_219 rfl ?_
        refine w_iload ok d0_220 rfl ?_
        refine w_ishl ok d0_222 ?_
        refine w_int (b := 2) (by decide) ?_
        refine w_iconst ok (z := 1) d0_223 rfl ?_
        refine w_isub ok d0_224 ?_
        refine w_int (b := 1) (by decide) ?_
        refine w_istore ok (Ls' := #[.val (.int nn), .val (.int fl), .val (.int cn), .val (.int z3), .val (.int z4), .val (.int z5), .val (.int z6), .val (.ref b1), .val (.int (1 : Int32)), .val (.int (1 : Int32)), .val (.int (1 : Int32)), .unset, .unset, .unset, .unset, .unset]) d0_225 rfl ?_
        refine w_aload ok d0_227 rfl rfl ?_
        refine w_virtV ok (argsL := []) (rest := []) (hw _ (List.mem_of_getElem? (i := 9) rfl)) (hw _ (List.mem_of_getElem? (i := 10) rfl)) (hw _ (List.mem_of_getElem? (i := 12) rfl)) (hw _ (List.mem_of_getElem? (i := 11) rfl)) (hw _ (List.mem_of_getElem? (i := 2) rfl)) (hw _ (List.mem_of_getElem? (i := 13) rfl)) E_a (by decide) (rmT l Z a0 hw n0 b1 (1 : Int32) mi (0 : Int32) (0 : Int32) hh Z0 gn_b1 E_a F_l F_m (by decide) (by decide)) d0_229 (lenOf pd___Z rfl) rfl rfl (Nat.le_of_ble_eq_true rfl) (Nat.le_of_ble_eq_true rfl) (k' := 1) (n' := 2) rfl rfl (Nat.le_of_ble_eq_true rfl) (Nat.le_of_ble_eq_true rfl) ?_
        rintro _ h7 ⟨rfl, Kc, E_a, F_l, F_m⟩
        have Z0 := Nat.le_trans Z0 Kc.1
        refine w_istore ok (Ls' := #[.val (.int nn), .val (.int fl), .val (.int cn), .val (.int z3), .val (.int z4), .val (.int z5), .val (.int z6), .val (.ref b1), .val (.int (1 : Int32)), .val (.int (1 : Int32)), .val (.int (1 : Int32)), .val (.int (0 : Int32)), .unset, .unset, .unset, .unset]) d0_232 rfl ?_
        refine w_aload ok d0_234 rfl rfl ?_
        refine w_virtV ok (argsL := []) (rest := []) (hw _ (List.mem_of_getElem? (i := 9) rfl)) (hw _ (List.mem_of_getElem? (i := 10) rfl)) (hw _ (List.mem_of_getElem? (i := 12) rfl)) (hw _ (List.mem_of_getElem? (i := 11) rfl)) (hw _ (List.mem_of_getElem? (i := 2) rfl)) (hw _ (List.mem_of_getElem? (i := 13) rfl)) E_a (by decide) (rmT l Z a0 hw n0 b1 (0 : Int32) mi (1 : Int32) (0 : Int32) h7 Z0 gn_b1 E_a F_l F_m (by decide) (by decide)) d0_236 (lenOf pd___Z rfl) rfl rfl (Nat.le_of_ble_eq_true rfl) (Nat.le_of_ble_eq_true rfl) (k' := 1) (n' := 2) rfl rfl (Nat.le_of_ble_eq_true rfl) (Nat.le_of_ble_eq_true rfl) ?_
        rintro _ h8 ⟨rfl, Kc, E_a, F_l, F_m⟩
        have Z0 := Nat.le_trans Z0 Kc.1
        refine w_istore ok (Ls' := #[.val (.int nn), .val (.int fl), .val (.int cn), .val (.int z3), .val (.int z4), .val (.int z5), .val (.int z6), .val (.ref b1), .val (.int (1 : Int32)), .val (.int (1 : Int32)), .val (.int (1 : Int32)), .val (.int (0 : Int32)), .val (.int (1 : Int32)), .unset, .unset, .unset]) d0_239 rfl ?_
        refine w_aload ok d0_241 rfl rfl ?_
        refine w_virtV ok (argsL := []) (rest := []) (hw _ (List.mem_of_getElem? (i := 9) rfl)) (hw _ (List.mem_of_getElem? (i := 10) rfl)) (hw _ (List.mem_of_getElem? (i := 12) rfl)) (hw _ (List.mem_of_getElem? (i := 11) rfl)) (hw _ (List.mem_of_getElem? (i := 2) rfl)) (hw _ (List.mem_of_getElem? (i := 13) rfl)) E_a (by decide) (rmT l Z a0 hw n0 b1 (0 : Int32) mi (1 : Int32) (0 : Int32) h8 Z0 gn_b1 E_a F_l F_m (by decide) (by decide)) d0_243 (lenOf pd___Z rfl) rfl rfl (Nat.le_of_ble_eq_true rfl) (Nat.le_of_ble_eq_true rfl) (k' := 1) (n' := 2) rfl rfl (Nat.le_of_ble_eq_true rfl) (Nat.le_of_ble_eq_true rfl) ?_
        rintro _ h9 ⟨rfl, Kc, E_a, F_l, F_m⟩
        have Z0 := Nat.le_trans Z0 Kc.1
        refine w_istore ok (Ls' := #[.val (.int nn), .val (.int fl), .val (.int cn), .val (.int z3), .val (.int z4), .val (.int z5), .val (.int z6), .val (.ref b1), .val (.int (1 : Int32)), .val (.int (1 : Int32)), .val (.int (1 : Int32)), .val (.int (0 : Int32)), .val (.int (1 : Int32)), .val (.int (1 : Int32)), .unset, .unset]) d0_246 rfl ?_
        refine w_aload ok d0_248 rfl rfl ?_
        refine w_virtV ok (argsL := []) (rest := []) (hw _ (List.mem_of_getElem? (i := 9) rfl)) (hw _ (List.mem_of_getElem? (i := 10) rfl)) (hw _ (List.mem_of_getElem? (i := 12) rfl)) (hw _ (List.mem_of_getElem? (i := 11) rfl)) (hw _ (List.mem_of_getElem? (i := 2) rfl)) (hw _ (List.mem_of_getElem? (i := 13) rfl)) E_a (by decide) (rmT l Z a0 hw n0 b1 (0 : Int32) mi (1 : Int32) (0 : Int32) h9 Z0 gn_b1 E_a F_l F_m (by decide) (by decide)) d0_250 (lenOf pd___Z rfl) rfl rfl (Nat.le_of_ble_eq_true rfl) (Nat.le_of_ble_eq_true rfl) (k' := 1) (n' := 2) rfl rfl (Nat.le_of_ble_eq_true rfl) (Nat.le_of_ble_eq_true rfl) ?_
        rintro _ h10 ⟨rfl, Kc, E_a, F_l, F_m⟩
        have Z0 := Nat.le_trans Z0 Kc.1
        refine w_istore ok (Ls' := #[.val (.int nn), .val (.int fl), .val (.int cn), .val (.int z3), .val (.int z4), .val (.int z5), .val (.int z6), .val (.ref b1), .val (.int (1 : Int32)), .val (.int (1 : Int32)), .val (.int (1 : Int32)), .val (.int (0 : Int32)), .val (.int (1 : Int32)), .val (.int (1 : Int32)), .val (.int (1 : Int32)), .unset]) d0_253 rfl ?_
        refine w_aload ok d0_255 rfl rfl ?_
        refine w_virtV ok (argsL := []) (rest := []) (hw _ (List.mem_of_getElem? (i := 9) rfl)) (hw _ (List.mem_of_getElem? (i := 10) rfl)) (hw _ (List.mem_of_getElem? (i := 12) rfl)) (hw _ (List.mem_of_getElem? (i := 11) rfl)) (hw _ (List.mem_of_getElem? (i := 2) rfl)) (hw _ (List.mem_of_getElem? (i := 13) rfl)) E_a (by decide) (rmT l Z a0 hw n0 b1 (0 : Int32) mi (1 : Int32) (0 : Int32) h10 Z0 gn_b1 E_a F_l F_m (by decide) (by decide)) d0_257 (lenOf pd___Z rfl) rfl rfl (Nat.le_of_ble_eq_true rfl) (Nat.le_of_ble_eq_true rfl) (k' := 1) (n' := 2) rfl rfl (Nat.le_of_ble_eq_true rfl) (Nat.le_of_ble_eq_true rfl) ?_
        rintro _ h11 ⟨rfl, Kc, E_a, F_l, F_m⟩
        have Z0 := Nat.le_trans Z0 Kc.1
        refine w_istore ok (Ls' := #[.val (.int nn), .val (.int fl), .val (.int cn), .val (.int z3), .val (.int z4), .val (.int z5), .val (.int z6), .val (.ref b1), .val (.int (1 : Int32)), .val (.int (1 : Int32)), .val (.int (1 : Int32)), .val (.int (0 : Int32)), .val (.int (1 : Int32)), .val (.int (1 : Int32)), .val (.int (1 : Int32)), .val (.int (1 : Int32))]) d0_260 rfl ?_
        refine w_iload ok d0_262 rfl ?_
        refine w_if_eq ok d0_264 (fun q => absurd q (by decide)) (fun _ => ?_)
        refine w_iload ok d0_267 rfl ?_
        refine w_iconst ok (z := 0) d0_269 rfl ?_
        refine w_iload ok d0_270 rfl ?_
        refine w_ic_lt ok d0_272 (fun _ => ?_) (fun q => absurd (by decide) q)
        refine w_iconst ok (z := 0) d0_279 rfl ?_
        refine w_ic_ne ok d0_280 (fun q => absurd (by decide) q) (fun _ => ?_)
        refine w_iload ok d0_283 rfl ?_
        refine w_iconst ok (z := 1) d0_285 rfl ?_
        refine w_iload ok d0_286 rfl ?_
        refine w_ic_lt ok d0_288 (fun q => absurd q (by decide)) (fun _ => ?_)
        refine w_iconst ok (z := 1) d0_291 rfl ?_
        refine w_goto ok d0_292 ?_
        refine w_ic_ne ok d0_296 (fun q => absurd (by decide) q) (fun _ => ?_)
        refine w_iload ok d0_299 rfl ?_
        refine w_iconst ok (z := 2) d0_301 rfl ?_
        refine w_iload ok d0_302 rfl ?_
        refine w_ic_lt ok d0_304 (fun q => absurd q (by decide)) (fun _ => ?_)
        refine w_iconst ok (z := 1) d0_307 rfl ?_
        refine w_goto ok d0_308 ?_
        refine w_ic_ne ok d0_312 (fun q => absurd (by decide) q) (fun _ => ?_)
        refine w_iload ok d0_315 rfl ?_
        refine w_iconst ok (z := 3) d0_317 rfl ?_
        refine w_iload ok d0_318 rfl ?_
        refine w_ic_lt ok d0_320 (fun q => absurd q (by decide)) (fun _ => ?_)
        refine w_iconst ok (z := 1) d0_323 rfl ?_
        refine w_goto ok d0_324 ?_
        refine w_ic_ne ok d0_328 (fun q => absurd (by decide) q) (fun _ => ?_)
        refine w_iload ok d0_331 rfl ?_
        refine w_iconst ok (z := 4) d0_333 rfl ?_
        refine w_iload ok d0_334 rfl ?_
        refine w_ic_lt ok d0_336 (fun q => absurd q (by decide)) (fun _ => ?_)
        refine w_iconst ok (z := 1) d0_339 rfl ?_
        refine w_goto ok d0_340 ?_
        refine w_ic_ne ok d0_344 (fun q => absurd (by decide) q) (fun _ => ?_)
        refine w_iconst ok (z := 1) d0_347 rfl ?_
        refine w_goto ok d0_348 ?_
        refine w_ireturnN ok (by simp) d0_352 (Nat.le_of_ble_eq_true rfl) (Nat.le_of_ble_eq_true rfl) ?_
        exact ⟨_, rfl, rfl⟩
      · refine w_iconst ok (z := 1) d0_219 rfl ?_
        refine w_iload ok d0_220 rfl ?_
        refine w_ishl ok d0_222 ?_
        refine w_int (b := 4) (by decide) ?_
        refine w_iconst ok (z := 1) d0_223 rfl ?_
        refine w_isub ok d0_224 ?_
        refine w_int (b := 3) (by decide) ?_
        refine w_istore ok (Ls' := #[.val (.int nn), .val (.int fl), .val (.int cn), .val (.int z3), .val (.int z4), .val (.int z5), .val (.int z6), .val (.ref b1), .val (.int (1 : Int32)), .val (.int (2 : Int32)), .val (.int (3 : Int32)), .unset, .unset, .unset, .unset, .unset]) d0_225 rfl ?_
        refine w_aload ok d0_227 rfl rfl ?_
        refine w_virtV ok (argsL := []) (rest := []) (hw _ (List.mem_of_getElem? (i := 9) rfl)) (hw _ (List.mem_of_getElem? (i := 10) rfl)) (hw _ (List.mem_of_getElem? (i := 12) rfl)) (hw _ (List.mem_of_getElem? (i := 11) rfl)) (hw _ (List.mem_of_getElem? (i := 2) rfl)) (hw _ (List.mem_of_getElem? (i := 13) rfl)) E_a (by decide) (rmT l Z a0 hw n0 b1 (3 : Int32) mi (0 : Int32) (2 : Int32) hh Z0 gn_b1 E_a F_l F_m (by decide) (by decide)) d0_229 (lenOf pd___Z rfl) rfl rfl (Nat.le_of_ble_eq_true rfl) (Nat.le_of_ble_eq_true rfl) (k' := 1) (n' := 2) rfl rfl (Nat.le_of_ble_eq_true rfl) (Nat.le_of_ble_eq_true rfl) ?_
        rintro _ h12 ⟨rfl, Kc, E_a, F_l, F_m⟩
        have Z0 := Nat.le_trans Z0 Kc.1
        refine w_istore ok (Ls' := #[.val (.int nn), .val (.int fl), .val (.int cn), .val (.int z3), .val (.int z4), .val (.int z5), .val (.int z6), .val (.ref b1), .val (.int (1 : Int32)), .val (.int (2 : Int32)), .val (.int (3 : Int32)), .val (.int (0 : Int32)), .unset, .unset, .unset, .unset]) d0_232 rfl ?_
        refine w_aload ok d0_234 rfl rfl ?_
        refine w_virtV ok (argsL := []) (rest := []) (hw _ (List.mem_of_getElem? (i := 9) rfl)) (hw _ (List.mem_of_getElem? (i := 10) rfl)) (hw _ (List.mem_of_getElem? (i := 12) rfl)) (hw _ (List.mem_of_getElem? (i := 11) rfl)) (hw _ (List.mem_of_getElem? (i := 2) rfl)) (hw _ (List.mem_of_getElem? (i := 13) rfl)) E_a (by decide) (rmT l Z a0 hw n0 b1 (2 : Int32) mi (0 : Int32) (1 : Int32) h12 Z0 gn_b1 E_a F_l F_m (by decide) (by decide)) d0_236 (lenOf pd___Z rfl) rfl rfl (Nat.le_of_ble_eq_true rfl) (Nat.le_of_ble_eq_true rfl) (k' := 1) (n' := 2) rfl rfl (Nat.le_of_ble_eq_true rfl) (Nat.le_of_ble_eq_true rfl) ?_
        rintro _ h13 ⟨rfl, Kc, E_a, F_l, F_m⟩
        have Z0 := Nat.le_trans Z0 Kc.1
        refine w_istore ok (Ls' := #[.val (.int nn), .val (.int fl), .val (.int cn), .val (.int z3), .val (.int z4), .val (.int z5), .val (.int z6), .val (.ref b1), .val (.int (1 : Int32)), .val (.int (2 : Int32)), .val (.int (3 : Int32)), .val (.int (0 : Int32)), .val (.int (0 : Int32)), .unset, .unset, .unset]) d0_239 rfl ?_
        refine w_aload ok d0_241 rfl rfl ?_
        refine w_virtV ok (argsL := []) (rest := []) (hw _ (List.mem_of_getElem? (i := 9) rfl)) (hw _ (List.mem_of_getElem? (i := 10) rfl)) (hw _ (List.mem_of_getElem? (i := 12) rfl)) (hw _ (List.mem_of_getElem? (i := 11) rfl)) (hw _ (List.mem_of_getElem? (i := 2) rfl)) (hw _ (List.mem_of_getElem? (i := 13) rfl)) E_a (by decide) (rmT l Z a0 hw n0 b1 (1 : Int32) mi (0 : Int32) (0 : Int32) h13 Z0 gn_b1 E_a F_l F_m (by decide) (by decide)) d0_243 (lenOf pd___Z rfl) rfl rfl (Nat.le_of_ble_eq_true rfl) (Nat.le_of_ble_eq_true rfl) (k' := 1) (n' := 2) rfl rfl (Nat.le_of_ble_eq_true rfl) (Nat.le_of_ble_eq_true rfl) ?_
        rintro _ h14 ⟨rfl, Kc, E_a, F_l, F_m⟩
        have Z0 := Nat.le_trans Z0 Kc.1
        refine w_istore ok (Ls' := #[.val (.int nn), .val (.int fl), .val (.int cn), .val (.int z3), .val (.int z4), .val (.int z5), .val (.int z6), .val (.ref b1), .val (.int (1 : Int32)), .val (.int (2 : Int32)), .val (.int (3 : Int32)), .val (.int (0 : Int32)), .val (.int (0 : Int32)), .val (.int (0 : Int32)), .unset, .unset]) d0_246 rfl ?_
        refine w_aload ok d0_248 rfl rfl ?_
        refine w_virtV ok (argsL := []) (rest := []) (hw _ (List.mem_of_getElem? (i := 9) rfl)) (hw _ (List.mem_of_getElem? (i := 10) rfl)) (hw _ (List.mem_of_getElem? (i := 12) rfl)) (hw _ (List.mem_of_getElem? (i := 11) rfl)) (hw _ (List.mem_of_getElem? (i := 2) rfl)) (hw _ (List.mem_of_getElem? (i := 13) rfl)) E_a (by decide) (rmT l Z a0 hw n0 b1 (0 : Int32) mi (1 : Int32) (0 : Int32) h14 Z0 gn_b1 E_a F_l F_m (by decide) (by decide)) d0_250 (lenOf pd___Z rfl) rfl rfl (Nat.le_of_ble_eq_true rfl) (Nat.le_of_ble_eq_true rfl) (k' := 1) (n' := 2) rfl rfl (Nat.le_of_ble_eq_true rfl) (Nat.le_of_ble_eq_true rfl) ?_
        rintro _ h15 ⟨rfl, Kc, E_a, F_l, F_m⟩
        have Z0 := Nat.le_trans Z0 Kc.1
        refine w_istore ok (Ls' := #[.val (.int nn), .val (.int fl), .val (.int cn), .val (.int z3), .val (.int z4), .val (.int z5), .val (.int z6), .val (.ref b1), .val (.int (1 : Int32)), .val (.int (2 : Int32)), .val (.int (3 : Int32)), .val (.int (0 : Int32)), .val (.int (0 : Int32)), .val (.int (0 : Int32)), .val (.int (1 : Int32)), .unset]) d0_253 rfl ?_
        refine w_aload ok d0_255 rfl rfl ?_
        refine w_virtV ok (argsL := []) (rest := []) (hw _ (List.mem_of_getElem? (i := 9) rfl)) (hw _ (List.mem_of_getElem? (i := 10) rfl)) (hw _ (List.mem_of_getElem? (i := 12) rfl)) (hw _ (List.mem_of_getElem? (i := 11) rfl)) (hw _ (List.mem_of_getElem? (i := 2) rfl)) (hw _ (List.mem_of_getElem? (i := 13) rfl)) E_a (by decide) (rmT l Z a0 hw n0 b1 (0 : Int32) mi (1 : Int32) (0 : Int32) h15 Z0 gn_b1 E_a F_l F_m (by decide) (by decide)) d0_257 (lenOf pd___Z rfl) rfl rfl (Nat.le_of_ble_eq_true rfl) (Nat.le_of_ble_eq_true rfl) (k' := 1) (n' := 2) rfl rfl (Nat.le_of_ble_eq_true rfl) (Nat.le_of_ble_eq_true rfl) ?_
        rintro _ h16 ⟨rfl, Kc, E_a, F_l, F_m⟩
        have Z0 := Nat.le_trans Z0 Kc.1
        refine w_istore ok (Ls' := #[.val (.int nn), .val (.int fl), .val (.int cn), .val (.int z3), .val (.int z4), .val (.int z5), .val (.int z6), .val (.ref b1), .val (.int (1 : Int32)), .val (.int (2 : Int32)), .val (.int (3 : Int32)), .val (.int (0 : Int32)), .val (.int (0 : Int32)), .val (.int (0 : Int32)), .val (.int (1 : Int32)), .val (.int (1 : Int32))]) d0_260 rfl ?_
        refine w_iload ok d0_262 rfl ?_
        refine w_if_eq ok d0_264 (fun q => absurd q (by decide)) (fun _ => ?_)
        refine w_iload ok d0_267 rfl ?_
        refine w_iconst ok (z := 0) d0_269 rfl ?_
        refine w_iload ok d0_270 rfl ?_
        refine w_ic_lt ok d0_272 (fun _ => ?_) (fun q => absurd (by decide) q)
        refine w_iconst ok (z := 0) d0_279 rfl ?_
        refine w_ic_ne ok d0_280 (fun q => absurd (by decide) q) (fun _ => ?_)
        refine w_iload ok d0_283 rfl ?_
        refine w_iconst ok (z := 1) d0_285 rfl ?_
        refine w_iload ok d0_286 rfl ?_
        refine w_ic_lt ok d0_288 (fun _ => ?_) (fun q => absurd (by decide) q)
        refine w_iconst ok (z := 0) d0_295 rfl ?_
        refine w_ic_ne ok d0_296 (fun q => absurd (by decide) q) (fun _ => ?_)
        refine w_iload ok d0_299 rfl ?_
        refine w_iconst ok (z := 2) d0_301 rfl ?_
        refine w_iload ok d0_302 rfl ?_
        refine w_ic_lt ok d0_304 (fun _ => ?_) (fun q => absurd (by decide) q)
        refine w_iconst ok (z := 0) d0_311 rfl ?_
        refine w_ic_ne ok d0_312 (fun q => absurd (by decide) q) (fun _ => ?_)
        refine w_iload ok d0_315 rfl ?_
        refine w_iconst ok (z := 3) d0_317 rfl ?_
        refine w_iload ok d0_318 rfl ?_
        refine w_ic_lt ok d0_320 (fun q => absurd q (by decide)) (fun _ => ?_)
        refine w_iconst ok (z := 1) d0_323 rfl ?_
        refine w_goto ok d0_324 ?_
        refine w_ic_ne ok d0_328 (fun q => absurd (by decide) q) (fun _ => ?_)
        refine w_iload ok d0_331 rfl ?_
        refine w_iconst ok (z := 4) d0_333 rfl ?_
        refine w_iload ok d0_334 rfl ?_
        refine w_ic_lt ok d0_336 (fun q => absurd q (by decide)) (fun _ => ?_)
        refine w_iconst ok (z := 1) d0_339 rfl ?_
        refine w_goto ok d0_340 ?_
        refine w_ic_ne ok d0_344 (fun q => absurd (by decide) q) (fun _ => ?_)
        refine w_iconst ok (z := 1) d0_347 rfl ?_
        refine w_goto ok d0_348 ?_
        refine w_ireturnN ok (by simp) d0_352 (Nat.le_of_ble_eq_true rfl) (Nat.le_of_ble_eq_true rfl) ?_
        exact ⟨_, rfl, rfl⟩
      · refine w_iconst ok (z := 1) d0_219 rfl ?_
        refine w_iload ok d0_220 rfl ?_
        refine w_ishl ok d0_222 ?_
        refine w_int (b := 8) (by decide) ?_
        refine w_iconst ok (z := 1) d0_223 rfl ?_
        refine w_isub ok d0_224 ?_
        refine w_int (b := 7) (by decide) ?_
        refine w_istore ok (Ls' := #[.val (.int nn), .val (.int fl), .val (.int cn), .val (.int z3), .val (.int z4), .val (.int z5), .val (.int z6), .val (.ref b1), .val (.int (1 : Int32)), .val (.int (3 : Int32)), .val (.int (7 : Int32)), .unset, .unset, .unset, .unset, .unset]) d0_225 rfl ?_
        refine w_aload ok d0_227 rfl rfl ?_
        refine w_virtV ok (argsL := []) (rest := []) (hw _ (List.mem_of_getElem? (i := 9) rfl)) (hw _ (List.mem_of_getElem? (i := 10) rfl)) (hw _ (List.mem_of_getElem? (i := 12) rfl)) (hw _ (List.mem_of_getElem? (i := 11) rfl)) (hw _ (List.mem_of_getElem? (i := 2) rfl)) (hw _ (List.mem_of_getElem? (i := 13) rfl)) E_a (by decide) (rmT l Z a0 hw n0 b1 (7 : Int32) mi (0 : Int32) (6 : Int32) hh Z0 gn_b1 E_a F_l F_m (by decide) (by decide)) d0_229 (lenOf pd___Z rfl) rfl rfl (Nat.le_of_ble_eq_true rfl) (Nat.le_of_ble_eq_true rfl) (k' := 1) (n' := 2) rfl rfl (Nat.le_of_ble_eq_true rfl) (Nat.le_of_ble_eq_true rfl) ?_
        rintro _ h17 ⟨rfl, Kc, E_a, F_l, F_m⟩
        have Z0 := Nat.le_trans Z0 Kc.1
        refine w_istore ok (Ls' := #[.val (.int nn), .val (.int fl), .val (.int cn), .val (.int z3), .val (.int z4), .val (.int z5), .val (.int z6), .val (.ref b1), .val (.int (1 : Int32)), .val (.int (3 : Int32)), .val (.int (7 : Int32)), .val (.int (0 : Int32)), .unset, .unset, .unset, .unset]) d0_232 rfl ?_
        refine w_aload ok d0_234 rfl rfl ?_
        refine w_virtV ok (argsL := []) (rest := []) (hw _ (List.mem_of_getElem? (i := 9) rfl)) (hw _ (List.mem_of_getElem? (i := 10) rfl)) (hw _ (List.mem_of_getElem? (i := 12) rfl)) (hw _ (List.mem_of_getElem? (i := 11) rfl)) (hw _ (List.mem_of_getElem? (i := 2) rfl)) (hw _ (List.mem_of_getElem? (i := 13) rfl)) E_a (by decide) (rmT l Z a0 hw n0 b1 (6 : Int32) mi (0 : Int32) (5 : Int32) h17 Z0 gn_b1 E_a F_l F_m (by decide) (by decide)) d0_236 (lenOf pd___Z rfl) rfl rfl (Nat.le_of_ble_eq_true rfl) (Nat.le_of_ble_eq_true rfl) (k' := 1) (n' := 2) rfl rfl (Nat.le_of_ble_eq_true rfl) (Nat.le_of_ble_eq_true rfl) ?_
        rintro _ h18 ⟨rfl, Kc, E_a, F_l, F_m⟩
        have Z0 := Nat.le_trans Z0 Kc.1
        refine w_istore ok (Ls' := #[.val (.int nn), .val (.int fl), .val (.int cn), .val (.int z3), .val (.int z4), .val (.int z5), .val (.int z6), .val (.ref b1), .val (.int (1 : Int32)), .val (.int (3 : Int32)), .val (.int (7 : Int32)), .val (.int (0 : Int32)), .val (.int (0 : Int32)), .unset, .unset, .unset]) d0_239 rfl ?_
        refine w_aload ok d0_241 rfl rfl ?_
        refine w_virtV ok (argsL := []) (rest := []) (hw _ (List.mem_of_getElem? (i := 9) rfl)) (hw _ (List.mem_of_getElem? (i := 10) rfl)) (hw _ (List.mem_of_getElem? (i := 12) rfl)) (hw _ (List.mem_of_getElem? (i := 11) rfl)) (hw _ (List.mem_of_getElem? (i := 2) rfl)) (hw _ (List.mem_of_getElem? (i := 13) rfl)) E_a (by decide) (rmT l Z a0 hw n0 b1 (5 : Int32) mi (0 : Int32) (4 : Int32) h18 Z0 gn_b1 E_a F_l F_m (by decide) (by decide)) d0_243 (lenOf pd___Z rfl) rfl rfl (Nat.le_of_ble_eq_true rfl) (Nat.le_of_ble_eq_true rfl) (k' := 1) (n' := 2) rfl rfl (Nat.le_of_ble_eq_true rfl) (Nat.le_of_ble_eq_true rfl) ?_
        rintro _ h19 ⟨rfl, Kc, E_a, F_l, F_m⟩
        have Z0 := Nat.le_trans Z0 Kc.1
        refine w_istore ok (Ls' := #[.val (.int nn), .val (.int fl), .val (.int cn), .val (.int z3), .val (.int z4), .val (.int z5), .val (.int z6), .val (.ref b1), .val (.int (1 : Int32)), .val (.int (3 : Int32)), .val (.int (7 : Int32)), .val (.int (0 : Int32)), .val (.int (0 : Int32)), .val (.int (0 : Int32)), .unset, .unset]) d0_246 rfl ?_
        refine w_aload ok d0_248 rfl rfl ?_
        refine w_virtV ok (argsL := []) (rest := []) (hw _ (List.mem_of_getElem? (i := 9) rfl)) (hw _ (List.mem_of_getElem? (i := 10) rfl)) (hw _ (List.mem_of_getElem? (i := 12) rfl)) (hw _ (List.mem_of_getElem? (i := 11) rfl)) (hw _ (List.mem_of_getElem? (i := 2) rfl)) (hw _ (List.mem_of_getElem? (i := 13) rfl)) E_a (by decide) (rmT l Z a0 hw n0 b1 (4 : Int32) mi (0 : Int32) (3 : Int32) h19 Z0 gn_b1 E_a F_l F_m (by decide) (by decide)) d0_250 (lenOf pd___Z rfl) rfl rfl (Nat.le_of_ble_eq_true rfl) (Nat.le_of_ble_eq_true rfl) (k' := 1) (n' := 2) rfl rfl (Nat.le_of_ble_eq_true rfl) (Nat.le_of_ble_eq_true rfl) ?_
        rintro _ h20 ⟨rfl, Kc, E_a, F_l, F_m⟩
        have Z0 := Nat.le_trans Z0 Kc.1
        refine w_istore ok (Ls' := #[.val (.int nn), .val (.int fl), .val (.int cn), .val (.int z3), .val (.int z4), .val (.int z5), .val (.int z6), .val (.ref b1), .val (.int (1 : Int32)), .val (.int (3 : Int32)), .val (.int (7 : Int32)), .val (.int (0 : Int32)), .val (.int (0 : Int32)), .val (.int (0 : Int32)), .val (.int (0 : Int32)), .unset]) d0_253 rfl ?_
        refine w_aload ok d0_255 rfl rfl ?_
        refine w_virtV ok (argsL := []) (rest := []) (hw _ (List.mem_of_getElem? (i := 9) rfl)) (hw _ (List.mem_of_getElem? (i := 10) rfl)) (hw _ (List.mem_of_getElem? (i := 12) rfl)) (hw _ (List.mem_of_getElem? (i := 11) rfl)) (hw _ (List.mem_of_getElem? (i := 2) rfl)) (hw _ (List.mem_of_getElem? (i := 13) rfl)) E_a (by decide) (rmT l Z a0 hw n0 b1 (3 : Int32) mi (0 : Int32) (2 : Int32) h20 Z0 gn_b1 E_a F_l F_m (by decide) (by decide)) d0_257 (lenOf pd___Z rfl) rfl rfl (Nat.le_of_ble_eq_true rfl) (Nat.le_of_ble_eq_true rfl) (k' := 1) (n' := 2) rfl rfl (Nat.le_of_ble_eq_true rfl) (Nat.le_of_ble_eq_true rfl) ?_
        rintro _ h21 ⟨rfl, Kc, E_a, F_l, F_m⟩
        have Z0 := Nat.le_trans Z0 Kc.1
        refine w_istore ok (Ls' := #[.val (.int nn), .val (.int fl), .val (.int cn), .val (.int z3), .val (.int z4), .val (.int z5), .val (.int z6), .val (.ref b1), .val (.int (1 : Int32)), .val (.int (3 : Int32)), .val (.int (7 : Int32)), .val (.int (0 : Int32)), .val (.int (0 : Int32)), .val (.int (0 : Int32)), .val (.int (0 : Int32)), .val (.int (0 : Int32))]) d0_260 rfl ?_
        refine w_iload ok d0_262 rfl ?_
        refine w_if_eq ok d0_264 (fun q => absurd q (by decide)) (fun _ => ?_)
        refine w_iload ok d0_267 rfl ?_
        refine w_iconst ok (z := 0) d0_269 rfl ?_
        refine w_iload ok d0_270 rfl ?_
        refine w_ic_lt ok d0_272 (fun _ => ?_) (fun q => absurd (by decide) q)
        refine w_iconst ok (z := 0) d0_279 rfl ?_
        refine w_ic_ne ok d0_280 (fun q => absurd (by decide) q) (fun _ => ?_)
        refine w_iload ok d0_283 rfl ?_
        refine w_iconst ok (z := 1) d0_285 rfl ?_
        refine w_iload ok d0_286 rfl ?_
        refine w_ic_lt ok d0_288 (fun _ => ?_) (fun q => absurd (by decide) q)
        refine w_iconst ok (z := 0) d0_295 rfl ?_
        refine w_ic_ne ok d0_296 (fun q => absurd (by decide) q) (fun _ => ?_)
        refine w_iload ok d0_299 rfl ?_
        refine w_iconst ok (z := 2) d0_301 rfl ?_
        refine w_iload ok d0_302 rfl ?_
        refine w_ic_lt ok d0_304 (fun _ => ?_) (fun q => absurd (by decide) q)
        refine w_iconst ok (z := 0) d0_311 rfl ?_
        refine w_ic_ne ok d0_312 (fun q => absurd (by decide) q) (fun _ => ?_)
        refine w_iload ok d0_315 rfl ?_
        refine w_iconst ok (z := 3) d0_317 rfl ?_
        refine w_iload ok d0_318 rfl ?_
        refine w_ic_lt ok d0_320 (fun _ => ?_) (fun q => absurd (by decide) q)
        refine w_iconst ok (z := 0) d0_327 rfl ?_
        refine w_ic_ne ok d0_328 (fun q => absurd (by decide) q) (fun _ => ?_)
        refine w_iload ok d0_331 rfl ?_
        refine w_iconst ok (z := 4) d0_333 rfl ?_
        refine w_iload ok d0_334 rfl ?_
        refine w_ic_lt ok d0_336 (fun _ => ?_) (fun q => absurd (by decide) q)
        refine w_iconst ok (z := 0) d0_343 rfl ?_
        refine w_ic_ne ok d0_344 (fun q => absurd (by decide) q) (fun _ => ?_)
        refine w_iconst ok (z := 1) d0_347 rfl ?_
        refine w_goto ok d0_348 ?_
        refine w_ireturnN ok (by simp) d0_352 (Nat.le_of_ble_eq_true rfl) (Nat.le_of_ble_eq_true rfl) ?_
        exact ⟨_, rfl, rfl⟩
    rcases hc with rfl | rfl | rfl | rfl
    · refine w_iloadN ok d0_68 rfl ?_
      refine w_iconst ok (z := 1) d0_69 rfl ?_
      refine w_ic_lt ok d0_70 (fun _ => ?_) (fun q => absurd (by decide) q)
      refine w_iloadN ok d0_79 rfl ?_
      refine w_iconst ok (z := 2) d0_80 rfl ?_
      refine w_ic_lt ok d0_81 (fun _ => ?_) (fun q => absurd (by decide) q)
      refine w_iloadN ok d0_109 rfl ?_
      refine w_iconst ok (z := 2) d0_110 rfl ?_
      refine w_ic_lt ok d0_111 (fun _ => ?_) (fun q => absurd (by decide) q)
      refine w_iloadN ok d0_121 rfl ?_
      refine w_iconst ok (z := 3) d0_122 rfl ?_
      refine w_ic_lt ok d0_123 (fun _ => ?_) (fun q => absurd (by decide) q)
      refine w_iloadN ok d0_133 rfl ?_
      refine w_if_ne ok d0_134 (fun q => absurd (by decide) q) (fun _ => ?_)
      refine w_iconst ok (z := 0) d0_137 rfl ?_
      refine w_istore ok (Ls' := #[.val (.int nn), .val (.int fl), .val (.int (0 : Int32)), .val (.int z3), .val (.int z4), .val (.int z5), .val (.int z6), .val (.ref b1), .val (.int (1 : Int32)), .val (.int (0 : Int32)), .unset, .unset, .unset, .unset, .unset, .unset]) d0_138 rfl ?_
      refine w_goto ok d0_140 ?_
      exact JM _ _ _ _ Z0 E_a F_l F_m (by decide)
    · rcases hz3 with rfl | rfl
      · refine w_iloadN ok d0_68 rfl ?_
        refine w_iconst ok (z := 1) d0_69 rfl ?_
        refine w_ic_lt ok d0_70 (fun q => absurd q (by decide)) (fun _ => ?_)
        refine w_aload ok d0_73 rfl rfl ?_
        refine w_iloadN ok d0_75 rfl ?_
        refine w_virtN ok (argsL := [(.int (0 : Int32))]) (rest := []) (hw _ (List.mem_of_getElem? (i := 16) rfl)) (hw _ (List.mem_of_getElem? (i := 17) rfl)) (hw _ (List.mem_of_getElem? (i := 19) rfl)) (hw _ (List.mem_of_getElem? (i := 18) rfl)) (hw _ (List.mem_of_getElem? (i := 2) rfl)) (hw _ (List.mem_of_getElem? (i := 20) rfl)) E_a (by decide) (rmS l Z a0 hw n0 b1 (0 : Int32) (0 : Int32) (0 : Int32) (1 : Int32) h1 Z0 gn_b1 E_a F_l F_m (by decide)) d0_76 (lenOf pd__Z_V rfl) rfl rfl (Nat.le_of_ble_eq_true rfl) (Nat.le_of_ble_eq_true rfl) (k' := 1) (n' := 2) rfl rfl (Nat.le_of_ble_eq_true rfl) (Nat.le_of_ble_eq_true rfl) ?_
        rintro h22 ⟨Kc, E_a, F_l, F_m⟩
        have Z0 := Nat.le_trans Z0 Kc.1
        refine w_iloadN ok d0_79 rfl ?_
        refine w_iconst ok (z := 2) d0_80 rfl ?_
        refine w_ic_lt ok d0_81 (fun _ => ?_) (fun q => absurd (by decide) q)
        refine w_iloadN ok d0_109 rfl ?_
        refine w_iconst ok (z := 2) d0_110 rfl ?_
        refine w_ic_lt ok d0_111 (fun _ => ?_) (fun q => absurd (by decide) q)
        refine w_iloadN ok d0_121 rfl ?_
        refine w_iconst ok (z := 3) d0_122 rfl ?_
        refine w_ic_lt ok d0_123 (fun _ => ?_) (fun q => absurd (by decide) q)
        refine w_iloadN ok d0_133 rfl ?_
        refine w_if_ne ok d0_134 (fun _ => ?_) (fun q => absurd q (by decide))
        refine w_iloadN ok d0_143 rfl ?_
        refine w_iconst ok (z := 1) d0_144 rfl ?_
        refine w_ic_ne ok d0_145 (fun q => absurd (by decide) q) (fun _ => ?_)
        refine w_iloadN ok d0_148 rfl ?_
        refine w_if_eq ok d0_149 (fun _ => ?_) (fun q => absurd (by decide) q)
        refine w_iconst ok (z := 1) d0_156 rfl ?_
        refine w_istore ok (Ls' := #[.val (.int nn), .val (.int fl), .val (.int (1 : Int32)), .val (.int (0 : Int32)), .val (.int z4), .val (.int z5), .val (.int z6), .val (.ref b1), .val (.int (1 : Int32)), .val (.int (1 : Int32)), .unset, .unset, .unset, .unset, .unset, .unset]) d0_157 rfl ?_
        refine w_goto ok d0_159 ?_
        exact JM _ _ _ _ Z0 E_a F_l F_m (by decide)
      · refine w_iloadN ok d0_68 rfl ?_
        refine w_iconst ok (z := 1) d0_69 rfl ?_
        refine w_ic_lt ok d0_70 (fun q => absurd q (by decide)) (fun _ => ?_)
        refine w_aload ok d0_73 rfl rfl ?_
        refine w_iloadN ok d0_75 rfl ?_
        refine w_virtN ok (argsL := [(.int (1 : Int32))]) (rest := []) (hw _ (List.mem_of_getElem? (i := 16) rfl)) (hw _ (List.mem_of_getElem? (i := 17) rfl)) (hw _ (List.mem_of_getElem? (i := 19) rfl)) (hw _ (List.mem_of_getElem? (i := 18) rfl)) (hw _ (List.mem_of_getElem? (i := 2) rfl)) (hw _ (List.mem_of_getElem? (i := 20) rfl)) E_a (by decide) (rmS l Z a0 hw n0 b1 (1 : Int32) (0 : Int32) (0 : Int32) (0 : Int32) h1 Z0 gn_b1 E_a F_l F_m (by decide)) d0_76 (lenOf pd__Z_V rfl) rfl rfl (Nat.le_of_ble_eq_true rfl) (Nat.le_of_ble_eq_true rfl) (k' := 1) (n' := 2) rfl rfl (Nat.le_of_ble_eq_true rfl) (Nat.le_of_ble_eq_true rfl) ?_
        rintro h23 ⟨Kc, E_a, F_l, F_m⟩
        have Z0 := Nat.le_trans Z0 Kc.1
        refine w_iloadN ok d0_79 rfl ?_
        refine w_iconst ok (z := 2) d0_80 rfl ?_
        refine w_ic_lt ok d0_81 (fun _ => ?_) (fun q => absurd (by decide) q)
        refine w_iloadN ok d0_109 rfl ?_
        refine w_iconst ok (z := 2) d0_110 rfl ?_
        refine w_ic_lt ok d0_111 (fun _ => ?_) (fun q => absurd (by decide) q)
        refine w_iloadN ok d0_121 rfl ?_
        refine w_iconst ok (z := 3) d0_122 rfl ?_
        refine w_ic_lt ok d0_123 (fun _ => ?_) (fun q => absurd (by decide) q)
        refine w_iloadN ok d0_133 rfl ?_
        refine w_if_ne ok d0_134 (fun _ => ?_) (fun q => absurd q (by decide))
        refine w_iloadN ok d0_143 rfl ?_
        refine w_iconst ok (z := 1) d0_144 rfl ?_
        refine w_ic_ne ok d0_145 (fun q => absurd (by decide) q) (fun _ => ?_)
        refine w_iloadN ok d0_148 rfl ?_
        refine w_if_eq ok d0_149 (fun q => absurd q (by decide)) (fun _ => ?_)
        refine w_iconst ok (z := 0) d0_152 rfl ?_
        refine w_goto ok d0_153 ?_
        refine w_istore ok (Ls' := #[.val (.int nn), .val (.int fl), .val (.int (1 : Int32)), .val (.int (1 : Int32)), .val (.int z4), .val (.int z5), .val (.int z6), .val (.ref b1), .val (.int (1 : Int32)), .val (.int (0 : Int32)), .unset, .unset, .unset, .unset, .unset, .unset]) d0_157 rfl ?_
        refine w_goto ok d0_159 ?_
        exact JM _ _ _ _ Z0 E_a F_l F_m (by decide)
    · rcases hz3 with rfl | rfl
      · rcases hz6 with rfl | rfl
        · rcases hz4 with rfl | rfl
          · refine w_iloadN ok d0_68 rfl ?_
            refine w_iconst ok (z := 1) d0_69 rfl ?_
            refine w_ic_lt ok d0_70 (fun q => absurd q (by decide)) (fun _ => ?_)
            refine w_aload ok d0_73 rfl rfl ?_
            refine w_iloadN ok d0_75 rfl ?_
            refine w_virtN ok (argsL := [(.int (0 : Int32))]) (rest := []) (hw _ (List.mem_of_getElem? (i := 16) rfl)) (hw _ (List.mem_of_getElem? (i := 17) rfl)) (hw _ (List.mem_of_getElem? (i := 19) rfl)) (hw _ (List.mem_of_getElem? (i := 18) rfl)) (hw _ (List.mem_of_getElem? (i := 2) rfl)) (hw _ (List.mem_of_getElem? (i := 20) rfl)) E_a (by decide) (rmS l Z a0 hw n0 b1 (0 : Int32) (0 : Int32) (0 : Int32) (1 : Int32) h1 Z0 gn_b1 E_a F_l F_m (by decide)) d0_76 (lenOf pd__Z_V rfl) rfl rfl (Nat.le_of_ble_eq_true rfl) (Nat.le_of_ble_eq_true rfl) (k' := 1) (n' := 2) rfl rfl (Nat.le_of_ble_eq_true rfl) (Nat.le_of_ble_eq_true rfl) ?_
            rintro h24 ⟨Kc, E_a, F_l, F_m⟩
            have Z0 := Nat.le_trans Z0 Kc.1
            refine w_iloadN ok d0_79 rfl ?_
            refine w_iconst ok (z := 2) d0_80 rfl ?_
            refine w_ic_lt ok d0_81 (fun q => absurd q (by decide)) (fun _ => ?_)
            refine w_iload ok d0_84 rfl ?_
            refine w_if_eq ok d0_86 (fun _ => ?_) (fun q => absurd (by decide) q)
            refine w_iloadN ok d0_109 rfl ?_
            refine w_iconst ok (z := 2) d0_110 rfl ?_
            refine w_ic_lt ok d0_111 (fun q => absurd q (by decide)) (fun _ => ?_)
            refine w_aload ok d0_114 rfl rfl ?_
            refine w_iload ok d0_116 rfl ?_
            refine w_virtN ok (argsL := [(.int (0 : Int32))]) (rest := []) (hw _ (List.mem_of_getElem? (i := 16) rfl)) (hw _ (List.mem_of_getElem? (i := 17) rfl)) (hw _ (List.mem_of_getElem? (i := 19) rfl)) (hw _ (List.mem_of_getElem? (i := 18) rfl)) (hw _ (List.mem_of_getElem? (i := 2) rfl)) (hw _ (List.mem_of_getElem? (i := 20) rfl)) E_a (by decide) (rmS l Z a0 hw n0 b1 (0 : Int32) (1 : Int32) (1 : Int32) (3 : Int32) h24 Z0 gn_b1 E_a F_l F_m (by decide)) d0_118 (lenOf pd__Z_V rfl) rfl rfl (Nat.le_of_ble_eq_true rfl) (Nat.le_of_ble_eq_true rfl) (k' := 1) (n' := 2) rfl rfl (Nat.le_of_ble_eq_true rfl) (Nat.le_of_ble_eq_true rfl) ?_
            rintro h25 ⟨Kc, E_a, F_l, F_m⟩
            have Z0 := Nat.le_trans Z0 Kc.1
            refine w_iloadN ok d0_121 rfl ?_
            refine w_iconst ok (z := 3) d0_122 rfl ?_
            refine w_ic_lt ok d0_123 (fun _ => ?_) (fun q => absurd (by decide) q)
            refine w_iloadN ok d0_133 rfl ?_
            refine w_if_ne ok d0_134 (fun _ => ?_) (fun q => absurd q (by decide))
            refine w_iloadN ok d0_143 rfl ?_
            refine w_iconst ok (z := 1) d0_144 rfl ?_
            refine w_ic_ne ok d0_145 (fun _ => ?_) (fun q => absurd q (by decide))
            refine w_iloadN ok d0_162 rfl ?_
            refine w_iconst ok (z := 2) d0_163 rfl ?_
            refine w_ic_ne ok d0_164 (fun q => absurd (by decide) q) (fun _ => ?_)
            refine w_iload ok d0_167 rfl ?_
            refine w_if_eq ok d0_169 (fun _ => ?_) (fun q => absurd (by decide) q)
            refine w_iloadN ok d0_176 rfl ?_
            refine w_if_eq ok d0_177 (fun _ => ?_) (fun q => absurd (by decide) q)
            refine w_iconst ok (z := 2) d0_184 rfl ?_
            refine w_istore ok (Ls' := #[.val (.int nn), .val (.int fl), .val (.int (2 : Int32)), .val (.int (0 : Int32)), .val (.int (0 : Int32)), .val (.int z5), .val (.int (0 : Int32)), .val (.ref b1), .val (.int (1 : Int32)), .val (.int (2 : Int32)), .unset, .unset, .unset, .unset, .unset, .unset]) d0_185 rfl ?_
            refine w_goto ok d0_187 ?_
            exact JM _ _ _ _ Z0 E_a F_l F_m (by decide)
          · refine w_iloadN ok d0_68 rfl ?_
            refine w_iconst ok (z := 1) d0_69 rfl ?_
            refine w_ic_lt ok d0_70 (fun q => absurd q (by decide)) (fun _ => ?_)
            refine w_aload ok d0_73 rfl rfl ?_
            refine w_iloadN ok d0_75 rfl ?_
            refine w_virtN ok (argsL := [(.int (0 : Int32))]) (rest := []) (hw _ (List.mem_of_getElem? (i := 16) rfl)) (hw _ (List.mem_of_getElem? (i := 17) rfl)) (hw _ (List.mem_of_getElem? (i := 19) rfl)) (hw _ (List.mem_of_getElem? (i := 18) rfl)) (hw _ (List.mem_of_getElem? (i := 2) rfl)) (hw _ (List.mem_of_getElem? (i := 20) rfl)) E_a (by decide) (rmS l Z a0 hw n0 b1 (0 : Int32) (0 : Int32) (0 : Int32) (1 : Int32) h1 Z0 gn_b1 E_a F_l F_m (by decide)) d0_76 (lenOf pd__Z_V rfl) rfl rfl (Nat.le_of_ble_eq_true rfl) (Nat.le_of_ble_eq_true rfl) (k' := 1) (n' := 2) rfl rfl (Nat.le_of_ble_eq_true rfl) (Nat.le_of_ble_eq_true rfl) ?_
            rintro h26 ⟨Kc, E_a, F_l, F_m⟩
            have Z0 := Nat.le_trans Z0 Kc.1
            refine w_iloadN ok d0_79 rfl ?_
            refine w_iconst ok (z := 2) d0_80 rfl ?_
            refine w_ic_lt ok d0_81 (fun q => absurd q (by decide)) (fun _ => ?_)
            refine w_iload ok d0_84 rfl ?_
            refine w_if_eq ok d0_86 (fun _ => ?_) (fun q => absurd (by decide) q)
            refine w_iloadN ok d0_109 rfl ?_
            refine w_iconst ok (z := 2) d0_110 rfl ?_
            refine w_ic_lt ok d0_111 (fun q => absurd q (by decide)) (fun _ => ?_)
            refine w_aload ok d0_114 rfl rfl ?_
            refine w_iload ok d0_116 rfl ?_
            refine w_virtN ok (argsL := [(.int (1 : Int32))]) (rest := []) (hw _ (List.mem_of_getElem? (i := 16) rfl)) (hw _ (List.mem_of_getElem? (i := 17) rfl)) (hw _ (List.mem_of_getElem? (i := 19) rfl)) (hw _ (List.mem_of_getElem? (i := 18) rfl)) (hw _ (List.mem_of_getElem? (i := 2) rfl)) (hw _ (List.mem_of_getElem? (i := 20) rfl)) E_a (by decide) (rmS l Z a0 hw n0 b1 (1 : Int32) (1 : Int32) (1 : Int32) (0 : Int32) h26 Z0 gn_b1 E_a F_l F_m (by decide)) d0_118 (lenOf pd__Z_V rfl) rfl rfl (Nat.le_of_ble_eq_true rfl) (Nat.le_of_ble_eq_true rfl) (k' := 1) (n' := 2) rfl rfl (Nat.le_of_ble_eq_true rfl) (Nat.le_of_ble_eq_true rfl) ?_
            rintro h27 ⟨Kc, E_a, F_l, F_m⟩
            have Z0 := Nat.le_trans Z0 Kc.1
            refine w_iloadN ok d0_121 rfl ?_
            refine w_iconst ok (z := 3) d0_122 rfl ?_
            refine w_ic_lt ok d0_123 (fun _ => ?_) (fun q => absurd (by decide) q)
            refine w_iloadN ok d0_133 rfl ?_
            refine w_if_ne ok d0_134 (fun _ => ?_) (fun q => absurd q (by decide))
            refine w_iloadN ok d0_143 rfl ?_
            refine w_iconst ok (z := 1) d0_144 rfl ?_
            refine w_ic_ne ok d0_145 (fun _ => ?_) (fun q => absurd q (by decide))
            refine w_iloadN ok d0_162 rfl ?_
            refine w_iconst ok (z := 2) d0_163 rfl ?_
            refine w_ic_ne ok d0_164 (fun q => absurd (by decide) q) (fun _ => ?_)
            refine w_iload ok d0_167 rfl ?_
            refine w_if_eq ok d0_169 (fun q => absurd q (by decide)) (fun _ => ?_)
            refine w_iconst ok (z := 0) d0_172 rfl ?_
            refine w_goto ok d0_173 ?_
            refine w_istore ok (Ls' := #[.val (.int nn), .val (.int fl), .val (.int (2 : Int32)), .val (.int (0 : Int32)), .val (.int (1 : Int32)), .val (.int z5), .val (.int (0 : Int32)), .val (.ref b1), .val (.int (1 : Int32)), .val (.int (0 : Int32)), .unset, .unset, .unset, .unset, .unset, .unset]) d0_185 rfl ?_
            refine w_goto ok d0_187 ?_
            exact JM _ _ _ _ Z0 E_a F_l F_m (by decide)
        · rcases hz4 with rfl | rfl
          · refine w_iloadN ok d0_68 rfl ?_
            refine w_iconst ok (z := 1) d0_69 rfl ?_
            refine w_ic_lt ok d0_70 (fun q => absurd q (by decide)) (fun _ => ?_)
            refine w_aload ok d0_73 rfl rfl ?_
            refine w_iloadN ok d0_75 rfl ?_
            refine w_virtN ok (argsL := [(.int (0 : Int32))]) (rest := []) (hw _ (List.mem_of_getElem? (i := 16) rfl)) (hw _ (List.mem_of_getElem? (i := 17) rfl)) (hw _ (List.mem_of_getElem? (i := 19) rfl)) (hw _ (List.mem_of_getElem? (i := 18) rfl)) (hw _ (List.mem_of_getElem? (i := 2) rfl)) (hw _ (List.mem_of_getElem? (i := 20) rfl)) E_a (by decide) (rmS l Z a0 hw n0 b1 (0 : Int32) (0 : Int32) (0 : Int32) (1 : Int32) h1 Z0 gn_b1 E_a F_l F_m (by decide)) d0_76 (lenOf pd__Z_V rfl) rfl rfl (Nat.le_of_ble_eq_true rfl) (Nat.le_of_ble_eq_true rfl) (k' := 1) (n' := 2) rfl rfl (Nat.le_of_ble_eq_true rfl) (Nat.le_of_ble_eq_true rfl) ?_
            rintro h28 ⟨Kc, E_a, F_l, F_m⟩
            have Z0 := Nat.le_trans Z0 Kc.1
            refine w_iloadN ok d0_79 rfl ?_
            refine w_iconst ok (z := 2) d0_80 rfl ?_
            refine w_ic_lt ok d0_81 (fun q => absurd q (by decide)) (fun _ => ?_)
            refine w_iload ok d0_84 rfl ?_
            refine w_if_eq ok d0_86 (fun q => absurd q (by decide)) (fun _ => ?_)
            refine w_aload ok d0_89 rfl rfl ?_
            refine w_virtV ok (argsL := []) (rest := []) (hw _ (List.mem_of_getElem? (i := 9) rfl)) (hw _ (List.mem_of_getElem? (i := 10) rfl)) (hw _ (List.mem_of_getElem? (i := 12) rfl)) (hw _ (List.mem_of_getElem? (i := 11) rfl)) (hw _ (List.mem_of_getElem? (i := 2) rfl)) (hw _ (List.mem_of_getElem? (i := 13) rfl)) E_a (by decide) (rmT l Z a0 hw n0 b1 (1 : Int32) (1 : Int32) (0 : Int32) (0 : Int32) h28 Z0 gn_b1 E_a F_l F_m (by decide) (by decide)) d0_91 (lenOf pd___Z rfl) rfl rfl (Nat.le_of_ble_eq_true rfl) (Nat.le_of_ble_eq_true rfl) (k' := 1) (n' := 2) rfl rfl (Nat.le_of_ble_eq_true rfl) (Nat.le_of_ble_eq_true rfl) ?_
            rintro _ h29 ⟨rfl, Kc, E_a, F_l, F_m⟩
            have Z0 := Nat.le_trans Z0 Kc.1
            refine w_istore ok (Ls' := #[.val (.int nn), .val (.int fl), .val (.int (2 : Int32)), .val (.int (0 : Int32)), .val (.int (0 : Int32)), .val (.int z5), .val (.int (1 : Int32)), .val (.ref b1), .val (.int (1 : Int32)), .val (.int (0 : Int32)), .unset, .unset, .unset, .unset, .unset, .unset]) d0_94 rfl ?_
            refine w_iload ok d0_96 rfl ?_
            refine w_iloadN ok d0_98 rfl ?_
            refine w_ic_ne ok d0_99 (fun q => absurd (by decide) q) (fun _ => ?_)
            refine w_iconst ok (z := 1) d0_102 rfl ?_
            refine w_goto ok d0_103 ?_
            refine w_istore ok (Ls' := #[.val (.int nn), .val (.int fl), .val (.int (2 : Int32)), .val (.int (0 : Int32)), .val (.int (0 : Int32)), .val (.int z5), .val (.int (1 : Int32)), .val (.ref b1), .val (.int (1 : Int32)), .val (.int (0 : Int32)), .unset, .unset, .unset, .unset, .unset, .unset]) d0_107 rfl ?_
            refine w_iloadN ok d0_109 rfl ?_
            refine w_iconst ok (z := 2) d0_110 rfl ?_
            refine w_ic_lt ok d0_111 (fun q => absurd q (by decide)) (fun _ => ?_)
            refine w_aload ok d0_114 rfl rfl ?_
            refine w_iload ok d0_116 rfl ?_
            refine w_virtN ok (argsL := [(.int (0 : Int32))]) (rest := []) (hw _ (List.mem_of_getElem? (i := 16) rfl)) (hw _ (List.mem_of_getElem? (i := 17) rfl)) (hw _ (List.mem_of_getElem? (i := 19) rfl)) (hw _ (List.mem_of_getElem? (i := 18) rfl)) (hw _ (List.mem_of_getElem? (i := 2) rfl)) (hw _ (List.mem_of_getElem? (i := 20) rfl)) E_a (by decide) (rmS l Z a0 hw n0 b1 (0 : Int32) (0 : Int32) (1 : Int32) (3 : Int32) h29 Z0 gn_b1 E_a F_l F_m (by decide)) d0_118 (lenOf pd__Z_V rfl) rfl rfl (Nat.le_of_ble_eq_true rfl) (Nat.le_of_ble_eq_true rfl) (k' := 1) (n' := 2) rfl rfl (Nat.le_of_ble_eq_true rfl) (Nat.le_of_ble_eq_true rfl) ?_
            rintro h30 ⟨Kc, E_a, F_l, F_m⟩
            have Z0 := Nat.le_trans Z0 Kc.1
            refine w_iloadN ok d0_121 rfl ?_
            refine w_iconst ok (z := 3) d0_122 rfl ?_
            refine w_ic_lt ok d0_123 (fun _ => ?_) (fun q => absurd (by decide) q)
            refine w_iloadN ok d0_133 rfl ?_
            refine w_if_ne ok d0_134 (fun _ => ?_) (fun q => absurd q (by decide))
            refine w_iloadN ok d0_143 rfl ?_
            refine w_iconst ok (z := 1) d0_144 rfl ?_
            refine w_ic_ne ok d0_145 (fun _ => ?_) (fun q => absurd q (by decide))
            refine w_iloadN ok d0_162 rfl ?_
            refine w_iconst ok (z := 2) d0_163 rfl ?_
            refine w_ic_ne ok d0_164 (fun q => absurd (by decide) q) (fun _ => ?_)
            refine w_iload ok d0_167 rfl ?_
            refine w_if_eq ok d0_169 (fun _ => ?_) (fun q => absurd (by decide) q)
            refine w_iloadN ok d0_176 rfl ?_
            refine w_if_eq ok d0_177 (fun _ => ?_) (fun q => absurd (by decide) q)
            refine w_iconst ok (z := 2) d0_184 rfl ?_
            refine w_istore ok (Ls' := #[.val (.int nn), .val (.int fl), .val (.int (2 : Int32)), .val (.int (0 : Int32)), .val (.int (0 : Int32)), .val (.int z5), .val (.int (1 : Int32)), .val (.ref b1), .val (.int (1 : Int32)), .val (.int (2 : Int32)), .unset, .unset, .unset, .unset, .unset, .unset]) d0_185 rfl ?_
            refine w_goto ok d0_187 ?_
            exact JM _ _ _ _ Z0 E_a F_l F_m (by decide)
          · refine w_iloadN ok d0_68 rfl ?_
            refine w_iconst ok (z := 1) d0_69 rfl ?_
            refine w_ic_lt ok d0_70 (fun q => absurd q (by decide)) (fun _ => ?_)
            refine w_aload ok d0_73 rfl rfl ?_
            refine w_iloadN ok d0_75 rfl ?_
            refine w_virtN ok (argsL := [(.int (0 : Int32))]) (rest := []) (hw _ (List.mem_of_getElem? (i := 16) rfl)) (hw _ (List.mem_of_getElem? (i := 17) rfl)) (hw _ (List.mem_of_getElem? (i := 19) rfl)) (hw _ (List.mem_of_getElem? (i := 18) rfl)) (hw _ (List.mem_of_getElem? (i := 2) rfl)) (hw _ (List.mem_of_getElem? (i := 20) rfl)) E_a (by decide) (rmS l Z a0 hw n0 b1 (0 : Int32) (0 : Int32) (0 : Int32) (1 : Int32) h1 Z0 gn_b1 E_a F_l F_m (by decide)) d0_76 (lenOf pd__Z_V rfl) rfl rfl (Nat.le_of_ble_eq_true rfl) (Nat.le_of_ble_eq_true rfl) (k' := 1) (n' := 2) rfl rfl (Nat.le_of_ble_eq_true rfl) (Nat.le_of_ble_eq_true rfl) ?_
            rintro h31 ⟨Kc, E_a, F_l, F_m⟩
            have Z0 := Nat.le_trans Z0 Kc.1
            refine w_iloadN ok d0_79 rfl ?_
            refine w_iconst ok (z := 2) d0_80 rfl ?_
            refine w_ic_lt ok d0_81 (fun q => absurd q (by decide)) (fun _ => ?_)
            refine w_iload ok d0_84 rfl ?_
            refine w_if_eq ok d0_86 (fun q => absurd q (by decide)) (fun _ => ?_)
            refine w_aload ok d0_89 rfl rfl ?_
            refine w_virtV ok (argsL := []) (rest := []) (hw _ (List.mem_of_getElem? (i := 9) rfl)) (hw _ (List.mem_of_getElem? (i := 10) rfl)) (hw _ (List.mem_of_getElem? (i := 12) rfl)) (hw _ (List.mem_of_getElem? (i := 11) rfl)) (hw _ (List.mem_of_getElem? (i := 2) rfl)) (hw _ (List.mem_of_getElem? (i := 13) rfl)) E_a (by decide) (rmT l Z a0 hw n0 b1 (1 : Int32) (1 : Int32) (0 : Int32) (0 : Int32) h31 Z0 gn_b1 E_a F_l F_m (by decide) (by decide)) d0_91 (lenOf pd___Z rfl) rfl rfl (Nat.le_of_ble_eq_true rfl) (Nat.le_of_ble_eq_true rfl) (k' := 1) (n' := 2) rfl rfl (Nat.le_of_ble_eq_true rfl) (Nat.le_of_ble_eq_true rfl) ?_
            rintro _ h32 ⟨rfl, Kc, E_a, F_l, F_m⟩
            have Z0 := Nat.le_trans Z0 Kc.1
            refine w_istore ok (Ls' := #[.val (.int nn), .val (.int fl), .val (.int (2 : Int32)), .val (.int (0 : Int32)), .val (.int (1 : Int32)), .val (.int z5), .val (.int (1 : Int32)), .val (.ref b1), .val (.int (1 : Int32)), .val (.int (0 : Int32)), .unset, .unset, .unset, .unset, .unset, .unset]) d0_94 rfl ?_
            refine w_iload ok d0_96 rfl ?_
            refine w_iloadN ok d0_98 rfl ?_
            refine w_ic_ne ok d0_99 (fun q => absurd (by decide) q) (fun _ => ?_)
            refine w_iconst ok (z := 1) d0_102 rfl ?_
            refine w_goto ok d0_103 ?_
            refine w_istore ok (Ls' := #[.val (.int nn), .val (.int fl), .val (.int (2 : Int32)), .val (.int (0 : Int32)), .val (.int (1 : Int32)), .val (.int z5), .val (.int (1 : Int32)), .val (.ref b1), .val (.int (1 : Int32)), .val (.int (0 : Int32)), .unset, .unset, .unset, .unset, .unset, .unset]) d0_107 rfl ?_
            refine w_iloadN ok d0_109 rfl ?_
            refine w_iconst ok (z := 2) d0_110 rfl ?_
            refine w_ic_lt ok d0_111 (fun q => absurd q (by decide)) (fun _ => ?_)
            refine w_aload ok d0_114 rfl rfl ?_
            refine w_iload ok d0_116 rfl ?_
            refine w_virtN ok (argsL := [(.int (1 : Int32))]) (rest := []) (hw _ (List.mem_of_getElem? (i := 16) rfl)) (hw _ (List.mem_of_getElem? (i := 17) rfl)) (hw _ (List.mem_of_getElem? (i := 19) rfl)) (hw _ (List.mem_of_getElem? (i := 18) rfl)) (hw _ (List.mem_of_getElem? (i := 2) rfl)) (hw _ (List.mem_of_getElem? (i := 20) rfl)) E_a (by decide) (rmS l Z a0 hw n0 b1 (1 : Int32) (0 : Int32) (1 : Int32) (0 : Int32) h32 Z0 gn_b1 E_a F_l F_m (by decide)) d0_118 (lenOf pd__Z_V rfl) rfl rfl (Nat.le_of_ble_eq_true rfl) (Nat.le_of_ble_eq_true rfl) (k' := 1) (n' := 2) rfl rfl (Nat.le_of_ble_eq_true rfl) (Nat.le_of_ble_eq_true rfl) ?_
            rintro h33 ⟨Kc, E_a, F_l, F_m⟩
            have Z0 := Nat.le_trans Z0 Kc.1
            refine w_iloadN ok d0_121 rfl ?_
            refine w_iconst ok (z := 3) d0_122 rfl ?_
            refine w_ic_lt ok d0_123 (fun _ => ?_) (fun q => absurd (by decide) q)
            refine w_iloadN ok d0_133 rfl ?_
            refine w_if_ne ok d0_134 (fun _ => ?_) (fun q => absurd q (by decide))
            refine w_iloadN ok d0_143 rfl ?_
            refine w_iconst ok (z := 1) d0_144 rfl ?_
            refine w_ic_ne ok d0_145 (fun _ => ?_) (fun q => absurd q (by decide))
            refine w_iloadN ok d0_162 rfl ?_
            refine w_iconst ok (z := 2) d0_163 rfl ?_
            refine w_ic_ne ok d0_164 (fun q => absurd (by decide) q) (fun _ => ?_)
            refine w_iload ok d0_167 rfl ?_
            refine w_if_eq ok d0_169 (fun q => absurd q (by decide)) (fun _ => ?_)
            refine w_iconst ok (z := 0) d0_172 rfl ?_
            refine w_goto ok d0_173 ?_
            refine w_istore ok (Ls' := #[.val (.int nn), .val (.int fl), .val (.int (2 : Int32)), .val (.int (0 : Int32)), .val (.int (1 : Int32)), .val (.int z5), .val (.int (1 : Int32)), .val (.ref b1), .val (.int (1 : Int32)), .val (.int (0 : Int32)), .unset, .unset, .unset, .unset, .unset, .unset]) d0_185 rfl ?_
            refine w_goto ok d0_187 ?_
            exact JM _ _ _ _ Z0 E_a F_l F_m (by decide)
      · rcases hz6 with rfl | rfl
        · rcases hz4 with rfl | rfl
          · refine w_iloadN ok d0_68 rfl ?_
            refine w_iconst ok (z := 1) d0_69 rfl ?_
            refine w_ic_lt ok d0_70 (fun q => absurd q (by decide)) (fun _ => ?_)
            refine w_aload ok d0_73 rfl rfl ?_
            refine w_iloadN ok d0_75 rfl ?_
            refine w_virtN ok (argsL := [(.int (1 : Int32))]) (rest := []) (hw _ (List.mem_of_getElem? (i := 16) rfl)) (hw _ (List.mem_of_getElem? (i := 17) rfl)) (hw _ (List.mem_of_getElem? (i := 19) rfl)) (hw _ (List.mem_of_getElem? (i := 18) rfl)) (hw _ (List.mem_of_getElem? (i := 2) rfl)) (hw _ (List.mem_of_getElem? (i := 20) rfl)) E_a (by decide) (rmS l Z a0 hw n0 b1 (1 : Int32) (0 : Int32) (0 : Int32) (0 : Int32) h1 Z0 gn_b1 E_a F_l F_m (by decide)) d0_76 (lenOf pd__Z_V rfl) rfl rfl (Nat.le_of_ble_eq_true rfl) (Nat.le_of_ble_eq_true rfl) (k' := 1) (n' := 2) rfl rfl (Nat.le_of_ble_eq_true rfl) (Nat.le_of_ble_eq_true rfl) ?_
            rintro h34 ⟨Kc, E_a, F_l, F_m⟩
            have Z0 := Nat.le_trans Z0 Kc.1
            refine w_iloadN ok d0_79 rfl ?_
            refine w_iconst ok (z := 2) d0_80 rfl ?_
            refine w_ic_lt ok d0_81 (fun q => absurd q (by decide)) (fun _ => ?_)
            refine w_iload ok d0_84 rfl ?_
            refine w_if_eq ok d0_86 (fun _ => ?_) (fun q => absurd (by decide) q)
            refine w_iloadN ok d0_109 rfl ?_
            refine w_iconst ok (z := 2) d0_110 rfl ?_
            refine w_ic_lt ok d0_111 (fun q => absurd q (by decide)) (fun _ => ?_)
            refine w_aload ok d0_114 rfl rfl ?_
            refine w_iload ok d0_116 rfl ?_
            refine w_virtN ok (argsL := [(.int (0 : Int32))]) (rest := []) (hw _ (List.mem_of_getElem? (i := 16) rfl)) (hw _ (List.mem_of_getElem? (i := 17) rfl)) (hw _ (List.mem_of_getElem? (i := 19) rfl)) (hw _ (List.mem_of_getElem? (i := 18) rfl)) (hw _ (List.mem_of_getElem? (i := 2) rfl)) (hw _ (List.mem_of_getElem? (i := 20) rfl)) E_a (by decide) (rmS l Z a0 hw n0 b1 (0 : Int32) (0 : Int32) (0 : Int32) (1 : Int32) h34 Z0 gn_b1 E_a F_l F_m (by decide)) d0_118 (lenOf pd__Z_V rfl) rfl rfl (Nat.le_of_ble_eq_true rfl) (Nat.le_of_ble_eq_true rfl) (k' := 1) (n' := 2) rfl rfl (Nat.le_of_ble_eq_true rfl) (Nat.le_of_ble_eq_true rfl) ?_
            rintro h35 ⟨Kc, E_a, F_l, F_m⟩
            have Z0 := Nat.le_trans Z0 Kc.1
            refine w_iloadN ok d0_121 rfl ?_
            refine w_iconst ok (z := 3) d0_122 rfl ?_
            refine w_ic_lt ok d0_123 (fun _ => ?_) (fun q => absurd (by decide) q)
            refine w_iloadN ok d0_133 rfl ?_
            refine w_if_ne ok d0_134 (fun _ => ?_) (fun q => absurd q (by decide))
            refine w_iloadN ok d0_143 rfl ?_
            refine w_iconst ok (z := 1) d0_144 rfl ?_
            refine w_ic_ne ok d0_145 (fun _ => ?_) (fun q => absurd q (by decide))
            refine w_iloadN ok d0_162 rfl ?_
            refine w_iconst ok (z := 2) d0_163 rfl ?_
            refine w_ic_ne ok d0_164 (fun q => absurd (by decide) q) (fun _ => ?_)
            refine w_iload ok d0_167 rfl ?_
            refine w_if_eq ok d0_169 (fun _ => ?_) (fun q => absurd (by decide) q)
            refine w_iloadN ok d0_176 rfl ?_
            refine w_if_eq ok d0_177 (fun q => absurd q (by decide)) (fun _ => ?_)
            refine w_iconst ok (z := 1) d0_180 rfl ?_
            refine w_goto ok d0_181 ?_
            refine w_istore ok (Ls' := #[.val (.int nn), .val (.int fl), .val (.int (2 : Int32)), .val (.int (1 : Int32)), .val (.int (0 : Int32)), .val (.int z5), .val (.int (0 : Int32)), .val (.ref b1), .val (.int (1 : Int32)), .val (.int (1 : Int32)), .unset, .unset, .unset, .unset, .unset, .unset]) d0_185 rfl ?_
            refine w_goto ok d0_187 ?_
            exact JM _ _ _ _ Z0 E_a F_l F_m (by decide)
          · refine w_iloadN ok d0_68 rfl ?_
            refine w_iconst ok (z := 1) d0_69 rfl ?_
            refine w_ic_lt ok d0_70 (fun q => absurd q (by decide)) (fun _ => ?_)
            refine w_aload ok d0_73 rfl rfl ?_
            refine w_iloadN ok d0_75 rfl ?_
            refine w_virtN ok (argsL := [(.int (1 : Int32))]) (rest := []) (hw _ (List.mem_of_getElem? (i := 16) rfl)) (hw _ (List.mem_of_getElem? (i := 17) rfl)) (hw _ (List.mem_of_getElem? (i := 19) rfl)) (hw _ (List.mem_of_getElem? (i := 18) rfl)) (hw _ (List.mem_of_getElem? (i := 2) rfl)) (hw _ (List.mem_of_getElem? (i := 20) rfl)) E_a (by decide) (rmS l Z a0 hw n0 b1 (1 : Int32) (0 : Int32) (0 : Int32) (0 : Int32) h1 Z0 gn_b1 E_a F_l F_m (by decide)) d0_76 (lenOf pd__Z_V rfl) rfl rfl (Nat.le_of_ble_eq_true rfl) (Nat.le_of_ble_eq_true rfl) (k' := 1) (n' := 2) rfl rfl (Nat.le_of_ble_eq_true rfl) (Nat.le_of_ble_eq_true rfl) ?_
            rintro h36 ⟨Kc, E_a, F_l, F_m⟩
            have Z0 := Nat.le_trans Z0 Kc.1
            refine w_iloadN ok d0_79 rfl ?_
            refine w_iconst ok (z := 2) d0_80 rfl ?_
            refine w_ic_lt ok d0_81 (fun q => absurd q (by decide)) (fun _ => ?_)
            refine w_iload ok d0_84 rfl ?_
            refine w_if_eq ok d0_86 (fun _ => ?_) (fun q => absurd (by decide) q)
            refine w_iloadN ok d0_109 rfl ?_
            refine w_iconst ok (z := 2) d0_110 rfl ?_
            refine w_ic_lt ok d0_111 (fun q => absurd q (by decide)) (fun _ => ?_)
            refine w_aload ok d0_114 rfl rfl ?_
            refine w_iload ok d0_116 rfl ?_
            refine w_virtN ok (argsL := [(.int (1 : Int32))]) (rest := []) (hw _ (List.mem_of_getElem? (i := 16) rfl)) (hw _ (List.mem_of_getElem? (i := 17) rfl)) (hw _ (List.mem_of_getElem? (i := 19) rfl)) (hw _ (List.mem_of_getElem? (i := 18) rfl)) (hw _ (List.mem_of_getElem? (i := 2) rfl)) (hw _ (List.mem_of_getElem? (i := 20) rfl)) E_a (by decide) (rmS l Z a0 hw n0 b1 (1 : Int32) (0 : Int32) (0 : Int32) (0 : Int32) h36 Z0 gn_b1 E_a F_l F_m (by decide)) d0_118 (lenOf pd__Z_V rfl) rfl rfl (Nat.le_of_ble_eq_true rfl) (Nat.le_of_ble_eq_true rfl) (k' := 1) (n' := 2) rfl rfl (Nat.le_of_ble_eq_true rfl) (Nat.le_of_ble_eq_true rfl) ?_
            rintro h37 ⟨Kc, E_a, F_l, F_m⟩
            have Z0 := Nat.le_trans Z0 Kc.1
            refine w_iloadN ok d0_121 rfl ?_
            refine w_iconst ok (z := 3) d0_122 rfl ?_
            refine w_ic_lt ok d0_123 (fun _ => ?_) (fun q => absurd (by decide) q)
            refine w_iloadN ok d0_133 rfl ?_
            refine w_if_ne ok d0_134 (fun _ => ?_) (fun q => absurd q (by decide))
            refine w_iloadN ok d0_143 rfl ?_
            refine w_iconst ok (z := 1) d0_144 rfl ?_
            refine w_ic_ne ok d0_145 (fun _ => ?_) (fun q => absurd q (by decide))
            refine w_iloadN ok d0_162 rfl ?_
            refine w_iconst ok (z := 2) d0_163 rfl ?_
            refine w_ic_ne ok d0_164 (fun q => absurd (by decide) q) (fun _ => ?_)
            refine w_iload ok d0_167 rfl ?_
            refine w_if_eq ok d0_169 (fun q => absurd q (by decide)) (fun _ => ?_)
            refine w_iconst ok (z := 0) d0_172 rfl ?_
            refine w_goto ok d0_173 ?_
            refine w_istore ok (Ls' := #[.val (.int nn), .val (.int fl), .val (.int (2 : Int32)), .val (.int (1 : Int32)), .val (.int (1 : Int32)), .val (.int z5), .val (.int (0 : Int32)), .val (.ref b1), .val (.int (1 : Int32)), .val (.int (0 : Int32)), .unset, .unset, .unset, .unset, .unset, .unset]) d0_185 rfl ?_
            refine w_goto ok d0_187 ?_
            exact JM _ _ _ _ Z0 E_a F_l F_m (by decide)
        · rcases hz4 with rfl | rfl
          · refine w_iloadN ok d0_68 rfl ?_
            refine w_iconst ok (z := 1) d0_69 rfl ?_
            refine w_ic_lt ok d0_70 (fun q => absurd q (by decide)) (fun _ => ?_)
            refine w_aload ok d0_73 rfl rfl ?_
            refine w_iloadN ok d0_75 rfl ?_
            refine w_virtN ok (argsL := [(.int (1 : Int32))]) (rest := []) (hw _ (List.mem_of_getElem? (i := 16) rfl)) (hw _ (List.mem_of_getElem? (i := 17) rfl)) (hw _ (List.mem_of_getElem? (i := 19) rfl)) (hw _ (List.mem_of_getElem? (i := 18) rfl)) (hw _ (List.mem_of_getElem? (i := 2) rfl)) (hw _ (List.mem_of_getElem? (i := 20) rfl)) E_a (by decide) (rmS l Z a0 hw n0 b1 (1 : Int32) (0 : Int32) (0 : Int32) (0 : Int32) h1 Z0 gn_b1 E_a F_l F_m (by decide)) d0_76 (lenOf pd__Z_V rfl) rfl rfl (Nat.le_of_ble_eq_true rfl) (Nat.le_of_ble_eq_true rfl) (k' := 1) (n' := 2) rfl rfl (Nat.le_of_ble_eq_true rfl) (Nat.le_of_ble_eq_true rfl) ?_
            rintro h38 ⟨Kc, E_a, F_l, F_m⟩
            have Z0 := Nat.le_trans Z0 Kc.1
            refine w_iloadN ok d0_79 rfl ?_
            refine w_iconst ok (z := 2) d0_80 rfl ?_
            refine w_ic_lt ok d0_81 (fun q => absurd q (by decide)) (fun _ => ?_)
            refine w_iload ok d0_84 rfl ?_
            refine w_if_eq ok d0_86 (fun q => absurd q (by decide)) (fun _ => ?_)
            refine w_aload ok d0_89 rfl rfl ?_
            refine w_virtV ok (argsL := []) (rest := []) (hw _ (List.mem_of_getElem? (i := 9) rfl)) (hw _ (List.mem_of_getElem? (i := 10) rfl)) (hw _ (List.mem_of_getElem? (i := 12) rfl)) (hw _ (List.mem_of_getElem? (i := 11) rfl)) (hw _ (List.mem_of_getElem? (i := 2) rfl)) (hw _ (List.mem_of_getElem? (i := 13) rfl)) E_a (by decide) (rmT l Z a0 hw n0 b1 (0 : Int32) (0 : Int32) (1 : Int32) (0 : Int32) h38 Z0 gn_b1 E_a F_l F_m (by decide) (by decide)) d0_91 (lenOf pd___Z rfl) rfl rfl (Nat.le_of_ble_eq_true rfl) (Nat.le_of_ble_eq_true rfl) (k' := 1) (n' := 2) rfl rfl (Nat.le_of_ble_eq_true rfl) (Nat.le_of_ble_eq_true rfl) ?_
            rintro _ h39 ⟨rfl, Kc, E_a, F_l, F_m⟩
            have Z0 := Nat.le_trans Z0 Kc.1
            refine w_istore ok (Ls' := #[.val (.int nn), .val (.int fl), .val (.int (2 : Int32)), .val (.int (1 : Int32)), .val (.int (0 : Int32)), .val (.int z5), .val (.int (1 : Int32)), .val (.ref b1), .val (.int (1 : Int32)), .val (.int (1 : Int32)), .unset, .unset, .unset, .unset, .unset, .unset]) d0_94 rfl ?_
            refine w_iload ok d0_96 rfl ?_
            refine w_iloadN ok d0_98 rfl ?_
            refine w_ic_ne ok d0_99 (fun q => absurd (by decide) q) (fun _ => ?_)
            refine w_iconst ok (z := 1) d0_102 rfl ?_
            refine w_goto ok d0_103 ?_
            refine w_istore ok (Ls' := #[.val (.int nn), .val (.int fl), .val (.int (2 : Int32)), .val (.int (1 : Int32)), .val (.int (0 : Int32)), .val (.int z5), .val (.int (1 : Int32)), .val (.ref b1), .val (.int (1 : Int32)), .val (.int (1 : Int32)), .unset, .unset, .unset, .unset, .unset, .unset]) d0_107 rfl ?_
            refine w_iloadN ok d0_109 rfl ?_
            refine w_iconst ok (z := 2) d0_110 rfl ?_
            refine w_ic_lt ok d0_111 (fun q => absurd q (by decide)) (fun _ => ?_)
            refine w_aload ok d0_114 rfl rfl ?_
            refine w_iload ok d0_116 rfl ?_
            refine w_virtN ok (argsL := [(.int (0 : Int32))]) (rest := []) (hw _ (List.mem_of_getElem? (i := 16) rfl)) (hw _ (List.mem_of_getElem? (i := 17) rfl)) (hw _ (List.mem_of_getElem? (i := 19) rfl)) (hw _ (List.mem_of_getElem? (i := 18) rfl)) (hw _ (List.mem_of_getElem? (i := 2) rfl)) (hw _ (List.mem_of_getElem? (i := 20) rfl)) E_a (by decide) (rmS l Z a0 hw n0 b1 (0 : Int32) (0 : Int32) (0 : Int32) (1 : Int32) h39 Z0 gn_b1 E_a F_l F_m (by decide)) d0_118 (lenOf pd__Z_V rfl) rfl rfl (Nat.le_of_ble_eq_true rfl) (Nat.le_of_ble_eq_true rfl) (k' := 1) (n' := 2) rfl rfl (Nat.le_of_ble_eq_true rfl) (Nat.le_of_ble_eq_true rfl) ?_
            rintro h40 ⟨Kc, E_a, F_l, F_m⟩
            have Z0 := Nat.le_trans Z0 Kc.1
            refine w_iloadN ok d0_121 rfl ?_
            refine w_iconst ok (z := 3) d0_122 rfl ?_
            refine w_ic_lt ok d0_123 (fun _ => ?_) (fun q => absurd (by decide) q)
            refine w_iloadN ok d0_133 rfl ?_
            refine w_if_ne ok d0_134 (fun _ => ?_) (fun q => absurd q (by decide))
            refine w_iloadN ok d0_143 rfl ?_
            refine w_iconst ok (z := 1) d0_144 rfl ?_
            refine w_ic_ne ok d0_145 (fun _ => ?_) (fun q => absurd q (by decide))
            refine w_iloadN ok d0_162 rfl ?_
            refine w_iconst ok (z := 2) d0_163 rfl ?_
            refine w_ic_ne ok d0_164 (fun q => absurd (by decide) q) (fun _ => ?_)
            refine w_iload ok d0_167 rfl ?_
            refine w_if_eq ok d0_169 (fun _ => ?_) (fun q => absurd (by decide) q)
            refine w_iloadN ok d0_176 rfl ?_
            refine w_if_eq ok d0_177 (fun q => absurd q (by decide)) (fun _ => ?_)
            refine w_iconst ok (z := 1) d0_180 rfl ?_
            refine w_goto ok d0_181 ?_
            refine w_istore ok (Ls' := #[.val (.int nn), .val (.int fl), .val (.int (2 : Int32)), .val (.int (1 : Int32)), .val (.int (0 : Int32)), .val (.int z5), .val (.int (1 : Int32)), .val (.ref b1), .val (.int (1 : Int32)), .val (.int (1 : Int32)), .unset, .unset, .unset, .unset, .unset, .unset]) d0_185 rfl ?_
            refine w_goto ok d0_187 ?_
            exact JM _ _ _ _ Z0 E_a F_l F_m (by decide)
          · refine w_iloadN ok d0_68 rfl ?_
            refine w_iconst ok (z := 1) d0_69 rfl ?_
            refine w_ic_lt ok d0_70 (fun q => absurd q (by decide)) (fun _ => ?_)
            refine w_aload ok d0_73 rfl rfl ?_
            refine w_iloadN ok d0_75 rfl ?_
            refine w_virtN ok (argsL := [(.int (1 : Int32))]) (rest := []) (hw _ (List.mem_of_getElem? (i := 16) rfl)) (hw _ (List.mem_of_getElem? (i := 17) rfl)) (hw _ (List.mem_of_getElem? (i := 19) rfl)) (hw _ (List.mem_of_getElem? (i := 18) rfl)) (hw _ (List.mem_of_getElem? (i := 2) rfl)) (hw _ (List.mem_of_getElem? (i := 20) rfl)) E_a (by decide) (rmS l Z a0 hw n0 b1 (1 : Int32) (0 : Int32) (0 : Int32) (0 : Int32) h1 Z0 gn_b1 E_a F_l F_m (by decide)) d0_76 (lenOf pd__Z_V rfl) rfl rfl (Nat.le_of_ble_eq_true rfl) (Nat.le_of_ble_eq_true rfl) (k' := 1) (n' := 2) rfl rfl (Nat.le_of_ble_eq_true rfl) (Nat.le_of_ble_eq_true rfl) ?_
            rintro h41 ⟨Kc, E_a, F_l, F_m⟩
            have Z0 := Nat.le_trans Z0 Kc.1
            refine w_iloadN ok d0_79 rfl ?_
            refine w_iconst ok (z := 2) d0_80 rfl ?_
            refine w_ic_lt ok d0_81 (fun q => absurd q (by decide)) (fun _ => ?_)
            refine w_iload ok d0_84 rfl ?_
            refine w_if_eq ok d0_86 (fun q => absurd q (by decide)) (fun _ => ?_)
            refine w_aload ok d0_89 rfl rfl ?_
            refine w_virtV ok (argsL := []) (rest := []) (hw _ (List.mem_of_getElem? (i := 9) rfl)) (hw _ (List.mem_of_getElem? (i := 10) rfl)) (hw _ (List.mem_of_getElem? (i := 12) rfl)) (hw _ (List.mem_of_getElem? (i := 11) rfl)) (hw _ (List.mem_of_getElem? (i := 2) rfl)) (hw _ (List.mem_of_getElem? (i := 13) rfl)) E_a (by decide) (rmT l Z a0 hw n0 b1 (0 : Int32) (0 : Int32) (1 : Int32) (0 : Int32) h41 Z0 gn_b1 E_a F_l F_m (by decide) (by decide)) d0_91 (lenOf pd___Z rfl) rfl rfl (Nat.le_of_ble_eq_true rfl) (Nat.le_of_ble_eq_true rfl) (k' := 1) (n' := 2) rfl rfl (Nat.le_of_ble_eq_true rfl) (Nat.le_of_ble_eq_true rfl) ?_
            rintro _ h42 ⟨rfl, Kc, E_a, F_l, F_m⟩
            have Z0 := Nat.le_trans Z0 Kc.1
            refine w_istore ok (Ls' := #[.val (.int nn), .val (.int fl), .val (.int (2 : Int32)), .val (.int (1 : Int32)), .val (.int (1 : Int32)), .val (.int z5), .val (.int (1 : Int32)), .val (.ref b1), .val (.int (1 : Int32)), .val (.int (1 : Int32)), .unset, .unset, .unset, .unset, .unset, .unset]) d0_94 rfl ?_
            refine w_iload ok d0_96 rfl ?_
            refine w_iloadN ok d0_98 rfl ?_
            refine w_ic_ne ok d0_99 (fun q => absurd (by decide) q) (fun _ => ?_)
            refine w_iconst ok (z := 1) d0_102 rfl ?_
            refine w_goto ok d0_103 ?_
            refine w_istore ok (Ls' := #[.val (.int nn), .val (.int fl), .val (.int (2 : Int32)), .val (.int (1 : Int32)), .val (.int (1 : Int32)), .val (.int z5), .val (.int (1 : Int32)), .val (.ref b1), .val (.int (1 : Int32)), .val (.int (1 : Int32)), .unset, .unset, .unset, .unset, .unset, .unset]) d0_107 rfl ?_
            refine w_iloadN ok d0_109 rfl ?_
            refine w_iconst ok (z := 2) d0_110 rfl ?_
            refine w_ic_lt ok d0_111 (fun q => absurd q (by decide)) (fun _ => ?_)
            refine w_aload ok d0_114 rfl rfl ?_
            refine w_iload ok d0_116 rfl ?_
            refine w_virtN ok (argsL := [(.int (1 : Int32))]) (rest := []) (hw _ (List.mem_of_getElem? (i := 16) rfl)) (hw _ (List.mem_of_getElem? (i := 17) rfl)) (hw _ (List.mem_of_getElem? (i := 19) rfl)) (hw _ (List.mem_of_getElem? (i := 18) rfl)) (hw _ (List.mem_of_getElem? (i := 2) rfl)) (hw _ (List.mem_of_getElem? (i := 20) rfl)) E_a (by decide) (rmS l Z a0 hw n0 b1 (1 : Int32) (0 : Int32) (0 : Int32) (0 : Int32) h42 Z0 gn_b1 E_a F_l F_m (by decide)) d0_118 (lenOf pd__Z_V rfl) rfl rfl (Nat.le_of_ble_eq_true rfl) (Nat.le_of_ble_eq_true rfl) (k' := 1) (n' := 2) rfl rfl (Nat.le_of_ble_eq_true rfl) (Nat.le_of_ble_eq_true rfl) ?_
            rintro h43 ⟨Kc, E_a, F_l, F_m⟩
            have Z0 := Nat.le_trans Z0 Kc.1
            refine w_iloadN ok d0_121 rfl ?_
            refine w_iconst ok (z := 3) d0_122 rfl ?_
            refine w_ic_lt ok d0_123 (fun _ => ?_) (fun q => absurd (by decide) q)
            refine w_iloadN ok d0_133 rfl ?_
            refine w_if_ne ok d0_134 (fun _ => ?_) (fun q => absurd q (by decide))
            refine w_iloadN ok d0_143 rfl ?_
            refine w_iconst ok (z := 1) d0_144 rfl ?_
            refine w_ic_ne ok d0_145 (fun _ => ?_) (fun q => absurd q (by decide))
            refine w_iloadN ok d0_162 rfl ?_
            refine w_iconst ok (z := 2) d0_163 rfl ?_
            refine w_ic_ne ok d0_164 (fun q => absurd (by decide) q) (fun _ => ?_)
            refine w_iload ok d0_167 rfl ?_
            refine w_if_eq ok d0_169 (fun q => absurd q (by decide)) (fun _ => ?_)
            refine w_iconst ok (z := 0) d0_172 rfl ?_
            refine w_goto ok d0_173 ?_
            refine w_istore ok (Ls' := #[.val (.int nn), .val (.int fl), .val (.int (2 : Int32)), .val (.int (1 : Int32)), .val (.int (1 : Int32)), .val (.int z5), .val (.int (1 : Int32)), .val (.ref b1), .val (.int (1 : Int32)), .val (.int (0 : Int32)), .unset, .unset, .unset, .unset, .unset, .unset]) d0_185 rfl ?_
            refine w_goto ok d0_187 ?_
            exact JM _ _ _ _ Z0 E_a F_l F_m (by decide)
    · rcases hz3 with rfl | rfl
      · rcases hz6 with rfl | rfl
        · rcases hz4 with rfl | rfl
          · rcases hz5 with rfl | rfl
            · refine w_iloadN ok d0_68 rfl ?_
              refine w_iconst ok (z := 1) d0_69 rfl ?_
              refine w_ic_lt ok d0_70 (fun q => absurd q (by decide)) (fun _ => ?_)
              refine w_aload ok d0_73 rfl rfl ?_
              refine w_iloadN ok d0_75 rfl ?_
              refine w_virtN ok (argsL := [(.int (0 : Int32))]) (rest := []) (hw _ (List.mem_of_getElem? (i := 16) rfl)) (hw _ (List.mem_of_getElem? (i := 17) rfl)) (hw _ (List.mem_of_getElem? (i := 19) rfl)) (hw _ (List.mem_of_getElem? (i := 18) rfl)) (hw _ (List.mem_of_getElem? (i := 2) rfl)) (hw _ (List.mem_of_getElem? (i := 20) rfl)) E_a (by decide) (rmS l Z a0 hw n0 b1 (0 : Int32) (0 : Int32) (0 : Int32) (1 : Int32) h1 Z0 gn_b1 E_a F_l F_m (by decide)) d0_76 (lenOf pd__Z_V rfl) rfl rfl (Nat.le_of_ble_eq_true rfl) (Nat.le_of_ble_eq_true rfl) (k' := 1) (n' := 2) rfl rfl (Nat.le_of_ble_eq_true rfl) (Nat.le_of_ble_eq_true rfl) ?_
              rintro h44 ⟨Kc, E_a, F_l, F_m⟩
              have Z0 := Nat.le_trans Z0 Kc.1
              refine w_iloadN ok d0_79 rfl ?_
              refine w_iconst ok (z := 2) d0_80 rfl ?_
              refine w_ic_lt ok d0_81 (fun q => absurd q (by decide)) (fun _ => ?_)
              refine w_iload ok d0_84 rfl ?_
              refine w_if_eq ok d0_86 (fun _ => ?_) (fun q => absurd (by decide) q)
              refine w_iloadN ok d0_109 rfl ?_
              refine w_iconst ok (z := 2) d0_110 rfl ?_
              refine w_ic_lt ok d0_111 (fun q => absurd q (by decide)) (fun _ => ?_)
              refine w_aload ok d0_114 rfl rfl ?_
              refine w_iload ok d0_116 rfl ?_
              refine w_virtN ok (argsL := [(.int (0 : Int32))]) (rest := []) (hw _ (List.mem_of_getElem? (i := 16) rfl)) (hw _ (List.mem_of_getElem? (i := 17) rfl)) (hw _ (List.mem_of_getElem? (i := 19) rfl)) (hw _ (List.mem_of_getElem? (i := 18) rfl)) (hw _ (List.mem_of_getElem? (i := 2) rfl)) (hw _ (List.mem_of_getElem? (i := 20) rfl)) E_a (by decide) (rmS l Z a0 hw n0 b1 (0 : Int32) (1 : Int32) (1 : Int32) (3 : Int32) h44 Z0 gn_b1 E_a F_l F_m (by decide)) d0_118 (lenOf pd__Z_V rfl) rfl rfl (Nat.le_of_ble_eq_true rfl) (Nat.le_of_ble_eq_true rfl) (k' := 1) (n' := 2) rfl rfl (Nat.le_of_ble_eq_true rfl) (Nat.le_of_ble_eq_true rfl) ?_
              rintro h45 ⟨Kc, E_a, F_l, F_m⟩
              have Z0 := Nat.le_trans Z0 Kc.1
              refine w_iloadN ok d0_121 rfl ?_
              refine w_iconst ok (z := 3) d0_122 rfl ?_
              refine w_ic_lt ok d0_123 (fun q => absurd q (by decide)) (fun _ => ?_)
              refine w_aload ok d0_126 rfl rfl ?_
              refine w_iload ok d0_128 rfl ?_
              refine w_virtN ok (argsL := [(.int (0 : Int32))]) (rest := []) (hw _ (List.mem_of_getElem? (i := 16) rfl)) (hw _ (List.mem_of_getElem? (i := 17) rfl)) (hw _ (List.mem_of_getElem? (i := 19) rfl)) (hw _ (List.mem_of_getElem? (i := 18) rfl)) (hw _ (List.mem_of_getElem? (i := 2) rfl)) (hw _ (List.mem_of_getElem? (i := 20) rfl)) E_a (by decide) (rmS l Z a0 hw n0 b1 (0 : Int32) (3 : Int32) (3 : Int32) (7 : Int32) h45 Z0 gn_b1 E_a F_l F_m (by decide)) d0_130 (lenOf pd__Z_V rfl) rfl rfl (Nat.le_of_ble_eq_true rfl) (Nat.le_of_ble_eq_true rfl) (k' := 1) (n' := 2) rfl rfl (Nat.le_of_ble_eq_true rfl) (Nat.le_of_ble_eq_true rfl) ?_
              rintro h46 ⟨Kc, E_a, F_l, F_m⟩
              have Z0 := Nat.le_trans Z0 Kc.1
              refine w_iloadN ok d0_133 rfl ?_
              refine w_if_ne ok d0_134 (fun _ => ?_) (fun q => absurd q (by decide))
              refine w_iloadN ok d0_143 rfl ?_
              refine w_iconst ok (z := 1) d0_144 rfl ?_
              refine w_ic_ne ok d0_145 (fun _ => ?_) (fun q => absurd q (by decide))
              refine w_iloadN ok d0_162 rfl ?_
              refine w_iconst ok (z := 2) d0_163 rfl ?_
              refine w_ic_ne ok d0_164 (fun _ => ?_) (fun q => absurd q (by decide))
              refine w_iload ok d0_190 rfl ?_
              refine w_if_eq ok d0_192 (fun _ => ?_) (fun q => absurd (by decide) q)
              refine w_iload ok d0_199 rfl ?_
              refine w_if_eq ok d0_201 (fun _ => ?_) (fun q => absurd (by decide) q)
              refine w_iloadN ok d0_208 rfl ?_
              refine w_if_eq ok d0_209 (fun _ => ?_) (fun q => absurd (by decide) q)
              refine w_iconst ok (z := 3) d0_216 rfl ?_
              refine w_istore ok (Ls' := #[.val (.int nn), .val (.int fl), .val (.int (3 : Int32)), .val (.int (0 : Int32)), .val (.int (0 : Int32)), .val (.int (0 : Int32)), .val (.int (0 : Int32)), .val (.ref b1), .val (.int (1 : Int32)), .val (.int (3 : Int32)), .unset, .unset, .unset, .unset, .unset, .unset]) d0_217 rfl ?_
              exact JM _ _ _ _ Z0 E_a F_l F_m (by decide)
            · refine w_iloadN ok d0_68 rfl ?_
              refine w_iconst ok (z := 1) d0_69 rfl ?_
              refine w_ic_lt ok d0_70 (fun q => absurd q (by decide)) (fun _ => ?_)
              refine w_aload ok d0_73 rfl rfl ?_
              refine w_iloadN ok d0_75 rfl ?_
              refine w_virtN ok (argsL := [(.int (0 : Int32))]) (rest := []) (hw _ (List.mem_of_getElem? (i := 16) rfl)) (hw _ (List.mem_of_getElem? (i := 17) rfl)) (hw _ (List.mem_of_getElem? (i := 19) rfl)) (hw _ (List.mem_of_getElem? (i := 18) rfl)) (hw _ (List.mem_of_getElem? (i := 2) rfl)) (hw _ (List.mem_of_getElem? (i := 20) rfl)) E_a (by decide) (rmS l Z a0 hw n0 b1 (0 : Int32) (0 : Int32) (0 : Int32) (1 : Int32) h1 Z0 gn_b1 E_a F_l F_m (by decide)) d0_76 (lenOf pd__Z_V rfl) rfl rfl (Nat.le_of_ble_eq_true rfl) (Nat.le_of_ble_eq_true rfl) (k' := 1) (n' := 2) rfl rfl (Nat.le_of_ble_eq_true rfl) (Nat.le_of_ble_eq_true rfl) ?_
              rintro h47 ⟨Kc, E_a, F_l, F_m⟩
              have Z0 := Nat.le_trans Z0 Kc.1
              refine w_iloadN ok d0_79 rfl ?_
              refine w_iconst ok (z := 2) d0_80 rfl ?_
              refine w_ic_lt ok d0_81 (fun q => absurd q (by decide)) (fun _ => ?_)
              refine w_iload ok d0_84 rfl ?_
              refine w_if_eq ok d0_86 (fun _ => ?_) (fun q => absurd (by decide) q)
              refine w_iloadN ok d0_109 rfl ?_
              refine w_iconst ok (z := 2) d0_110 rfl ?_
              refine w_ic_lt ok d0_111 (fun q => absurd q (by decide)) (fun _ => ?_)
              refine w_aload ok d0_114 rfl rfl ?_
              refine w_iload ok d0_116 rfl ?_
              refine w_virtN ok (argsL := [(.int (0 : Int32))]) (rest := []) (hw _ (List.mem_of_getElem? (i := 16) rfl)) (hw _ (List.mem_of_getElem? (i := 17) rfl)) (hw _ (List.mem_of_getElem? (i := 19) rfl)) (hw _ (List.mem_of_getElem? (i := 18) rfl)) (hw _ (List.mem_of_getElem? (i := 2) rfl)) (hw _ (List.mem_of_getElem? (i := 20) rfl)) E_a (by decide) (rmS l Z a0 hw n0 b1 (0 : Int32) (1 : Int32) (1 : Int32) (3 : Int32) h47 Z0 gn_b1 E_a F_l F_m (by decide)) d0_118 (lenOf pd__Z_V rfl) rfl rfl (Nat.le_of_ble_eq_true rfl) (Nat.le_of_ble_eq_true rfl) (k' := 1) (n' := 2) rfl rfl (Nat.le_of_ble_eq_true rfl) (Nat.le_of_ble_eq_true rfl) ?_
              rintro h48 ⟨Kc, E_a, F_l, F_m⟩
              have Z0 := Nat.le_trans Z0 Kc.1
              refine w_iloadN ok d0_121 rfl ?_
              refine w_iconst ok (z := 3) d0_122 rfl ?_
              refine w_ic_lt ok d0_123 (fun q => absurd q (by decide)) (fun _ => ?_)
              refine w_aload ok d0_126 rfl rfl ?_
              refine w_iload ok d0_128 rfl ?_
              refine w_virtN ok (argsL := [(.int (1 : Int32))]) (rest := []) (hw _ (List.mem_of_getElem? (i := 16) rfl)) (hw _ (List.mem_of_getElem? (i := 17) rfl)) (hw _ (List.mem_of_getElem? (i := 19) rfl)) (hw _ (List.mem_of_getElem? (i := 18) rfl)) (hw _ (List.mem_of_getElem? (i := 2) rfl)) (hw _ (List.mem_of_getElem? (i := 20) rfl)) E_a (by decide) (rmS l Z a0 hw n0 b1 (1 : Int32) (3 : Int32) (3 : Int32) (0 : Int32) h48 Z0 gn_b1 E_a F_l F_m (by decide)) d0_130 (lenOf pd__Z_V rfl) rfl rfl (Nat.le_of_ble_eq_true rfl) (Nat.le_of_ble_eq_true rfl) (k' := 1) (n' := 2) rfl rfl (Nat.le_of_ble_eq_true rfl) (Nat.le_of_ble_eq_true rfl) ?_
              rintro h49 ⟨Kc, E_a, F_l, F_m⟩
              have Z0 := Nat.le_trans Z0 Kc.1
              refine w_iloadN ok d0_133 rfl ?_
              refine w_if_ne ok d0_134 (fun _ => ?_) (fun q => absurd q (by decide))
              refine w_iloadN ok d0_143 rfl ?_
              refine w_iconst ok (z := 1) d0_144 rfl ?_
              refine w_ic_ne ok d0_145 (fun _ => ?_) (fun q => absurd q (by decide))
              refine w_iloadN ok d0_162 rfl ?_
              refine w_iconst ok (z := 2) d0_163 rfl ?_
              refine w_ic_ne ok d0_164 (fun _ => ?_) (fun q => absurd q (by decide))
              refine w_iload ok d0_190 rfl ?_
              refine w_if_eq ok d0_192 (fun q => absurd q (by decide)) (fun _ => ?_)
              refine w_iconst ok (z := 0) d0_195 rfl ?_
              refine w_goto ok d0_196 ?_
              refine w_istore ok (Ls' := #[.val (.int nn), .val (.int fl), .val (.int (3 : Int32)), .val (.int (0 : Int32)), .val (.int (0 : Int32)), .val (.int (1 : Int32)), .val (.int (0 : Int32)), .val (.ref b1), .val (.int (1 : Int32)), .val (.int (0 : Int32)), .unset, .unset, .unset, .unset, .unset, .unset]) d0_217 rfl ?_
              exact JM _ _ _ _ Z0 E_a F_l F_m (by decide)
          · rcases hz5 with rfl | rfl
            · refine w_iloadN ok d0_68 rfl ?_
              refine w_iconst ok (z := 1) d0_69 rfl ?_
              refine w_ic_lt ok d0_70 (fun q => absurd q (by decide)) (fun _ => ?_)
              refine w_aload ok d0_73 rfl rfl ?_
              refine w_iloadN ok d0_75 rfl ?_
              refine w_virtN ok (argsL := [(.int (0 : Int32))]) (rest := []) (hw _ (List.mem_of_getElem? (i := 16) rfl)) (hw _ (List.mem_of_getElem? (i := 17) rfl)) (hw _ (List.mem_of_getElem? (i := 19) rfl)) (hw _ (List.mem_of_getElem? (i := 18) rfl)) (hw _ (List.mem_of_getElem? (i := 2) rfl)) (hw _ (List.mem_of_getElem? (i := 20) rfl)) E_a (by decide) (rmS l Z a0 hw n0 b1 (0 : Int32) (0 : Int32) (0 : Int32) (1 : Int32) h1 Z0 gn_b1 E_a F_l F_m (by decide)) d0_76 (lenOf pd__Z_V rfl) rfl rfl (Nat.le_of_ble_eq_true rfl) (Nat.le_of_ble_eq_true rfl) (k' := 1) (n' := 2) rfl rfl (Nat.le_of_ble_eq_true rfl) (Nat.le_of_ble_eq_true rfl) ?_
              rintro h50 ⟨Kc, E_a, F_l, F_m⟩
              have Z0 := Nat.le_trans Z0 Kc.1
              refine w_iloadN ok d0_79 rfl ?_
              refine w_iconst ok (z := 2) d0_80 rfl ?_
              refine w_ic_lt ok d0_81 (fun q => absurd q (by decide)) (fun _ => ?_)
              refine w_iload ok d0_84 rfl ?_
              refine w_if_eq ok d0_86 (fun _ => ?_) (fun q => absurd (by decide) q)
              refine w_iloadN ok d0_109 rfl ?_
              refine w_iconst ok (z := 2) d0_110 rfl ?_
              refine w_ic_lt ok d0_111 (fun q => absurd q (by decide)) (fun _ => ?_)
              refine w_aload ok d0_114 rfl rfl ?_
              refine w_iload ok d0_116 rfl ?_
              refine w_virtN ok (argsL := [(.int (1 : Int32))]) (rest := []) (hw _ (List.mem_of_getElem? (i := 16) rfl)) (hw _ (List.mem_of_getElem? (i := 17) rfl)) (hw _ (List.mem_of_getElem? (i := 19) rfl)) (hw _ (List.mem_of_getElem? (i := 18) rfl)) (hw _ (List.mem_of_getElem? (i := 2) rfl)) (hw _ (List.mem_of_getElem? (i := 20) rfl)) E_a (by decide) (rmS l Z a0 hw n0 b1 (1 : Int32) (1 : Int32) (1 : Int32) (0 : Int32) h50 Z0 gn_b1 E_a F_l F_m (by decide)) d0_118 (lenOf pd__Z_V rfl) rfl rfl (Nat.le_of_ble_eq_true rfl) (Nat.le_of_ble_eq_true rfl) (k' := 1) (n' := 2) rfl rfl (Nat.le_of_ble_eq_true rfl) (Nat.le_of_ble_eq_true rfl) ?_
              rintro h51 ⟨Kc, E_a, F_l, F_m⟩
              have Z0 := Nat.le_trans Z0 Kc.1
              refine w_iloadN ok d0_121 rfl ?_
              refine w_iconst ok (z := 3) d0_122 rfl ?_
              refine w_ic_lt ok d0_123 (fun q => absurd q (by decide)) (fun _ => ?_)
              refine w_aload ok d0_126 rfl rfl ?_
              refine w_iload ok d0_128 rfl ?_
              refine w_virtN ok (argsL := [(.int (0 : Int32))]) (rest := []) (hw _ (List.mem_of_getElem? (i := 16) rfl)) (hw _ (List.mem_of_getElem? (i := 17) rfl)) (hw _ (List.mem_of_getElem? (i := 19) rfl)) (hw _ (List.mem_of_getElem? (i := 18) rfl)) (hw _ (List.mem_of_getElem? (i := 2) rfl)) (hw _ (List.mem_of_getElem? (i := 20) rfl)) E_a (by decide) (rmS l Z a0 hw n0 b1 (0 : Int32) (0 : Int32) (0 : Int32) (1 : Int32) h51 Z0 gn_b1 E_a F_l F_m (by decide)) d0_130 (lenOf pd__Z_V rfl) rfl rfl (Nat.le_of_ble_eq_true rfl) (Nat.le_of_ble_eq_true rfl) (k' := 1) (n' := 2) rfl rfl (Nat.le_of_ble_eq_true rfl) (Nat.le_of_ble_eq_true rfl) ?_
              rintro h52 ⟨Kc, E_a, F_l, F_m⟩
              have Z0 := Nat.le_trans Z0 Kc.1
              refine w_iloadN ok d0_133 rfl ?_
              refine w_if_ne ok d0_134 (fun _ => ?_) (fun q => absurd q (by decide))
              refine w_iloadN ok d0_143 rfl ?_
              refine w_iconst ok (z := 1) d0_144 rfl ?_
              refine w_ic_ne ok d0_145 (fun _ => ?_) (fun q => absurd q (by decide))
              refine w_iloadN ok d0_162 rfl ?_
              refine w_iconst ok (z := 2) d0_163 rfl ?_
              refine w_ic_ne ok d0_164 (fun _ => ?_) (fun q => absurd q (by decide))
              refine w_iload ok d0_190 rfl ?_
              refine w_if_eq ok d0_192 (fun _ => ?_) (fun q => absurd (by decide) q)
              refine w_iload ok d0_199 rfl ?_
              refine w_if_eq ok d0_201 (fun q => absurd q (by decide)) (fun _ => ?_)
              refine w_iconst ok (z := 1) d0_204 rfl ?_
              refine w_goto ok d0_205 ?_
              refine w_istore ok (Ls' := #[.val (.int nn), .val (.int fl), .val (.int (3 : Int32)), .val (.int (0 : Int32)), .val (.int (1 : Int32)), .val (.int (0 : Int32)), .val (.int (0 : Int32)), .val (.ref b1), .val (.int (1 : Int32)), .val (.int (1 : Int32)), .unset, .unset, .unset, .unset, .unset, .unset]) d0_217 rfl ?_
              exact JM _ _ _ _ Z0 E_a F_l F_m (by decide)
            · refine w_iloadN ok d0_68 rfl ?_
              refine w_iconst ok (z := 1) d0_69 rfl ?_
              refine w_ic_lt ok d0_70 (fun q => absurd q (by decide)) (fun _ => ?_)
              refine w_aload ok d0_73 rfl rfl ?_
              refine w_iloadN ok d0_75 rfl ?_
              refine w_virtN ok (argsL := [(.int (0 : Int32))]) (rest := []) (hw _ (List.mem_of_getElem? (i := 16) rfl)) (hw _ (List.mem_of_getElem? (i := 17) rfl)) (hw _ (List.mem_of_getElem? (i := 19) rfl)) (hw _ (List.mem_of_getElem? (i := 18) rfl)) (hw _ (List.mem_of_getElem? (i := 2) rfl)) (hw _ (List.mem_of_getElem? (i := 20) rfl)) E_a (by decide) (rmS l Z a0 hw n0 b1 (0 : Int32) (0 : Int32) (0 : Int32) (1 : Int32) h1 Z0 gn_b1 E_a F_l F_m (by decide)) d0_76 (lenOf pd__Z_V rfl) rfl rfl (Nat.le_of_ble_eq_true rfl) (Nat.le_of_ble_eq_true rfl) (k' := 1) (n' := 2) rfl rfl (Nat.le_of_ble_eq_true rfl) (Nat.le_of_ble_eq_true rfl) ?_
              rintro h53 ⟨Kc, E_a, F_l, F_m⟩
              have Z0 := Nat.le_trans Z0 Kc.1
              refine w_iloadN ok d0_79 rfl ?_
              refine w_iconst ok (z := 2) d0_80 rfl ?_
              refine w_ic_lt ok d0_81 (fun q => absurd q (by decide)) (fun _ => ?_)
              refine w_iload ok d0_84 rfl ?_
              refine w_if_eq ok d0_86 (fun _ => ?_) (fun q => absurd (by decide) q)
              refine w_iloadN ok d0_109 rfl ?_
              refine w_iconst ok (z := 2) d0_110 rfl ?_
              refine w_ic_lt ok d0_111 (fun q => absurd q (by decide)) (fun _ => ?_)
              refine w_aload ok d0_114 rfl rfl ?_
              refine w_iload ok d0_116 rfl ?_
              refine w_virtN ok (argsL := [(.int (1 : Int32))]) (rest := []) (hw _ (List.mem_of_getElem? (i := 16) rfl)) (hw _ (List.mem_of_getElem? (i := 17) rfl)) (hw _ (List.mem_of_getElem? (i := 19) rfl)) (hw _ (List.mem_of_getElem? (i := 18) rfl)) (hw _ (List.mem_of_getElem? (i := 2) rfl)) (hw _ (List.mem_of_getElem? (i := 20) rfl)) E_a (by decide) (rmS l Z a0 hw n0 b1 (1 : Int32) (1 : Int32) (1 : Int32) (0 : Int32) h53 Z0 gn_b1 E_a F_l F_m (by decide)) d0_118 (lenOf pd__Z_V rfl) rfl rfl (Nat.le_of_ble_eq_true rfl) (Nat.le_of_ble_eq_true rfl) (k' := 1) (n' := 2) rfl rfl (Nat.le_of_ble_eq_true rfl) (Nat.le_of_ble_eq_true rfl) ?_
              rintro h54 ⟨Kc, E_a, F_l, F_m⟩
              have Z0 := Nat.le_trans Z0 Kc.1
              refine w_iloadN ok d0_121 rfl ?_
              refine w_iconst ok (z := 3) d0_122 rfl ?_
              refine w_ic_lt ok d0_123 (fun q => absurd q (by decide)) (fun _ => ?_)
              refine w_aload ok d0_126 rfl rfl ?_
              refine w_iload ok d0_128 rfl ?_
              refine w_virtN ok (argsL := [(.int (1 : Int32))]) (rest := []) (hw _ (List.mem_of_getElem? (i := 16) rfl)) (hw _ (List.mem_of_getElem? (i := 17) rfl)) (hw _ (List.mem_of_getElem? (i := 19) rfl)) (hw _ (List.mem_of_getElem? (i := 18) rfl)) (hw _ (List.mem_of_getElem? (i := 2) rfl)) (hw _ (List.mem_of_getElem? (i := 20) rfl)) E_a (by decide) (rmS l Z a0 hw n0 b1 (1 : Int32) (0 : Int32) (0 : Int32) (0 : Int32) h54 Z0 gn_b1 E_a F_l F_m (by decide)) d0_130 (lenOf pd__Z_V rfl) rfl rfl (Nat.le_of_ble_eq_true rfl) (Nat.le_of_ble_eq_true rfl) (k' := 1) (n' := 2) rfl rfl (Nat.le_of_ble_eq_true rfl) (Nat.le_of_ble_eq_true rfl) ?_
              rintro h55 ⟨Kc, E_a, F_l, F_m⟩
              have Z0 := Nat.le_trans Z0 Kc.1
              refine w_iloadN ok d0_133 rfl ?_
              refine w_if_ne ok d0_134 (fun _ => ?_) (fun q => absurd q (by decide))
              refine w_iloadN ok d0_143 rfl ?_
              refine w_iconst ok (z := 1) d0_144 rfl ?_
              refine w_ic_ne ok d0_145 (fun _ => ?_) (fun q => absurd q (by decide))
              refine w_iloadN ok d0_162 rfl ?_
              refine w_iconst ok (z := 2) d0_163 rfl ?_
              refine w_ic_ne ok d0_164 (fun _ => ?_) (fun q => absurd q (by decide))
              refine w_iload ok d0_190 rfl ?_
              refine w_if_eq ok d0_192 (fun q => absurd q (by decide)) (fun _ => ?_)
              refine w_iconst ok (z := 0) d0_195 rfl ?_
              refine w_goto ok d0_196 ?_
              refine w_istore ok (Ls' := #[.val (.int nn), .val (.int fl), .val (.int (3 : Int32)), .val (.int (0 : Int32)), .val (.int (1 : Int32)), .val (.int (1 : Int32)), .val (.int (0 : Int32)), .val (.ref b1), .val (.int (1 : Int32)), .val (.int (0 : Int32)), .unset, .unset, .unset, .unset, .unset, .unset]) d0_217 rfl ?_
              exact JM _ _ _ _ Z0 E_a F_l F_m (by decide)
        · rcases hz4 with rfl | rfl
          · rcases hz5 with rfl | rfl
            · refine w_iloadN ok d0_68 rfl ?_
              refine w_iconst ok (z := 1) d0_69 rfl ?_
              refine w_ic_lt ok d0_70 (fun q => absurd q (by decide)) (fun _ => ?_)
              refine w_aload ok d0_73 rfl rfl ?_
              refine w_iloadN ok d0_75 rfl ?_
              refine w_virtN ok (argsL := [(.int (0 : Int32))]) (rest := []) (hw _ (List.mem_of_getElem? (i := 16) rfl)) (hw _ (List.mem_of_getElem? (i := 17) rfl)) (hw _ (List.mem_of_getElem? (i := 19) rfl)) (hw _ (List.mem_of_getElem? (i := 18) rfl)) (hw _ (List.mem_of_getElem? (i := 2) rfl)) (hw _ (List.mem_of_getElem? (i := 20) rfl)) E_a (by decide) (rmS l Z a0 hw n0 b1 (0 : Int32) (0 : Int32) (0 : Int32) (1 : Int32) h1 Z0 gn_b1 E_a F_l F_m (by decide)) d0_76 (lenOf pd__Z_V rfl) rfl rfl (Nat.le_of_ble_eq_true rfl) (Nat.le_of_ble_eq_true rfl) (k' := 1) (n' := 2) rfl rfl (Nat.le_of_ble_eq_true rfl) (Nat.le_of_ble_eq_true rfl) ?_
              rintro h56 ⟨Kc, E_a, F_l, F_m⟩
              have Z0 := Nat.le_trans Z0 Kc.1
              refine w_iloadN ok d0_79 rfl ?_
              refine w_iconst ok (z := 2) d0_80 rfl ?_
              refine w_ic_lt ok d0_81 (fun q => absurd q (by decide)) (fun _ => ?_)
              refine w_iload ok d0_84 rfl ?_
              refine w_if_eq ok d0_86 (fun q => absurd q (by decide)) (fun _ => ?_)
              refine w_aload ok d0_89 rfl rfl ?_
              refine w_virtV ok (argsL := []) (rest := []) (hw _ (List.mem_of_getElem? (i := 9) rfl)) (hw _ (List.mem_of_getElem? (i := 10) rfl)) (hw _ (List.mem_of_getElem? (i := 12) rfl)) (hw _ (List.mem_of_getElem? (i := 11) rfl)) (hw _ (List.mem_of_getElem? (i := 2) rfl)) (hw _ (List.mem_of_getElem? (i := 13) rfl)) E_a (by decide) (rmT l Z a0 hw n0 b1 (1 : Int32) (1 : Int32) (0 : Int32) (0 : Int32) h56 Z0 gn_b1 E_a F_l F_m (by decide) (by decide)) d0_91 (lenOf pd___Z rfl) rfl rfl (Nat.le_of_ble_eq_true rfl) (Nat.le_of_ble_eq_true rfl) (k' := 1) (n' := 2) rfl rfl (Nat.le_of_ble_eq_true rfl) (Nat.le_of_ble_eq_true rfl) ?_
              rintro _ h57 ⟨rfl, Kc, E_a, F_l, F_m⟩
              have Z0 := Nat.le_trans Z0 Kc.1
              refine w_istore ok (Ls' := #[.val (.int nn), .val (.int fl), .val (.int (3 : Int32)), .val (.int (0 : Int32)), .val (.int (0 : Int32)), .val (.int (0 : Int32)), .val (.int (1 : Int32)), .val (.ref b1), .val (.int (1 : Int32)), .val (.int (0 : Int32)), .unset, .unset, .unset, .unset, .unset, .unset]) d0_94 rfl ?_
              refine w_iload ok d0_96 rfl ?_
              refine w_iloadN ok d0_98 rfl ?_
              refine w_ic_ne ok d0_99 (fun q => absurd (by decide) q) (fun _ => ?_)
              refine w_iconst ok (z := 1) d0_102 rfl ?_
              refine w_goto ok d0_103 ?_
              refine w_istore ok (Ls' := #[.val (.int nn), .val (.int fl), .val (.int (3 : Int32)), .val (.int (0 : Int32)), .val (.int (0 : Int32)), .val (.int (0 : Int32)), .val (.int (1 : Int32)), .val (.ref b1), .val (.int (1 : Int32)), .val (.int (0 : Int32)), .unset, .unset, .unset, .unset, .unset, .unset]) d0_107 rfl ?_
              refine w_iloadN ok d0_109 rfl ?_
              refine w_iconst ok (z := 2) d0_110 rfl ?_
              refine w_ic_lt ok d0_111 (fun q => absurd q (by decide)) (fun _ => ?_)
              refine w_aload ok d0_114 rfl rfl ?_
              refine w_iload ok d0_116 rfl ?_
              refine w_virtN ok (argsL := [(.int (0 : Int32))]) (rest := []) (hw _ (List.mem_of_getElem? (i := 16) rfl)) (hw _ (List.mem_of_getElem? (i := 17) rfl)) (hw _ (List.mem_of_getElem? (i := 19) rfl)) (hw _ (List.mem_of_getElem? (i := 18) rfl)) (hw _ (List.mem_of_getElem? (i := 2) rfl)) (hw _ (List.mem_of_getElem? (i := 20) rfl)) E_a (by decide) (rmS l Z a0 hw n0 b1 (0 : Int32) (0 : Int32) (1 : Int32) (3 : Int32) h57 Z0 gn_b1 E_a F_l F_m (by decide)) d0_118 (lenOf pd__Z_V rfl) rfl rfl (Nat.le_of_ble_eq_true rfl) (Nat.le_of_ble_eq_true rfl) (k' := 1) (n' := 2) rfl rfl (Nat.le_of_ble_eq_true rfl) (Nat.le_of_ble_eq_true rfl) ?_
              rintro h58 ⟨Kc, E_a, F_l, F_m⟩
              have Z0 := Nat.le_trans Z0 Kc.1
              refine w_iloadN ok d0_121 rfl ?_
              refine w_iconst ok (z := 3) d0_122 rfl ?_
              refine w_ic_lt ok d0_123 (fun q => absurd q (by decide)) (fun _ => ?_)
              refine w_aload ok d0_126 rfl rfl ?_
              refine w_iload ok d0_128 rfl ?_
              refine w_virtN ok (argsL := [(.int (0 : Int32))]) (rest := []) (hw _ (List.mem_of_getElem? (i := 16) rfl)) (hw _ (List.mem_of_getElem? (i := 17) rfl)) (hw _ (List.mem_of_getElem? (i := 19) rfl)) (hw _ (List.mem_of_getElem? (i := 18) rfl)) (hw _ (List.mem_of_getElem? (i := 2) rfl)) (hw _ (List.mem_of_getElem? (i := 20) rfl)) E_a (by decide) (rmS l Z a0 hw n0 b1 (0 : Int32) (3 : Int32) (3 : Int32) (7 : Int32) h58 Z0 gn_b1 E_a F_l F_m (by decide)) d0_130 (lenOf pd__Z_V rfl) rfl rfl (Nat.le_of_ble_eq_true rfl) (Nat.le_of_ble_eq_true rfl) (k' := 1) (n' := 2) rfl rfl (Nat.le_of_ble_eq_true rfl) (Nat.le_of_ble_eq_true rfl) ?_
              rintro h59 ⟨Kc, E_a, F_l, F_m⟩
              have Z0 := Nat.le_trans Z0 Kc.1
              refine w_iloadN ok d0_133 rfl ?_
              refine w_if_ne ok d0_134 (fun _ => ?_) (fun q => absurd q (by decide))
              refine w_iloadN ok d0_143 rfl ?_
              refine w_iconst ok (z := 1) d0_144 rfl ?_
              refine w_ic_ne ok d0_145 (fun _ => ?_) (fun q => absurd q (by decide))
              refine w_iloadN ok d0_162 rfl ?_
              refine w_iconst ok (z := 2) d0_163 rfl ?_
              refine w_ic_ne ok d0_164 (fun _ => ?_) (fun q => absurd q (by decide))
              refine w_iload ok d0_190 rfl ?_
              refine w_if_eq ok d0_192 (fun _ => ?_) (fun q => absurd (by decide) q)
              refine w_iload ok d0_199 rfl ?_
              refine w_if_eq ok d0_201 (fun _ => ?_) (fun q => absurd (by decide) q)
              refine w_iloadN ok d0_208 rfl ?_
              refine w_if_eq ok d0_209 (fun _ => ?_) (fun q => absurd (by decide) q)
              refine w_iconst ok (z := 3) d0_216 rfl ?_
              refine w_istore ok (Ls' := #[.val (.int nn), .val (.int fl), .val (.int (3 : Int32)), .val (.int (0 : Int32)), .val (.int (0 : Int32)), .val (.int (0 : Int32)), .val (.int (1 : Int32)), .val (.ref b1), .val (.int (1 : Int32)), .val (.int (3 : Int32)), .unset, .unset, .unset, .unset, .unset, .unset]) d0_217 rfl ?_
              exact JM _ _ _ _ Z0 E_a F_l F_m (by decide)
            · refine w_iloadN ok d0_68 rfl ?_
              refine w_iconst ok (z := 1) d0_69 rfl ?_
              refine w_ic_lt ok d0_70 (fun q => absurd q (by decide)) (fun _ => ?_)
              refine w_aload ok d0_73 rfl rfl ?_
              refine w_iloadN ok d0_75 rfl ?_
              refine w_virtN ok (argsL := [(.int (0 : Int32))]) (rest := []) (hw _ (List.mem_of_getElem? (i := 16) rfl)) (hw _ (List.mem_of_getElem? (i := 17) rfl)) (hw _ (List.mem_of_getElem? (i := 19) rfl)) (hw _ (List.mem_of_getElem? (i := 18) rfl)) (hw _ (List.mem_of_getElem? (i := 2) rfl)) (hw _ (List.mem_of_getElem? (i := 20) rfl)) E_a (by decide) (rmS l Z a0 hw n0 b1 (0 : Int32) (0 : Int32) (0 : Int32) (1 : Int32) h1 Z0 gn_b1 E_a F_l F_m (by decide)) d0_76 (lenOf pd__Z_V rfl) rfl rfl (Nat.le_of_ble_eq_true rfl) (Nat.le_of_ble_eq_true rfl) (k' := 1) (n' := 2) rfl rfl (Nat.le_of_ble_eq_true rfl) (Nat.le_of_ble_eq_true rfl) ?_
              rintro h60 ⟨Kc, E_a, F_l, F_m⟩
              have Z0 := Nat.le_trans Z0 Kc.1
              refine w_iloadN ok d0_79 rfl ?_
              refine w_iconst ok (z := 2) d0_80 rfl ?_
              refine w_ic_lt ok d0_81 (fun q => absurd q (by decide)) (fun _ => ?_)
              refine w_iload ok d0_84 rfl ?_
              refine w_if_eq ok d0_86 (fun q => absurd q (by decide)) (fun _ => ?_)
              refine w_aload ok d0_89 rfl rfl ?_
              refine w_virtV ok (argsL := []) (rest := []) (hw _ (List.mem_of_getElem? (i := 9) rfl)) (hw _ (List.mem_of_getElem? (i := 10) rfl)) (hw _ (List.mem_of_getElem? (i := 12) rfl)) (hw _ (List.mem_of_getElem? (i := 11) rfl)) (hw _ (List.mem_of_getElem? (i := 2) rfl)) (hw _ (List.mem_of_getElem? (i := 13) rfl)) E_a (by decide) (rmT l Z a0 hw n0 b1 (1 : Int32) (1 : Int32) (0 : Int32) (0 : Int32) h60 Z0 gn_b1 E_a F_l F_m (by decide) (by decide)) d0_91 (lenOf pd___Z rfl) rfl rfl (Nat.le_of_ble_eq_true rfl) (Nat.le_of_ble_eq_true rfl) (k' := 1) (n' := 2) rfl rfl (Nat.le_of_ble_eq_true rfl) (Nat.le_of_ble_eq_true rfl) ?_
              rintro _ h61 ⟨rfl, Kc, E_a, F_l, F_m⟩
              have Z0 := Nat.le_trans Z0 Kc.1
              refine w_istore ok (Ls' := #[.val (.int nn), .val (.int fl), .val (.int (3 : Int32)), .val (.int (0 : Int32)), .val (.int (0 : Int32)), .val (.int (1 : Int32)), .val (.int (1 : Int32)), .val (.ref b1), .val (.int (1 : Int32)), .val (.int (0 : Int32)), .unset, .unset, .unset, .unset, .unset, .unset]) d0_94 rfl ?_
              refine w_iload ok d0_96 rfl ?_
              refine w_iloadN ok d0_98 rfl ?_
              refine w_ic_ne ok d0_99 (fun q => absurd (by decide) q) (fun _ => ?_)
              refine w_iconst ok (z := 1) d0_102 rfl ?_
              refine w_goto ok d0_103 ?_
              refine w_istore ok (Ls' := #[.val (.int nn), .val (.int fl), .val (.int (3 : Int32)), .val (.int (0 : Int32)), .val (.int (0 : Int32)), .val (.int (1 : Int32)), .val (.int (1 : Int32)), .val (.ref b1), .val (.int (1 : Int32)), .val (.int (0 : Int32)), .unset, .unset, .unset, .unset, .unset, .unset]) d0_107 rfl ?_
              refine w_iloadN ok d0_109 rfl ?_
              refine w_iconst ok (z := 2) d0_110 rfl ?_
              refine w_ic_lt ok d0_111 (fun q => absurd q (by decide)) (fun _ => ?_)
              refine w_aload ok d0_114 rfl rfl ?_
              refine w_iload ok d0_116 rfl ?_
              refine w_virtN ok (argsL := [(.int (0 : Int32))]) (rest := []) (hw _ (List.mem_of_getElem? (i := 16) rfl)) (hw _ (List.mem_of_getElem? (i := 17) rfl)) (hw _ (List.mem_of_getElem? (i := 19) rfl)) (hw _ (List.mem_of_getElem? (i := 18) rfl)) (hw _ (List.mem_of_getElem? (i := 2) rfl)) (hw _ (List.mem_of_getElem? (i := 20) rfl)) E_a (by decide) (rmS l Z a0 hw n0 b1 (0 : Int32) (0 : Int32) (1 : Int32) (3 : Int32) h61 Z0 gn_b1 E_a F_l F_m (by decide)) d0_118 (lenOf pd__Z_V rfl) rfl rfl (Nat.le_of_ble_eq_true rfl) (Nat.le_of_ble_eq_true rfl) (k' := 1) (n' := 2) rfl rfl (Nat.le_of_ble_eq_true rfl) (Nat.le_of_ble_eq_true rfl) ?_
              rintro h62 ⟨Kc, E_a, F_l, F_m⟩
              have Z0 := Nat.le_trans Z0 Kc.1
              refine w_iloadN ok d0_121 rfl ?_
              refine w_iconst ok (z := 3) d0_122 rfl ?_
              refine w_ic_lt ok d0_123 (fun q => absurd q (by decide)) (fun _ => ?_)
              refine w_aload ok d0_126 rfl rfl ?_
              refine w_iload ok d0_128 rfl ?_
              refine w_virtN ok (argsL := [(.int (1 : Int32))]) (rest := []) (hw _ (List.mem_of_getElem? (i := 16) rfl)) (hw _ (List.mem_of_getElem? (i := 17) rfl)) (hw _ (List.mem_of_getElem? (i := 19) rfl)) (hw _ (List.mem_of_getElem? (i := 18) rfl)) (hw _ (List.mem_of_getElem? (i := 2) rfl)) (hw _ (List.mem_of_getElem? (i := 20) rfl)) E_a (by decide) (rmS l Z a0 hw n0 b1 (1 : Int32) (3 : Int32) (3 : Int32) (0 : Int32) h62 Z0 gn_b1 E_a F_l F_m (by decide)) d0_130 (lenOf pd__Z_V rfl) rfl rfl (Nat.le_of_ble_eq_true rfl) (Nat.le_of_ble_eq_true rfl) (k' := 1) (n' := 2) rfl rfl (Nat.le_of_ble_eq_true rfl) (Nat.le_of_ble_eq_true rfl) ?_
              rintro h63 ⟨Kc, E_a, F_l, F_m⟩
              have Z0 := Nat.le_trans Z0 Kc.1
              refine w_iloadN ok d0_133 rfl ?_
              refine w_if_ne ok d0_134 (fun _ => ?_) (fun q => absurd q (by decide))
              refine w_iloadN ok d0_143 rfl ?_
              refine w_iconst ok (z := 1) d0_144 rfl ?_
              refine w_ic_ne ok d0_145 (fun _ => ?_) (fun q => absurd q (by decide))
              refine w_iloadN ok d0_162 rfl ?_
              refine w_iconst ok (z := 2) d0_163 rfl ?_
              refine w_ic_ne ok d0_164 (fun _ => ?_) (fun q => absurd q (by decide))
              refine w_iload ok d0_190 rfl ?_
              refine w_if_eq ok d0_192 (fun q => absurd q (by decide)) (fun _ => ?_)
              refine w_iconst ok (z := 0) d0_195 rfl ?_
              refine w_goto ok d0_196 ?_
              refine w_istore ok (Ls' := #[.val (.int nn), .val (.int fl), .val (.int (3 : Int32)), .val (.int (0 : Int32)), .val (.int (0 : Int32)), .val (.int (1 : Int32)), .val (.int (1 : Int32)), .val (.ref b1), .val (.int (1 : Int32)), .val (.int (0 : Int32)), .unset, .unset, .unset, .unset, .unset, .unset]) d0_217 rfl ?_
              exact JM _ _ _ _ Z0 E_a F_l F_m (by decide)
          · rcases hz5 with rfl | rfl
            · refine w_iloadN ok d0_68 rfl ?_
              refine w_iconst ok (z := 1) d0_69 rfl ?_
              refine w_ic_lt ok d0_70 (fun q => absurd q (by decide)) (fun _ => ?_)
              refine w_aload ok d0_73 rfl rfl ?_
              refine w_iloadN ok d0_75 rfl ?_
              refine w_virtN ok (argsL := [(.int (0 : Int32))]) (rest := []) (hw _ (List.mem_of_getElem? (i := 16) rfl)) (hw _ (List.mem_of_getElem? (i := 17) rfl)) (hw _ (List.mem_of_getElem? (i := 19) rfl)) (hw _ (List.mem_of_getElem? (i := 18) rfl)) (hw _ (List.mem_of_getElem? (i := 2) rfl)) (hw _ (List.mem_of_getElem? (i := 20) rfl)) E_a (by decide) (rmS l Z a0 hw n0 b1 (0 : Int32) (0 : Int32) (0 : Int32) (1 : Int32) h1 Z0 gn_b1 E_a F_l F_m (by decide)) d0_76 (lenOf pd__Z_V rfl) rfl rfl (Nat.le_of_ble_eq_true rfl) (Nat.le_of_ble_eq_true rfl) (k' := 1) (n' := 2) rfl rfl (Nat.le_of_ble_eq_true rfl) (Nat.le_of_ble_eq_true rfl) ?_
              rintro h64 ⟨Kc, E_a, F_l, F_m⟩
              have Z0 := Nat.le_trans Z0 Kc.1
              refine w_iloadN ok d0_79 rfl ?_
              refine w_iconst ok (z := 2) d0_80 rfl ?_
              refine w_ic_lt ok d0_81 (fun q => absurd q (by decide)) (fun _ => ?_)
              refine w_iload ok d0_84 rfl ?_
              refine w_if_eq ok d0_86 (fun q => absurd q (by decide)) (fun _ => ?_)
              refine w_aload ok d0_89 rfl rfl ?_
              refine w_virtV ok (argsL := []) (rest := []) (hw _ (List.mem_of_getElem? (i := 9) rfl)) (hw _ (List.mem_of_getElem? (i := 10) rfl)) (hw _ (List.mem_of_getElem? (i := 12) rfl)) (hw _ (List.mem_of_getElem? (i := 11) rfl)) (hw _ (List.mem_of_getElem? (i := 2) rfl)) (hw _ (List.mem_of_getElem? (i := 13) rfl)) E_a (by decide) (rmT l Z a0 hw n0 b1 (1 : Int32) (1 : Int32) (0 : Int32) (0 : Int32) h64 Z0 gn_b1 E_a F_l F_m (by decide) (by decide)) d0_91 (lenOf pd___Z rfl) rfl rfl (Nat.le_of_ble_eq_true rfl) (Nat.le_of_ble_eq_true rfl) (k' := 1) (n' := 2) rfl rfl (Nat.le_of_ble_eq_true rfl) (Nat.le_of_ble_eq_true rfl) ?_
              rintro _ h65 ⟨rfl, Kc, E_a, F_l, F_m⟩
              have Z0 := Nat.le_trans Z0 Kc.1
              refine w_istore ok (Ls' := #[.val (.int nn), .val (.int fl), .val (.int (3 : Int32)), .val (.int (0 : Int32)), .val (.int (1 : Int32)), .val (.int (0 : Int32)), .val (.int (1 : Int32)), .val (.ref b1), .val (.int (1 : Int32)), .val (.int (0 : Int32)), .unset, .unset, .unset, .unset, .unset, .unset]) d0_94 rfl ?_
              refine w_iload ok d0_96 rfl ?_
              refine w_iloadN ok d0_98 rfl ?_
              refine w_ic_ne ok d0_99 (fun q => absurd (by decide) q) (fun _ => ?_)
              refine w_iconst ok (z := 1) d0_102 rfl ?_
              refine w_goto ok d0_103 ?_
              refine w_istore ok (Ls' := #[.val (.int nn), .val (.int fl), .val (.int (3 : Int32)), .val (.int (0 : Int32)), .val (.int (1 : Int32)), .val (.int (0 : Int32)), .val (.int (1 : Int32)), .val (.ref b1), .val (.int (1 : Int32)), .val (.int (0 : Int32)), .unset, .unset, .unset, .unset, .unset, .unset]) d0_107 rfl ?_
              refine w_iloadN ok d0_109 rfl ?_
              refine w_iconst ok (z := 2) d0_110 rfl ?_
              refine w_ic_lt ok d0_111 (fun q => absurd q (by decide)) (fun _ => ?_)
              refine w_aload ok d0_114 rfl rfl ?_
              refine w_iload ok d0_116 rfl ?_
              refine w_virtN ok (argsL := [(.int (1 : Int32))]) (rest := []) (hw _ (List.mem_of_getElem? (i := 16) rfl)) (hw _ (List.mem_of_getElem? (i := 17) rfl)) (hw _ (List.mem_of_getElem? (i := 19) rfl)) (hw _ (List.mem_of_getElem? (i := 18) rfl)) (hw _ (List.mem_of_getElem? (i := 2) rfl)) (hw _ (List.mem_of_getElem? (i := 20) rfl)) E_a (by decide) (rmS l Z a0 hw n0 b1 (1 : Int32) (0 : Int32) (1 : Int32) (0 : Int32) h65 Z0 gn_b1 E_a F_l F_m (by decide)) d0_118 (lenOf pd__Z_V rfl) rfl rfl (Nat.le_of_ble_eq_true rfl) (Nat.le_of_ble_eq_true rfl) (k' := 1) (n' := 2) rfl rfl (Nat.le_of_ble_eq_true rfl) (Nat.le_of_ble_eq_true rfl) ?_
              rintro h66 ⟨Kc, E_a, F_l, F_m⟩
              have Z0 := Nat.le_trans Z0 Kc.1
              refine w_iloadN ok d0_121 rfl ?_
              refine w_iconst ok (z := 3) d0_122 rfl ?_
              refine w_ic_lt ok d0_123 (fun q => absurd q (by decide)) (fun _ => ?_)
              refine w_aload ok d0_126 rfl rfl ?_
              refine w_iload ok d0_128 rfl ?_
              refine w_virtN ok (argsL := [(.int (0 : Int32))]) (rest := []) (hw _ (List.mem_of_getElem? (i := 16) rfl)) (hw _ (List.mem_of_getElem? (i := 17) rfl)) (hw _ (List.mem_of_getElem? (i := 19) rfl)) (hw _ (List.mem_of_getElem? (i := 18) rfl)) (hw _ (List.mem_of_getElem? (i := 2) rfl)) (hw _ (List.mem_of_getElem? (i := 20) rfl)) E_a (by decide) (rmS l Z a0 hw n0 b1 (0 : Int32) (0 : Int32) (0 : Int32) (1 : Int32) h66 Z0 gn_b1 E_a F_l F_m (by decide)) d0_130 (lenOf pd__Z_V rfl) rfl rfl (Nat.le_of_ble_eq_true rfl) (Nat.le_of_ble_eq_true rfl) (k' := 1) (n' := 2) rfl rfl (Nat.le_of_ble_eq_true rfl) (Nat.le_of_ble_eq_true rfl) ?_
              rintro h67 ⟨Kc, E_a, F_l, F_m⟩
              have Z0 := Nat.le_trans Z0 Kc.1
              refine w_iloadN ok d0_133 rfl ?_
              refine w_if_ne ok d0_134 (fun _ => ?_) (fun q => absurd q (by decide))
              refine w_iloadN ok d0_143 rfl ?_
              refine w_iconst ok (z := 1) d0_144 rfl ?_
              refine w_ic_ne ok d0_145 (fun _ => ?_) (fun q => absurd q (by decide))
              refine w_iloadN ok d0_162 rfl ?_
              refine w_iconst ok (z := 2) d0_163 rfl ?_
              refine w_ic_ne ok d0_164 (fun _ => ?_) (fun q => absurd q (by decide))
              refine w_iload ok d0_190 rfl ?_
              refine w_if_eq ok d0_192 (fun _ => ?_) (fun q => absurd (by decide) q)
              refine w_iload ok d0_199 rfl ?_
              refine w_if_eq ok d0_201 (fun q => absurd q (by decide)) (fun _ => ?_)
              refine w_iconst ok (z := 1) d0_204 rfl ?_
              refine w_goto ok d0_205 ?_
              refine w_istore ok (Ls' := #[.val (.int nn), .val (.int fl), .val (.int (3 : Int32)), .val (.int (0 : Int32)), .val (.int (1 : Int32)), .val (.int (0 : Int32)), .val (.int (1 : Int32)), .val (.ref b1), .val (.int (1 : Int32)), .val (.int (1 : Int32)), .unset, .unset, .unset, .unset, .unset, .unset]) d0_217 rfl ?_
              exact JM _ _ _ _ Z0 E_a F_l F_m (by decide)
            · refine w_iloadN ok d0_68 rfl ?_
              refine w_iconst ok (z := 1) d0_69 rfl ?_
              refine w_ic_lt ok d0_70 (fun q => absurd q (by decide)) (fun _ => ?_)
              refine w_aload ok d0_73 rfl rfl ?_
              refine w_iloadN ok d0_75 rfl ?_
              refine w_virtN ok (argsL := [(.int (0 : Int32))]) (rest := []) (hw _ (List.mem_of_getElem? (i := 16) rfl)) (hw _ (List.mem_of_getElem? (i := 17) rfl)) (hw _ (List.mem_of_getElem? (i := 19) rfl)) (hw _ (List.mem_of_getElem? (i := 18) rfl)) (hw _ (List.mem_of_getElem? (i := 2) rfl)) (hw _ (List.mem_of_getElem? (i := 20) rfl)) E_a (by decide) (rmS l Z a0 hw n0 b1 (0 : Int32) (0 : Int32) (0 : Int32) (1 : Int32) h1 Z0 gn_b1 E_a F_l F_m (by decide)) d0_76 (lenOf pd__Z_V rfl) rfl rfl (Nat.le_of_ble_eq_true rfl) (Nat.le_of_ble_eq_true rfl) (k' := 1) (n' := 2) rfl rfl (Nat.le_of_ble_eq_true rfl) (Nat.le_of_ble_eq_true rfl) ?_
              rintro h68 ⟨Kc, E_a, F_l, F_m⟩
              have Z0 := Nat.le_trans Z0 Kc.1
              refine w_iloadN ok d0_79 rfl ?_
              refine w_iconst ok (z := 2) d0_80 rfl ?_
              refine w_ic_lt ok d0_81 (fun q => absurd q (by decide)) (fun _ => ?_)
              refine w_iload ok d0_84 rfl ?_
              refine w_if_eq ok d0_86 (fun q => absurd q (by decide)) (fun _ => ?_)
              refine w_aload ok d0_89 rfl rfl ?_
              refine w_virtV ok (argsL := []) (rest := []) (hw _ (List.mem_of_getElem? (i := 9) rfl)) (hw _ (List.mem_of_getElem? (i := 10) rfl)) (hw _ (List.mem_of_getElem? (i := 12) rfl)) (hw _ (List.mem_of_getElem? (i := 11) rfl)) (hw _ (List.mem_of_getElem? (i := 2) rfl)) (hw _ (List.mem_of_getElem? (i := 13) rfl)) E_a (by decide) (rmT l Z a0 hw n0 b1 (1 : Int32) (1 : Int32) (0 : Int32) (0 : Int32) h68 Z0 gn_b1 E_a F_l F_m (by decide) (by decide)) d0_91 (lenOf pd___Z rfl) rfl rfl (Nat.le_of_ble_eq_true rfl) (Nat.le_of_ble_eq_true rfl) (k' := 1) (n' := 2) rfl rfl (Nat.le_of_ble_eq_true rfl) (Nat.le_of_ble_eq_true rfl) ?_
              rintro _ h69 ⟨rfl, Kc, E_a, F_l, F_m⟩
              have Z0 := Nat.le_trans Z0 Kc.1
              refine w_istore ok (Ls' := #[.val (.int nn), .val (.int fl), .val (.int (3 : Int32)), .val (.int (0 : Int32)), .val (.int (1 : Int32)), .val (.int (1 : Int32)), .val (.int (1 : Int32)), .val (.ref b1), .val (.int (1 : Int32)), .val (.int (0 : Int32)), .unset, .unset, .unset, .unset, .unset, .unset]) d0_94 rfl ?_
              refine w_iload ok d0_96 rfl ?_
              refine w_iloadN ok d0_98 rfl ?_
              refine w_ic_ne ok d0_99 (fun q => absurd (by decide) q) (fun _ => ?_)
              refine w_iconst ok (z := 1) d0_102 rfl ?_
              refine w_goto ok d0_103 ?_
              refine w_istore ok (Ls' := #[.val (.int nn), .val (.int fl), .val (.int (3 : Int32)), .val (.int (0 : Int32)), .val (.int (1 : Int32)), .val (.int (1 : Int32)), .val (.int (1 : Int32)), .val (.ref b1), .val (.int (1 : Int32)), .val (.int (0 : Int32)), .unset, .unset, .unset, .unset, .unset, .unset]) d0_107 rfl ?_
              refine w_iloadN ok d0_109 rfl ?_
              refine w_iconst ok (z := 2) d0_110 rfl ?_
              refine w_ic_lt ok d0_111 (fun q => absurd q (by decide)) (fun _ => ?_)
              refine w_aload ok d0_114 rfl rfl ?_
              refine w_iload ok d0_116 rfl ?_
              refine w_virtN ok (argsL := [(.int (1 : Int32))]) (rest := []) (hw _ (List.mem_of_getElem? (i := 16) rfl)) (hw _ (List.mem_of_getElem? (i := 17) rfl)) (hw _ (List.mem_of_getElem? (i := 19) rfl)) (hw _ (List.mem_of_getElem? (i := 18) rfl)) (hw _ (List.mem_of_getElem? (i := 2) rfl)) (hw _ (List.mem_of_getElem? (i := 20) rfl)) E_a (by decide) (rmS l Z a0 hw n0 b1 (1 : Int32) (0 : Int32) (1 : Int32) (0 : Int32) h69 Z0 gn_b1 E_a F_l F_m (by decide)) d0_118 (lenOf pd__Z_V rfl) rfl rfl (Nat.le_of_ble_eq_true rfl) (Nat.le_of_ble_eq_true rfl) (k' := 1) (n' := 2) rfl rfl (Nat.le_of_ble_eq_true rfl) (Nat.le_of_ble_eq_true rfl) ?_
              rintro h70 ⟨Kc, E_a, F_l, F_m⟩
              have Z0 := Nat.le_trans Z0 Kc.1
              refine w_iloadN ok d0_121 rfl ?_
              refine w_iconst ok (z := 3) d0_122 rfl ?_
              refine w_ic_lt ok d0_123 (fun q => absurd q (by decide)) (fun _ => ?_)
              refine w_aload ok d0_126 rfl rfl ?_
              refine w_iload ok d0_128 rfl ?_
              refine w_virtN ok (argsL := [(.int (1 : Int32))]) (rest := []) (hw _ (List.mem_of_getElem? (i := 16) rfl)) (hw _ (List.mem_of_getElem? (i := 17) rfl)) (hw _ (List.mem_of_getElem? (i := 19) rfl)) (hw _ (List.mem_of_getElem? (i := 18) rfl)) (hw _ (List.mem_of_getElem? (i := 2) rfl)) (hw _ (List.mem_of_getElem? (i := 20) rfl)) E_a (by decide) (rmS l Z a0 hw n0 b1 (1 : Int32) (0 : Int32) (0 : Int32) (0 : Int32) h70 Z0 gn_b1 E_a F_l F_m (by decide)) d0_130 (lenOf pd__Z_V rfl) rfl rfl (Nat.le_of_ble_eq_true rfl) (Nat.le_of_ble_eq_true rfl) (k' := 1) (n' := 2) rfl rfl (Nat.le_of_ble_eq_true rfl) (Nat.le_of_ble_eq_true rfl) ?_
              rintro h71 ⟨Kc, E_a, F_l, F_m⟩
              have Z0 := Nat.le_trans Z0 Kc.1
              refine w_iloadN ok d0_133 rfl ?_
              refine w_if_ne ok d0_134 (fun _ => ?_) (fun q => absurd q (by decide))
              refine w_iloadN ok d0_143 rfl ?_
              refine w_iconst ok (z := 1) d0_144 rfl ?_
              refine w_ic_ne ok d0_145 (fun _ => ?_) (fun q => absurd q (by decide))
              refine w_iloadN ok d0_162 rfl ?_
              refine w_iconst ok (z := 2) d0_163 rfl ?_
              refine w_ic_ne ok d0_164 (fun _ => ?_) (fun q => absurd q (by decide))
              refine w_iload ok d0_190 rfl ?_
              refine w_if_eq ok d0_192 (fun q => absurd q (by decide)) (fun _ => ?_)
              refine w_iconst ok (z := 0) d0_195 rfl ?_
              refine w_goto ok d0_196 ?_
              refine w_istore ok (Ls' := #[.val (.int nn), .val (.int fl), .val (.int (3 : Int32)), .val (.int (0 : Int32)), .val (.int (1 : Int32)), .val (.int (1 : Int32)), .val (.int (1 : Int32)), .val (.ref b1), .val (.int (1 : Int32)), .val (.int (0 : Int32)), .unset, .unset, .unset, .unset, .unset, .unset]) d0_217 rfl ?_
              exact JM _ _ _ _ Z0 E_a F_l F_m (by decide)
      · rcases hz6 with rfl | rfl
        · rcases hz4 with rfl | rfl
          · rcases hz5 with rfl | rfl
            · refine w_iloadN ok d0_68 rfl ?_
              refine w_iconst ok (z := 1) d0_69 rfl ?_
              refine w_ic_lt ok d0_70 (fun q => absurd q (by decide)) (fun _ => ?_)
              refine w_aload ok d0_73 rfl rfl ?_
              refine w_iloadN ok d0_75 rfl ?_
              refine w_virtN ok (argsL := [(.int (1 : Int32))]) (rest := []) (hw _ (List.mem_of_getElem? (i := 16) rfl)) (hw _ (List.mem_of_getElem? (i := 17) rfl)) (hw _ (List.mem_of_getElem? (i := 19) rfl)) (hw _ (List.mem_of_getElem? (i := 18) rfl)) (hw _ (List.mem_of_getElem? (i := 2) rfl)) (hw _ (List.mem_of_getElem? (i := 20) rfl)) E_a (by decide) (rmS l Z a0 hw n0 b1 (1 : Int32) (0 : Int32) (0 : Int32) (0 : Int32) h1 Z0 gn_b1 E_a F_l F_m (by decide)) d0_76 (lenOf pd__Z_V rfl) rfl rfl (Nat.le_of_ble_eq_true rfl) (Nat.le_of_ble_eq_true rfl) (k' := 1) (n' := 2) rfl rfl (Nat.le_of_ble_eq_true rfl) (Nat.le_of_ble_eq_true rfl) ?_
              rintro h72 ⟨Kc, E_a, F_l, F_m⟩
              have Z0 := Nat.le_trans Z0 Kc.1
              refine w_iloadN ok d0_79 rfl ?_
              refine w_iconst ok (z := 2) d0_80 rfl ?_
              refine w_ic_lt ok d0_81 (fun q => absurd q (by decide)) (fun _ => ?_)
              refine w_iload ok d0_84 rfl ?_
              refine w_if_eq ok d0_86 (fun _ => ?_) (fun q => absurd (by decide) q)
              refine w_iloadN ok d0_109 rfl ?_
              refine w_iconst ok (z := 2) d0_110 rfl ?_
              refine w_ic_lt ok d0_111 (fun q => absurd q (by decide)) (fun _ => ?_)
              refine w_aload ok d0_114 rfl rfl ?_
              refine w_iload ok d0_116 rfl ?_
              refine w_virtN ok (argsL := [(.int (0 : Int32))]) (rest := []) (hw _ (List.mem_of_getElem? (i := 16) rfl)) (hw _ (List.mem_of_getElem? (i := 17) rfl)) (hw _ (List.mem_of_getElem? (i := 19) rfl)) (hw _ (List.mem_of_getElem? (i := 18) rfl)) (hw _ (List.mem_of_getElem? (i := 2) rfl)) (hw _ (List.mem_of_getElem? (i := 20) rfl)) E_a (by decide) (rmS l Z a0 hw n0 b1 (0 : Int32) (0 : Int32) (0 : Int32) (1 : Int32) h72 Z0 gn_b1 E_a F_l F_m (by decide)) d0_118 (lenOf pd__Z_V rfl) rfl rfl (Nat.le_of_ble_eq_true rfl) (Nat.le_of_ble_eq_true rfl) (k' := 1) (n' := 2) rfl rfl (Nat.le_of_ble_eq_true rfl) (Nat.le_of_ble_eq_true rfl) ?_
              rintro h73 ⟨Kc, E_a, F_l, F_m⟩
              have Z0 := Nat.le_trans Z0 Kc.1
              refine w_iloadN ok d0_121 rfl ?_
              refine w_iconst ok (z := 3) d0_122 rfl ?_
              refine w_ic_lt ok d0_123 (fun q => absurd q (by decide)) (fun _ => ?_)
              refine w_aload ok d0_126 rfl rfl ?_
              refine w_iload ok d0_128 rfl ?_
              refine w_virtN ok (argsL := [(.int (0 : Int32))]) (rest := []) (hw _ (List.mem_of_getElem? (i := 16) rfl)) (hw _ (List.mem_of_getElem? (i := 17) rfl)) (hw _ (List.mem_of_getElem? (i := 19) rfl)) (hw _ (List.mem_of_getElem? (i := 18) rfl)) (hw _ (List.mem_of_getElem? (i := 2) rfl)) (hw _ (List.mem_of_getElem? (i := 20) rfl)) E_a (by decide) (rmS l Z a0 hw n0 b1 (0 : Int32) (1 : Int32) (1 : Int32) (3 : Int32) h73 Z0 gn_b1 E_a F_l F_m (by decide)) d0_130 (lenOf pd__Z_V rfl) rfl rfl (Nat.le_of_ble_eq_true rfl) (Nat.le_of_ble_eq_true rfl) (k' := 1) (n' := 2) rfl rfl (Nat.le_of_ble_eq_true rfl) (Nat.le_of_ble_eq_true rfl) ?_
              rintro h74 ⟨Kc, E_a, F_l, F_m⟩
              have Z0 := Nat.le_trans Z0 Kc.1
              refine w_iloadN ok d0_133 rfl ?_
              refine w_if_ne ok d0_134 (fun _ => ?_) (fun q => absurd q (by decide))
              refine w_iloadN ok d0_143 rfl ?_
              refine w_iconst ok (z := 1) d0_144 rfl ?_
              refine w_ic_ne ok d0_145 (fun _ => ?_) (fun q => absurd q (by decide))
              refine w_iloadN ok d0_162 rfl ?_
              refine w_iconst ok (z := 2) d0_163 rfl ?_
              refine w_ic_ne ok d0_164 (fun _ => ?_) (fun q => absurd q (by decide))
              refine w_iload ok d0_190 rfl ?_
              refine w_if_eq ok d0_192 (fun _ => ?_) (fun q => absurd (by decide) q)
              refine w_iload ok d0_199 rfl ?_
              refine w_if_eq ok d0_201 (fun _ => ?_) (fun q => absurd (by decide) q)
              refine w_iloadN ok d0_208 rfl ?_
              refine w_if_eq ok d0_209 (fun q => absurd q (by decide)) (fun _ => ?_)
              refine w_iconst ok (z := 2) d0_212 rfl ?_
              refine w_goto ok d0_213 ?_
              refine w_istore ok (Ls' := #[.val (.int nn), .val (.int fl), .val (.int (3 : Int32)), .val (.int (1 : Int32)), .val (.int (0 : Int32)), .val (.int (0 : Int32)), .val (.int (0 : Int32)), .val (.ref b1), .val (.int (1 : Int32)), .val (.int (2 : Int32)), .unset, .unset, .unset, .unset, .unset, .unset]) d0_217 rfl ?_
              exact JM _ _ _ _ Z0 E_a F_l F_m (by decide)
            · refine w_iloadN ok d0_68 rfl ?_
              refine w_iconst ok (z := 1) d0_69 rfl ?_
              refine w_ic_lt ok d0_70 (fun q => absurd q (by decide)) (fun _ => ?_)
              refine w_aload ok d0_73 rfl rfl ?_
              refine w_iloadN ok d0_75 rfl ?_
              refine w_virtN ok (argsL := [(.int (1 : Int32))]) (rest := []) (hw _ (List.mem_of_getElem? (i := 16) rfl)) (hw _ (List.mem_of_getElem? (i := 17) rfl)) (hw _ (List.mem_of_getElem? (i := 19) rfl)) (hw _ (List.mem_of_getElem? (i := 18) rfl)) (hw _ (List.mem_of_getElem? (i := 2) rfl)) (hw _ (List.mem_of_getElem? (i := 20) rfl)) E_a (by decide) (rmS l Z a0 hw n0 b1 (1 : Int32) (0 : Int32) (0 : Int32) (0 : Int32) h1 Z0 gn_b1 E_a F_l F_m (by decide)) d0_76 (lenOf pd__Z_V rfl) rfl rfl (Nat.le_of_ble_eq_true rfl) (Nat.le_of_ble_eq_true rfl) (k' := 1) (n' := 2) rfl rfl (Nat.le_of_ble_eq_true rfl) (Nat.le_of_ble_eq_true rfl) ?_
              rintro h75 ⟨Kc, E_a, F_l, F_m⟩
              have Z0 := Nat.le_trans Z0 Kc.1
              refine w_iloadN ok d0_79 rfl ?_
              refine w_iconst ok (z := 2) d0_80 rfl ?_
              refine w_ic_lt ok d0_81 (fun q => absurd q (by decide)) (fun _ => ?_)
              refine w_iload ok d0_84 rfl ?_
              refine w_if_eq ok d0_86 (fun _ => ?_) (fun q => absurd (by decide) q)
              refine w_iloadN ok d0_109 rfl ?_
              refine w_iconst ok (z := 2) d0_110 rfl ?_
              refine w_ic_lt ok d0_111 (fun q => absurd q (by decide)) (fun _ => ?_)
              refine w_aload ok d0_114 rfl rfl ?_
              refine w_iload ok d0_116 rfl ?_
              refine w_virtN ok (argsL := [(.int (0 : Int32))]) (rest := []) (hw _ (List.mem_of_getElem? (i := 16) rfl)) (hw _ (List.mem_of_getElem? (i := 17) rfl)) (hw _ (List.mem_of_getElem? (i := 19) rfl)) (hw _ (List.mem_of_getElem? (i := 18) rfl)) (hw _ (List.mem_of_getElem? (i := 2) rfl)) (hw _ (List.mem_of_getElem? (i := 20) rfl)) E_a (by decide) (rmS l Z a0 hw n0 b1 (0 : Int32) (0 : Int32) (0 : Int32) (1 : Int32) h75 Z0 gn_b1 E_a F_l F_m (by decide)) d0_118 (lenOf pd__Z_V rfl) rfl rfl (Nat.le_of_ble_eq_true rfl) (Nat.le_of_ble_eq_true rfl) (k' := 1) (n' := 2) rfl rfl (Nat.le_of_ble_eq_true rfl) (Nat.le_of_ble_eq_true rfl) ?_
              rintro h76 ⟨Kc, E_a, F_l, F_m⟩
              have Z0 := Nat.le_trans Z0 Kc.1
              refine w_iloadN ok d0_121 rfl ?_
              refine w_iconst ok (z := 3) d0_122 rfl ?_
              refine w_ic_lt ok d0_123 (fun q => absurd q (by decide)) (fun _ => ?_)
              refine w_aload ok d0_126 rfl rfl ?_
              refine w_iload ok d0_128 rfl ?_
              refine w_virtN ok (argsL := [(.int (1 : Int32))]) (rest := []) (hw _ (List.mem_of_getElem? (i := 16) rfl)) (hw _ (List.mem_of_getElem? (i := 17) rfl)) (hw _ (List.mem_of_getElem? (i := 19) rfl)) (hw _ (List.mem_of_getElem? (i := 18) rfl)) (hw _ (List.mem_of_getElem? (i := 2) rfl)) (hw _ (List.mem_of_getElem? (i := 20) rfl)) E_a (by decide) (rmS l Z a0 hw n0 b1 (1 : Int32) (1 : Int32) (1 : Int32) (0 : Int32) h76 Z0 gn_b1 E_a F_l F_m (by decide)) d0_130 (lenOf pd__Z_V rfl) rfl rfl (Nat.le_of_ble_eq_true rfl) (Nat.le_of_ble_eq_true rfl) (k' := 1) (n' := 2) rfl rfl (Nat.le_of_ble_eq_true rfl) (Nat.le_of_ble_eq_true rfl) ?_
              rintro h77 ⟨Kc, E_a, F_l, F_m⟩
              have Z0 := Nat.le_trans Z0 Kc.1
              refine w_iloadN ok d0_133 rfl ?_
              refine w_if_ne ok d0_134 (fun _ => ?_) (fun q => absurd q (by decide))
              refine w_iloadN ok d0_143 rfl ?_
              refine w_iconst ok (z := 1) d0_144 rfl ?_
              refine w_ic_ne ok d0_145 (fun _ => ?_) (fun q => absurd q (by decide))
              refine w_iloadN ok d0_162 rfl ?_
              refine w_iconst ok (z := 2) d0_163 rfl ?_
              refine w_ic_ne ok d0_164 (fun _ => ?_) (fun q => absurd q (by decide))
              refine w_iload ok d0_190 rfl ?_
              refine w_if_eq ok d0_192 (fun q => absurd q (by decide)) (fun _ => ?_)
              refine w_iconst ok (z := 0) d0_195 rfl ?_
              refine w_goto ok d0_196 ?_
              refine w_istore ok (Ls' := #[.val (.int nn), .val (.int fl), .val (.int (3 : Int32)), .val (.int (1 : Int32)), .val (.int (0 : Int32)), .val (.int (1 : Int32)), .val (.int (0 : Int32)), .val (.ref b1), .val (.int (1 : Int32)), .val (.int (0 : Int32)), .unset, .unset, .unset, .unset, .unset, .unset]) d0_217 rfl ?_
              exact JM _ _ _ _ Z0 E_a F_l F_m (by decide)
          · rcases hz5 with rfl | rfl
            · refine w_iloadN ok d0_68 rfl ?_
              refine w_iconst ok (z := 1) d0_69 rfl ?_
              refine w_ic_lt ok d0_70 (fun q => absurd q (by decide)) (fun _ => ?_)
              refine w_aload ok d0_73 rfl rfl ?_
              refine w_iloadN ok d0_75 rfl ?_
              refine w_virtN ok (argsL := [(.int (1 : Int32))]) (rest := []) (hw _ (List.mem_of_getElem? (i := 16) rfl)) (hw _ (List.mem_of_getElem? (i := 17) rfl)) (hw _ (List.mem_of_getElem? (i := 19) rfl)) (hw _ (List.mem_of_getElem? (i := 18) rfl)) (hw _ (List.mem_of_getElem? (i := 2) rfl)) (hw _ (List.mem_of_getElem? (i := 20) rfl)) E_a (by decide) (rmS l Z a0 hw n0 b1 (1 : Int32) (0 : Int32) (0 : Int32) (0 : Int32) h1 Z0 gn_b1 E_a F_l F_m (by decide)) d0_76 (lenOf pd__Z_V rfl) rfl rfl (Nat.le_of_ble_eq_true rfl) (Nat.le_of_ble_eq_true rfl) (k' := 1) (n' := 2) rfl rfl (Nat.le_of_ble_eq_true rfl) (Nat.le_of_ble_eq_true rfl) ?_
              rintro h78 ⟨Kc, E_a, F_l, F_m⟩
              have Z0 := Nat.le_trans Z0 Kc.1
              refine w_iloadN ok d0_79 rfl ?_
              refine w_iconst ok (z := 2) d0_80 rfl ?_
              refine w_ic_lt ok d0_81 (fun q => absurd q (by decide)) (fun _ => ?_)
              refine w_iload ok d0_84 rfl ?_
              refine w_if_eq ok d0_86 (fun _ => ?_) (fun q => absurd (by decide) q)
              refine w_iloadN ok d0_109 rfl ?_
              refine w_iconst ok (z := 2) d0_110 rfl ?_
              refine w_ic_lt ok d0_111 (fun q => absurd q (by decide)) (fun _ => ?_)
              refine w_aload ok d0_114 rfl rfl ?_
              refine w_iload ok d0_116 rfl ?_
              refine w_virtN ok (argsL := [(.int (1 : Int32))]) (rest := []) (hw _ (List.mem_of_getElem? (i := 16) rfl)) (hw _ (List.mem_of_getElem? (i := 17) rfl)) (hw _ (List.mem_of_getElem? (i := 19) rfl)) (hw _ (List.mem_of_getElem? (i := 18) rfl)) (hw _ (List.mem_of_getElem? (i := 2) rfl)) (hw _ (List.mem_of_getElem? (i := 20) rfl)) E_a (by decide) (rmS l Z a0 hw n0 b1 (1 : Int32) (0 : Int32) (0 : Int32) (0 : Int32) h78 Z0 gn_b1 E_a F_l F_m (by decide)) d0_118 (lenOf pd__Z_V rfl) rfl rfl (Nat.le_of_ble_eq_true rfl) (Nat.le_of_ble_eq_true rfl) (k' := 1) (n' := 2) rfl rfl (Nat.le_of_ble_eq_true rfl) (Nat.le_of_ble_eq_true rfl) ?_
              rintro h79 ⟨Kc, E_a, F_l, F_m⟩
              have Z0 := Nat.le_trans Z0 Kc.1
              refine w_iloadN ok d0_121 rfl ?_
              refine w_iconst ok (z := 3) d0_122 rfl ?_
              refine w_ic_lt ok d0_123 (fun q => absurd q (by decide)) (fun _ => ?_)
              refine w_aload ok d0_126 rfl rfl ?_
              refine w_iload ok d0_128 rfl ?_
              refine w_virtN ok (argsL := [(.int (0 : Int32))]) (rest := []) (hw _ (List.mem_of_getElem? (i := 16) rfl)) (hw _ (List.mem_of_getElem? (i := 17) rfl)) (hw _ (List.mem_of_getElem? (i := 19) rfl)) (hw _ (List.mem_of_getElem? (i := 18) rfl)) (hw _ (List.mem_of_getElem? (i := 2) rfl)) (hw _ (List.mem_of_getElem? (i := 20) rfl)) E_a (by decide) (rmS l Z a0 hw n0 b1 (0 : Int32) (0 : Int32) (0 : Int32) (1 : Int32) h79 Z0 gn_b1 E_a F_l F_m (by decide)) d0_130 (lenOf pd__Z_V rfl) rfl rfl (Nat.le_of_ble_eq_true rfl) (Nat.le_of_ble_eq_true rfl) (k' := 1) (n' := 2) rfl rfl (Nat.le_of_ble_eq_true rfl) (Nat.le_of_ble_eq_true rfl) ?_
              rintro h80 ⟨Kc, E_a, F_l, F_m⟩
              have Z0 := Nat.le_trans Z0 Kc.1
              refine w_iloadN ok d0_133 rfl ?_
              refine w_if_ne ok d0_134 (fun _ => ?_) (fun q => absurd q (by decide))
              refine w_iloadN ok d0_143 rfl ?_
              refine w_iconst ok (z := 1) d0_144 rfl ?_
              refine w_ic_ne ok d0_145 (fun _ => ?_) (fun q => absurd q (by decide))
              refine w_iloadN ok d0_162 rfl ?_
              refine w_iconst ok (z := 2) d0_163 rfl ?_
              refine w_ic_ne ok d0_164 (fun _ => ?_) (fun q => absurd q (by decide))
              refine w_iload ok d0_190 rfl ?_
              refine w_if_eq ok d0_192 (fun _ => ?_) (fun q => absurd (by decide) q)
              refine w_iload ok d0_199 rfl ?_
              refine w_if_eq ok d0_201 (fun q => absurd q (by decide)) (fun _ => ?_)
              refine w_iconst ok (z := 1) d0_204 rfl ?_
              refine w_goto ok d0_205 ?_
              refine w_istore ok (Ls' := #[.val (.int nn), .val (.int fl), .val (.int (3 : Int32)), .val (.int (1 : Int32)), .val (.int (1 : Int32)), .val (.int (0 : Int32)), .val (.int (0 : Int32)), .val (.ref b1), .val (.int (1 : Int32)), .val (.int (1 : Int32)), .unset, .unset, .unset, .unset, .unset, .unset]) d0_217 rfl ?_
              exact JM _ _ _ _ Z0 E_a F_l F_m (by decide)
            · refine w_iloadN ok d0_68 rfl ?_
              refine w_iconst ok (z := 1) d0_69 rfl ?_
              refine w_ic_lt ok d0_70 (fun q => absurd q (by decide)) (fun _ => ?_)
              refine w_aload ok d0_73 rfl rfl ?_
              refine w_iloadN ok d0_75 rfl ?_
              refine w_virtN ok (argsL := [(.int (1 : Int32))]) (rest := []) (hw _ (List.mem_of_getElem? (i := 16) rfl)) (hw _ (List.mem_of_getElem? (i := 17) rfl)) (hw _ (List.mem_of_getElem? (i := 19) rfl)) (hw _ (List.mem_of_getElem? (i := 18) rfl)) (hw _ (List.mem_of_getElem? (i := 2) rfl)) (hw _ (List.mem_of_getElem? (i := 20) rfl)) E_a (by decide) (rmS l Z a0 hw n0 b1 (1 : Int32) (0 : Int32) (0 : Int32) (0 : Int32) h1 Z0 gn_b1 E_a F_l F_m (by decide)) d0_76 (lenOf pd__Z_V rfl) rfl rfl (Nat.le_of_ble_eq_true rfl) (Nat.le_of_ble_eq_true rfl) (k' := 1) (n' := 2) rfl rfl (Nat.le_of_ble_eq_true rfl) (Nat.le_of_ble_eq_true rfl) ?_
              rintro h81 ⟨Kc, E_a, F_l, F_m⟩
              have Z0 := Nat.le_trans Z0 Kc.1
              refine w_iloadN ok d0_79 rfl ?_
              refine w_iconst ok (z := 2) d0_80 rfl ?_
              refine w_ic_lt ok d0_81 (fun q => absurd q (by decide)) (fun _ => ?_)
              refine w_iload ok d0_84 rfl ?_
              refine w_if_eq ok d0_86 (fun _ => ?_) (fun q => absurd (by decide) q)
              refine w_iloadN ok d0_109 rfl ?_
              refine w_iconst ok (z := 2) d0_110 rfl ?_
              refine w_ic_lt ok d0_111 (fun q => absurd q (by decide)) (fun _ => ?_)
              refine w_aload ok d0_114 rfl rfl ?_
              refine w_iload ok d0_116 rfl ?_
              refine w_virtN ok (argsL := [(.int (1 : Int32))]) (rest := []) (hw _ (List.mem_of_getElem? (i := 16) rfl)) (hw _ (List.mem_of_getElem? (i := 17) rfl)) (hw _ (List.mem_of_getElem? (i := 19) rfl)) (hw _ (List.mem_of_getElem? (i := 18) rfl)) (hw _ (List.mem_of_getElem? (i := 2) rfl)) (hw _ (List.mem_of_getElem? (i := 20) rfl)) E_a (by decide) (rmS l Z a0 hw n0 b1 (1 : Int32) (0 : Int32) (0 : Int32) (0 : Int32) h81 Z0 gn_b1 E_a F_l F_m (by decide)) d0_118 (lenOf pd__Z_V rfl) rfl rfl (Nat.le_of_ble_eq_true rfl) (Nat.le_of_ble_eq_true rfl) (k' := 1) (n' := 2) rfl rfl (Nat.le_of_ble_eq_true rfl) (Nat.le_of_ble_eq_true rfl) ?_
              rintro h82 ⟨Kc, E_a, F_l, F_m⟩
              have Z0 := Nat.le_trans Z0 Kc.1
              refine w_iloadN ok d0_121 rfl ?_
              refine w_iconst ok (z := 3) d0_122 rfl ?_
              refine w_ic_lt ok d0_123 (fun q => absurd q (by decide)) (fun _ => ?_)
              refine w_aload ok d0_126 rfl rfl ?_
              refine w_iload ok d0_128 rfl ?_
              refine w_virtN ok (argsL := [(.int (1 : Int32))]) (rest := []) (hw _ (List.mem_of_getElem? (i := 16) rfl)) (hw _ (List.mem_of_getElem? (i := 17) rfl)) (hw _ (List.mem_of_getElem? (i := 19) rfl)) (hw _ (List.mem_of_getElem? (i := 18) rfl)) (hw _ (List.mem_of_getElem? (i := 2) rfl)) (hw _ (List.mem_of_getElem? (i := 20) rfl)) E_a (by decide) (rmS l Z a0 hw n0 b1 (1 : Int32) (0 : Int32) (0 : Int32) (0 : Int32) h82 Z0 gn_b1 E_a F_l F_m (by decide)) d0_130 (lenOf pd__Z_V rfl) rfl rfl (Nat.le_of_ble_eq_true rfl) (Nat.le_of_ble_eq_true rfl) (k' := 1) (n' := 2) rfl rfl (Nat.le_of_ble_eq_true rfl) (Nat.le_of_ble_eq_true rfl) ?_
              rintro h83 ⟨Kc, E_a, F_l, F_m⟩
              have Z0 := Nat.le_trans Z0 Kc.1
              refine w_iloadN ok d0_133 rfl ?_
              refine w_if_ne ok d0_134 (fun _ => ?_) (fun q => absurd q (by decide))
              refine w_iloadN ok d0_143 rfl ?_
              refine w_iconst ok (z := 1) d0_144 rfl ?_
              refine w_ic_ne ok d0_145 (fun _ => ?_) (fun q => absurd q (by decide))
              refine w_iloadN ok d0_162 rfl ?_
              refine w_iconst ok (z := 2) d0_163 rfl ?_
              refine w_ic_ne ok d0_164 (fun _ => ?_) (fun q => absurd q (by decide))
              refine w_iload ok d0_190 rfl ?_
              refine w_if_eq ok d0_192 (fun q => absurd q (by decide)) (fun _ => ?_)
              refine w_iconst ok (z := 0) d0_195 rfl ?_
              refine w_goto ok d0_196 ?_
              refine w_istore ok (Ls' := #[.val (.int nn), .val (.int fl), .val (.int (3 : Int32)), .val (.int (1 : Int32)), .val (.int (1 : Int32)), .val (.int (1 : Int32)), .val (.int (0 : Int32)), .val (.ref b1), .val (.int (1 : Int32)), .val (.int (0 : Int32)), .unset, .unset, .unset, .unset, .unset, .unset]) d0_217 rfl ?_
              exact JM _ _ _ _ Z0 E_a F_l F_m (by decide)
        · rcases hz4 with rfl | rfl
          · rcases hz5 with rfl | rfl
            · refine w_iloadN ok d0_68 rfl ?_
              refine w_iconst ok (z := 1) d0_69 rfl ?_
              refine w_ic_lt ok d0_70 (fun q => absurd q (by decide)) (fun _ => ?_)
              refine w_aload ok d0_73 rfl rfl ?_
              refine w_iloadN ok d0_75 rfl ?_
              refine w_virtN ok (argsL := [(.int (1 : Int32))]) (rest := []) (hw _ (List.mem_of_getElem? (i := 16) rfl)) (hw _ (List.mem_of_getElem? (i := 17) rfl)) (hw _ (List.mem_of_getElem? (i := 19) rfl)) (hw _ (List.mem_of_getElem? (i := 18) rfl)) (hw _ (List.mem_of_getElem? (i := 2) rfl)) (hw _ (List.mem_of_getElem? (i := 20) rfl)) E_a (by decide) (rmS l Z a0 hw n0 b1 (1 : Int32) (0 : Int32) (0 : Int32) (0 : Int32) h1 Z0 gn_b1 E_a F_l F_m (by decide)) d0_76 (lenOf pd__Z_V rfl) rfl rfl (Nat.le_of_ble_eq_true rfl) (Nat.le_of_ble_eq_true rfl) (k' := 1) (n' := 2) rfl rfl (Nat.le_of_ble_eq_true rfl) (Nat.le_of_ble_eq_true rfl) ?_
              rintro h84 ⟨Kc, E_a, F_l, F_m⟩
              have Z0 := Nat.le_trans Z0 Kc.1
              refine w_iloadN ok d0_79 rfl ?_
              refine w_iconst ok (z := 2) d0_80 rfl ?_
              refine w_ic_lt ok d0_81 (fun q => absurd q (by decide)) (fun _ => ?_)
              refine w_iload ok d0_84 rfl ?_
              refine w_if_eq ok d0_86 (fun q => absurd q (by decide)) (fun _ => ?_)
              refine w_aload ok d0_89 rfl rfl ?_
              refine w_virtV ok (argsL := []) (rest := []) (hw _ (List.mem_of_getElem? (i := 9) rfl)) (hw _ (List.mem_of_getElem? (i := 10) rfl)) (hw _ (List.mem_of_getElem? (i := 12) rfl)) (hw _ (List.mem_of_getElem? (i := 11) rfl)) (hw _ (List.mem_of_getElem? (i := 2) rfl)) (hw _ (List.mem_of_getElem? (i := 13) rfl)) E_a (by decide) (rmT l Z a0 hw n0 b1 (0 : Int32) (0 : Int32) (1 : Int32) (0 : Int32) h84 Z0 gn_b1 E_a F_l F_m (by decide) (by decide)) d0_91 (lenOf pd___Z rfl) rfl rfl (Nat.le_of_ble_eq_true rfl) (Nat.le_of_ble_eq_true rfl) (k' := 1) (n' := 2) rfl rfl (Nat.le_of_ble_eq_true rfl) (Nat.le_of_ble_eq_true rfl) ?_
              rintro _ h85 ⟨rfl, Kc, E_a, F_l, F_m⟩
              have Z0 := Nat.le_trans Z0 Kc.1
              refine w_istore ok (Ls' := #[.val (.int nn), .val (.int fl), .val (.int (3 : Int32)), .val (.int (1 : Int32)), .val (.int (0 : Int32)), .val (.int (0 : Int32)), .val (.int (1 : Int32)), .val (.ref b1), .val (.int (1 : Int32)), .val (.int (1 : Int32)), .unset, .unset, .unset, .unset, .unset, .unset]) d0_94 rfl ?_
              refine w_iload ok d0_96 rfl ?_
              refine w_iloadN ok d0_98 rfl ?_
              refine w_ic_ne ok d0_99 (fun q => absurd (by decide) q) (fun _ => ?_)
              refine w_iconst ok (z := 1) d0_102 rfl ?_
              refine w_goto ok d0_103 ?_
              refine w_istore ok (Ls' := #[.val (.int nn), .val (.int fl), .val (.int (3 : Int32)), .val (.int (1 : Int32)), .val (.int (0 : Int32)), .val (.int (0 : Int32)), .val (.int (1 : Int32)), .val (.ref b1), .val (.int (1 : Int32)), .val (.int (1 : Int32)), .unset, .unset, .unset, .unset, .unset, .unset]) d0_107 rfl ?_
              refine w_iloadN ok d0_109 rfl ?_
              refine w_iconst ok (z := 2) d0_110 rfl ?_
              refine w_ic_lt ok d0_111 (fun q => absurd q (by decide)) (fun _ => ?_)
              refine w_aload ok d0_114 rfl rfl ?_
              refine w_iload ok d0_116 rfl ?_
              refine w_virtN ok (argsL := [(.int (0 : Int32))]) (rest := []) (hw _ (List.mem_of_getElem? (i := 16) rfl)) (hw _ (List.mem_of_getElem? (i := 17) rfl)) (hw _ (List.mem_of_getElem? (i := 19) rfl)) (hw _ (List.mem_of_getElem? (i := 18) rfl)) (hw _ (List.mem_of_getElem? (i := 2) rfl)) (hw _ (List.mem_of_getElem? (i := 20) rfl)) E_a (by decide) (rmS l Z a0 hw n0 b1 (0 : Int32) (0 : Int32) (0 : Int32) (1 : Int32) h85 Z0 gn_b1 E_a F_l F_m (by decide)) d0_118 (lenOf pd__Z_V rfl) rfl rfl (Nat.le_of_ble_eq_true rfl) (Nat.le_of_ble_eq_true rfl) (k' := 1) (n' := 2) rfl rfl (Nat.le_of_ble_eq_true rfl) (Nat.le_of_ble_eq_true rfl) ?_
              rintro h86 ⟨Kc, E_a, F_l, F_m⟩
              have Z0 := Nat.le_trans Z0 Kc.1
              refine w_iloadN ok d0_121 rfl ?_
              refine w_iconst ok (z := 3) d0_122 rfl ?_
              refine w_ic_lt ok d0_123 (fun q => absurd q (by decide)) (fun _ => ?_)
              refine w_aload ok d0_126 rfl rfl ?_
              refine w_iload ok d0_128 rfl ?_
              refine w_virtN ok (argsL := [(.int (0 : Int32))]) (rest := []) (hw _ (List.mem_of_getElem? (i := 16) rfl)) (hw _ (List.mem_of_getElem? (i := 17) rfl)) (hw _ (List.mem_of_getElem? (i := 19) rfl)) (hw _ (List.mem_of_getElem? (i := 18) rfl)) (hw _ (List.mem_of_getElem? (i := 2) rfl)) (hw _ (List.mem_of_getElem? (i := 20) rfl)) E_a (by decide) (rmS l Z a0 hw n0 b1 (0 : Int32) (1 : Int32) (1 : Int32) (3 : Int32) h86 Z0 gn_b1 E_a F_l F_m (by decide)) d0_130 (lenOf pd__Z_V rfl) rfl rfl (Nat.le_of_ble_eq_true rfl) (Nat.le_of_ble_eq_true rfl) (k' := 1) (n' := 2) rfl rfl (Nat.le_of_ble_eq_true rfl) (Nat.le_of_ble_eq_true rfl) ?_
              rintro h87 ⟨Kc, E_a, F_l, F_m⟩
              have Z0 := Nat.le_trans Z0 Kc.1
              refine w_iloadN ok d0_133 rfl ?_
              refine w_if_ne ok d0_134 (fun _ => ?_) (fun q => absurd q (by decide))
              refine w_iloadN ok d0_143 rfl ?_
              refine w_iconst ok (z := 1) d0_144 rfl ?_
              refine w_ic_ne ok d0_145 (fun _ => ?_) (fun q => absurd q (by decide))
              refine w_iloadN ok d0_162 rfl ?_
              refine w_iconst ok (z := 2) d0_163 rfl ?_
              refine w_ic_ne ok d0_164 (fun _ => ?_) (fun q => absurd q (by decide))
              refine w_iload ok d0_190 rfl ?_
              refine w_if_eq ok d0_192 (fun _ => ?_) (fun q => absurd (by decide) q)
              refine w_iload ok d0_199 rfl ?_
              refine w_if_eq ok d0_201 (fun _ => ?_) (fun q => absurd (by decide) q)
              refine w_iloadN ok d0_208 rfl ?_
              refine w_if_eq ok d0_209 (fun q => absurd q (by decide)) (fun _ => ?_)
              refine w_iconst ok (z := 2) d0_212 rfl ?_
              refine w_goto ok d0_213 ?_
              refine w_istore ok (Ls' := #[.val (.int nn), .val (.int fl), .val (.int (3 : Int32)), .val (.int (1 : Int32)), .val (.int (0 : Int32)), .val (.int (0 : Int32)), .val (.int (1 : Int32)), .val (.ref b1), .val (.int (1 : Int32)), .val (.int (2 : Int32)), .unset, .unset, .unset, .unset, .unset, .unset]) d0_217 rfl ?_
              exact JM _ _ _ _ Z0 E_a F_l F_m (by decide)
            · refine w_iloadN ok d0_68 rfl ?_
              refine w_iconst ok (z := 1) d0_69 rfl ?_
              refine w_ic_lt ok d0_70 (fun q => absurd q (by decide)) (fun _ => ?_)
              refine w_aload ok d0_73 rfl rfl ?_
              refine w_iloadN ok d0_75 rfl ?_
              refine w_virtN ok (argsL := [(.int (1 : Int32))]) (rest := []) (hw _ (List.mem_of_getElem? (i := 16) rfl)) (hw _ (List.mem_of_getElem? (i := 17) rfl)) (hw _ (List.mem_of_getElem? (i := 19) rfl)) (hw _ (List.mem_of_getElem? (i := 18) rfl)) (hw _ (List.mem_of_getElem? (i := 2) rfl)) (hw _ (List.mem_of_getElem? (i := 20) rfl)) E_a (by decide) (rmS l Z a0 hw n0 b1 (1 : Int32) (0 : Int32) (0 : Int32) (0 : Int32) h1 Z0 gn_b1 E_a F_l F_m (by decide)) d0_76 (lenOf pd__Z_V rfl) rfl rfl (Nat.le_of_ble_eq_true rfl) (Nat.le_of_ble_eq_true rfl) (k' := 1) (n' := 2) rfl rfl (Nat.le_of_ble_eq_true rfl) (Nat.le_of_ble_eq_true rfl) ?_
              rintro h88 ⟨Kc, E_a, F_l, F_m⟩
              have Z0 := Nat.le_trans Z0 Kc.1
              refine w_iloadN ok d0_79 rfl ?_
              refine w_iconst ok (z := 2) d0_80 rfl ?_
              refine w_ic_lt ok d0_81 (fun q => absurd q (by decide)) (fun _ => ?_)
              refine w_iload ok d0_84 rfl ?_
              refine w_if_eq ok d0_86 (fun q => absurd q (by decide)) (fun _ => ?_)
              refine w_aload ok d0_89 rfl rfl ?_
              refine w_virtV ok (argsL := []) (rest := []) (hw _ (List.mem_of_getElem? (i := 9) rfl)) (hw _ (List.mem_of_getElem? (i := 10) rfl)) (hw _ (List.mem_of_getElem? (i := 12) rfl)) (hw _ (List.mem_of_getElem? (i := 11) rfl)) (hw _ (List.mem_of_getElem? (i := 2) rfl)) (hw _ (List.mem_of_getElem? (i := 13) rfl)) E_a (by decide) (rmT l Z a0 hw n0 b1 (0 : Int32) (0 : Int32) (1 : Int32) (0 : Int32) h88 Z0 gn_b1 E_a F_l F_m (by decide) (by decide)) d0_91 (lenOf pd___Z rfl) rfl rfl (Nat.le_of_ble_eq_true rfl) (Nat.le_of_ble_eq_true rfl) (k' := 1) (n' := 2) rfl rfl (Nat.le_of_ble_eq_true rfl) (Nat.le_of_ble_eq_true rfl) ?_
              rintro _ h89 ⟨rfl, Kc, E_a, F_l, F_m⟩
              have Z0 := Nat.le_trans Z0 Kc.1
              refine w_istore ok (Ls' := #[.val (.int nn), .val (.int fl), .val (.int (3 : Int32)), .val (.int (1 : Int32)), .val (.int (0 : Int32)), .val (.int (1 : Int32)), .val (.int (1 : Int32)), .val (.ref b1), .val (.int (1 : Int32)), .val (.int (1 : Int32)), .unset, .unset, .unset, .unset, .unset, .unset]) d0_94 rfl ?_
              refine w_iload ok d0_96 rfl ?_
              refine w_iloadN ok d0_98 rfl ?_
              refine w_ic_ne ok d0_99 (fun q => absurd (by decide) q) (fun _ => ?_)
              refine w_iconst ok (z := 1) d0_102 rfl ?_
              refine w_goto ok d0_103 ?_
              refine w_istore ok (Ls' := #[.val (.int nn), .val (.int fl), .val (.int (3 : Int32)), .val (.int (1 : Int32)), .val (.int (0 : Int32)), .val (.int (1 : Int32)), .val (.int (1 : Int32)), .val (.ref b1), .val (.int (1 : Int32)), .val (.int (1 : Int32)), .unset, .unset, .unset, .unset, .unset, .unset]) d0_107 rfl ?_
              refine w_iloadN ok d0_109 rfl ?_
              refine w_iconst ok (z := 2) d0_110 rfl ?_
              refine w_ic_lt ok d0_111 (fun q => absurd q (by decide)) (fun _ => ?_)
              refine w_aload ok d0_114 rfl rfl ?_
              refine w_iload ok d0_116 rfl ?_
              refine w_virtN ok (argsL := [(.int (0 : Int32))]) (rest := []) (hw _ (List.mem_of_getElem? (i := 16) rfl)) (hw _ (List.mem_of_getElem? (i := 17) rfl)) (hw _ (List.mem_of_getElem? (i := 19) rfl)) (hw _ (List.mem_of_getElem? (i := 18) rfl)) (hw _ (List.mem_of_getElem? (i := 2) rfl)) (hw _ (List.mem_of_getElem? (i := 20) rfl)) E_a (by decide) (rmS l Z a0 hw n0 b1 (0 : Int32) (0 : Int32) (0 : Int32) (1 : Int32) h89 Z0 gn_b1 E_a F_l F_m (by decide)) d0_118 (lenOf pd__Z_V rfl) rfl rfl (Nat.le_of_ble_eq_true rfl) (Nat.le_of_ble_eq_true rfl) (k' := 1) (n' := 2) rfl rfl (Nat.le_of_ble_eq_true rfl) (Nat.le_of_ble_eq_true rfl) ?_
              rintro h90 ⟨Kc, E_a, F_l, F_m⟩
              have Z0 := Nat.le_trans Z0 Kc.1
              refine w_iloadN ok d0_121 rfl ?_
              refine w_iconst ok (z := 3) d0_122 rfl ?_
              refine w_ic_lt ok d0_123 (fun q => absurd q (by decide)) (fun _ => ?_)
              refine w_aload ok d0_126 rfl rfl ?_
              refine w_iload ok d0_128 rfl ?_
              refine w_virtN ok (argsL := [(.int (1 : Int32))]) (rest := []) (hw _ (List.mem_of_getElem? (i := 16) rfl)) (hw _ (List.mem_of_getElem? (i := 17) rfl)) (hw _ (List.mem_of_getElem? (i := 19) rfl)) (hw _ (List.mem_of_getElem? (i := 18) rfl)) (hw _ (List.mem_of_getElem? (i := 2) rfl)) (hw _ (List.mem_of_getElem? (i := 20) rfl)) E_a (by decide) (rmS l Z a0 hw n0 b1 (1 : Int32) (1 : Int32) (1 : Int32) (0 : Int32) h90 Z0 gn_b1 E_a F_l F_m (by decide)) d0_130 (lenOf pd__Z_V rfl) rfl rfl (Nat.le_of_ble_eq_true rfl) (Nat.le_of_ble_eq_true rfl) (k' := 1) (n' := 2) rfl rfl (Nat.le_of_ble_eq_true rfl) (Nat.le_of_ble_eq_true rfl) ?_
              rintro h91 ⟨Kc, E_a, F_l, F_m⟩
              have Z0 := Nat.le_trans Z0 Kc.1
              refine w_iloadN ok d0_133 rfl ?_
              refine w_if_ne ok d0_134 (fun _ => ?_) (fun q => absurd q (by decide))
              refine w_iloadN ok d0_143 rfl ?_
              refine w_iconst ok (z := 1) d0_144 rfl ?_
              refine w_ic_ne ok d0_145 (fun _ => ?_) (fun q => absurd q (by decide))
              refine w_iloadN ok d0_162 rfl ?_
              refine w_iconst ok (z := 2) d0_163 rfl ?_
              refine w_ic_ne ok d0_164 (fun _ => ?_) (fun q => absurd q (by decide))
              refine w_iload ok d0_190 rfl ?_
              refine w_if_eq ok d0_192 (fun q => absurd q (by decide)) (fun _ => ?_)
              refine w_iconst ok (z := 0) d0_195 rfl ?_
              refine w_goto ok d0_196 ?_
              refine w_istore ok (Ls' := #[.val (.int nn), .val (.int fl), .val (.int (3 : Int32)), .val (.int (1 : Int32)), .val (.int (0 : Int32)), .val (.int (1 : Int32)), .val (.int (1 : Int32)), .val (.ref b1), .val (.int (1 : Int32)), .val (.int (0 : Int32)), .unset, .unset, .unset, .unset, .unset, .unset]) d0_217 rfl ?_
              exact JM _ _ _ _ Z0 E_a F_l F_m (by decide)
          · rcases hz5 with rfl | rfl
            · refine w_iloadN ok d0_68 rfl ?_
              refine w_iconst ok (z := 1) d0_69 rfl ?_
              refine w_ic_lt ok d0_70 (fun q => absurd q (by decide)) (fun _ => ?_)
              refine w_aload ok d0_73 rfl rfl ?_
              refine w_iloadN ok d0_75 rfl ?_
              refine w_virtN ok (argsL := [(.int (1 : Int32))]) (rest := []) (hw _ (List.mem_of_getElem? (i := 16) rfl)) (hw _ (List.mem_of_getElem? (i := 17) rfl)) (hw _ (List.mem_of_getElem? (i := 19) rfl)) (hw _ (List.mem_of_getElem? (i := 18) rfl)) (hw _ (List.mem_of_getElem? (i := 2) rfl)) (hw _ (List.mem_of_getElem? (i := 20) rfl)) E_a (by decide) (rmS l Z a0 hw n0 b1 (1 : Int32) (0 : Int32) (0 : Int32) (0 : Int32) h1 Z0 gn_b1 E_a F_l F_m (by decide)) d0_76 (lenOf pd__Z_V rfl) rfl rfl (Nat.le_of_ble_eq_true rfl) (Nat.le_of_ble_eq_true rfl) (k' := 1) (n' := 2) rfl rfl (Nat.le_of_ble_eq_true rfl) (Nat.le_of_ble_eq_true rfl) ?_
              rintro h92 ⟨Kc, E_a, F_l, F_m⟩
              have Z0 := Nat.le_trans Z0 Kc.1
              refine w_iloadN ok d0_79 rfl ?_
              refine w_iconst ok (z := 2) d0_80 rfl ?_
              refine w_ic_lt ok d0_81 (fun q => absurd q (by decide)) (fun _ => ?_)
              refine w_iload ok d0_84 rfl ?_
              refine w_if_eq ok d0_86 (fun q => absurd q (by decide)) (fun _ => ?_)
              refine w_aload ok d0_89 rfl rfl ?_
              refine w_virtV ok (argsL := []) (rest := []) (hw _ (List.mem_of_getElem? (i := 9) rfl)) (hw _ (List.mem_of_getElem? (i := 10) rfl)) (hw _ (List.mem_of_getElem? (i := 12) rfl)) (hw _ (List.mem_of_getElem? (i := 11) rfl)) (hw _ (List.mem_of_getElem? (i := 2) rfl)) (hw _ (List.mem_of_getElem? (i := 13) rfl)) E_a (by decide) (rmT l Z a0 hw n0 b1 (0 : Int32) (0 : Int32) (1 : Int32) (0 : Int32) h92 Z0 gn_b1 E_a F_l F_m (by decide) (by decide)) d0_91 (lenOf pd___Z rfl) rfl rfl (Nat.le_of_ble_eq_true rfl) (Nat.le_of_ble_eq_true rfl) (k' := 1) (n' := 2) rfl rfl (Nat.le_of_ble_eq_true rfl) (Nat.le_of_ble_eq_true rfl) ?_
              rintro _ h93 ⟨rfl, Kc, E_a, F_l, F_m⟩
              have Z0 := Nat.le_trans Z0 Kc.1
              refine w_istore ok (Ls' := #[.val (.int nn), .val (.int fl), .val (.int (3 : Int32)), .val (.int (1 : Int32)), .val (.int (1 : Int32)), .val (.int (0 : Int32)), .val (.int (1 : Int32)), .val (.ref b1), .val (.int (1 : Int32)), .val (.int (1 : Int32)), .unset, .unset, .unset, .unset, .unset, .unset]) d0_94 rfl ?_
              refine w_iload ok d0_96 rfl ?_
              refine w_iloadN ok d0_98 rfl ?_
              refine w_ic_ne ok d0_99 (fun q => absurd (by decide) q) (fun _ => ?_)
              refine w_iconst ok (z := 1) d0_102 rfl ?_
              refine w_goto ok d0_103 ?_
              refine w_istore ok (Ls' := #[.val (.int nn), .val (.int fl), .val (.int (3 : Int32)), .val (.int (1 : Int32)), .val (.int (1 : Int32)), .val (.int (0 : Int32)), .val (.int (1 : Int32)), .val (.ref b1), .val (.int (1 : Int32)), .val (.int (1 : Int32)), .unset, .unset, .unset, .unset, .unset, .unset]) d0_107 rfl ?_
              refine w_iloadN ok d0_109 rfl ?_
              refine w_iconst ok (z := 2) d0_110 rfl ?_
              refine w_ic_lt ok d0_111 (fun q => absurd q (by decide)) (fun _ => ?_)
              refine w_aload ok d0_114 rfl rfl ?_
              refine w_iload ok d0_116 rfl ?_
              refine w_virtN ok (argsL := [(.int (1 : Int32))]) (rest := []) (hw _ (List.mem_of_getElem? (i := 16) rfl)) (hw _ (List.mem_of_getElem? (i := 17) rfl)) (hw _ (List.mem_of_getElem? (i := 19) rfl)) (hw _ (List.mem_of_getElem? (i := 18) rfl)) (hw _ (List.mem_of_getElem? (i := 2) rfl)) (hw _ (List.mem_of_getElem? (i := 20) rfl)) E_a (by decide) (rmS l Z a0 hw n0 b1 (1 : Int32) (0 : Int32) (0 : Int32) (0 : Int32) h93 Z0 gn_b1 E_a F_l F_m (by decide)) d0_118 (lenOf pd__Z_V rfl) rfl rfl (Nat.le_of_ble_eq_true rfl) (Nat.le_of_ble_eq_true rfl) (k' := 1) (n' := 2) rfl rfl (Nat.le_of_ble_eq_true rfl) (Nat.le_of_ble_eq_true rfl) ?_
              rintro h94 ⟨Kc, E_a, F_l, F_m⟩
              have Z0 := Nat.le_trans Z0 Kc.1
              refine w_iloadN ok d0_121 rfl ?_
              refine w_iconst ok (z := 3) d0_122 rfl ?_
              refine w_ic_lt ok d0_123 (fun q => absurd q (by decide)) (fun _ => ?_)
              refine w_aload ok d0_126 rfl rfl ?_
              refine w_iload ok d0_128 rfl ?_
              refine w_virtN ok (argsL := [(.int (0 : Int32))]) (rest := []) (hw _ (List.mem_of_getElem? (i := 16) rfl)) (hw _ (List.mem_of_getElem? (i := 17) rfl)) (hw _ (List.mem_of_getElem? (i := 19) rfl)) (hw _ (List.mem_of_getElem? (i := 18) rfl)) (hw _ (List.mem_of_getElem? (i := 2) rfl)) (hw _ (List.mem_of_getElem? (i := 20) rfl)) E_a (by decide) (rmS l Z a0 hw n0 b1 (0 : Int32) (0 : Int32) (0 : Int32) (1 : Int32) h94 Z0 gn_b1 E_a F_l F_m (by decide)) d0_130 (lenOf pd__Z_V rfl) rfl rfl (Nat.le_of_ble_eq_true rfl) (Nat.le_of_ble_eq_true rfl) (k' := 1) (n' := 2) rfl rfl (Nat.le_of_ble_eq_true rfl) (Nat.le_of_ble_eq_true rfl) ?_
              rintro h95 ⟨Kc, E_a, F_l, F_m⟩
              have Z0 := Nat.le_trans Z0 Kc.1
              refine w_iloadN ok d0_133 rfl ?_
              refine w_if_ne ok d0_134 (fun _ => ?_) (fun q => absurd q (by decide))
              refine w_iloadN ok d0_143 rfl ?_
              refine w_iconst ok (z := 1) d0_144 rfl ?_
              refine w_ic_ne ok d0_145 (fun _ => ?_) (fun q => absurd q (by decide))
              refine w_iloadN ok d0_162 rfl ?_
              refine w_iconst ok (z := 2) d0_163 rfl ?_
              refine w_ic_ne ok d0_164 (fun _ => ?_) (fun q => absurd q (by decide))
              refine w_iload ok d0_190 rfl ?_
              refine w_if_eq ok d0_192 (fun _ => ?_) (fun q => absurd (by decide) q)
              refine w_iload ok d0_199 rfl ?_
              refine w_if_eq ok d0_201 (fun q => absurd q (by decide)) (fun _ => ?_)
              refine w_iconst ok (z := 1) d0_204 rfl ?_
              refine w_goto ok d0_205 ?_
              refine w_istore ok (Ls' := #[.val (.int nn), .val (.int fl), .val (.int (3 : Int32)), .val (.int (1 : Int32)), .val (.int (1 : Int32)), .val (.int (0 : Int32)), .val (.int (1 : Int32)), .val (.ref b1), .val (.int (1 : Int32)), .val (.int (1 : Int32)), .unset, .unset, .unset, .unset, .unset, .unset]) d0_217 rfl ?_
              exact JM _ _ _ _ Z0 E_a F_l F_m (by decide)
            · refine w_iloadN ok d0_68 rfl ?_
              refine w_iconst ok (z := 1) d0_69 rfl ?_
              refine w_ic_lt ok d0_70 (fun q => absurd q (by decide)) (fun _ => ?_)
              refine w_aload ok d0_73 rfl rfl ?_
              refine w_iloadN ok d0_75 rfl ?_
              refine w_virtN ok (argsL := [(.int (1 : Int32))]) (rest := []) (hw _ (List.mem_of_getElem? (i := 16) rfl)) (hw _ (List.mem_of_getElem? (i := 17) rfl)) (hw _ (List.mem_of_getElem? (i := 19) rfl)) (hw _ (List.mem_of_getElem? (i := 18) rfl)) (hw _ (List.mem_of_getElem? (i := 2) rfl)) (hw _ (List.mem_of_getElem? (i := 20) rfl)) E_a (by decide) (rmS l Z a0 hw n0 b1 (1 : Int32) (0 : Int32) (0 : Int32) (0 : Int32) h1 Z0 gn_b1 E_a F_l F_m (by decide)) d0_76 (lenOf pd__Z_V rfl) rfl rfl (Nat.le_of_ble_eq_true rfl) (Nat.le_of_ble_eq_true rfl) (k' := 1) (n' := 2) rfl rfl (Nat.le_of_ble_eq_true rfl) (Nat.le_of_ble_eq_true rfl) ?_
              rintro h96 ⟨Kc, E_a, F_l, F_m⟩
              have Z0 := Nat.le_trans Z0 Kc.1
              refine w_iloadN ok d0_79 rfl ?_
              refine w_iconst ok (z := 2) d0_80 rfl ?_
              refine w_ic_lt ok d0_81 (fun q => absurd q (by decide)) (fun _ => ?_)
              refine w_iload ok d0_84 rfl ?_
              refine w_if_eq ok d0_86 (fun q => absurd q (by decide)) (fun _ => ?_)
              refine w_aload ok d0_89 rfl rfl ?_
              refine w_virtV ok (argsL := []) (rest := []) (hw _ (List.mem_of_getElem? (i := 9) rfl)) (hw _ (List.mem_of_getElem? (i := 10) rfl)) (hw _ (List.mem_of_getElem? (i := 12) rfl)) (hw _ (List.mem_of_getElem? (i := 11) rfl)) (hw _ (List.mem_of_getElem? (i := 2) rfl)) (hw _ (List.mem_of_getElem? (i := 13) rfl)) E_a (by decide) (rmT l Z a0 hw n0 b1 (0 : Int32) (0 : Int32) (1 : Int32) (0 : Int32) h96 Z0 gn_b1 E_a F_l F_m (by decide) (by decide)) d0_91 (lenOf pd___Z rfl) rfl rfl (Nat.le_of_ble_eq_true rfl) (Nat.le_of_ble_eq_true rfl) (k' := 1) (n' := 2) rfl rfl (Nat.le_of_ble_eq_true rfl) (Nat.le_of_ble_eq_true rfl) ?_
              rintro _ h97 ⟨rfl, Kc, E_a, F_l, F_m⟩
              have Z0 := Nat.le_trans Z0 Kc.1
              refine w_istore ok (Ls' := #[.val (.int nn), .val (.int fl), .val (.int (3 : Int32)), .val (.int (1 : Int32)), .val (.int (1 : Int32)), .val (.int (1 : Int32)), .val (.int (1 : Int32)), .val (.ref b1), .val (.int (1 : Int32)), .val (.int (1 : Int32)), .unset, .unset, .unset, .unset, .unset, .unset]) d0_94 rfl ?_
              refine w_iload ok d0_96 rfl ?_
              refine w_iloadN ok d0_98 rfl ?_
              refine w_ic_ne ok d0_99 (fun q => absurd (by decide) q) (fun _ => ?_)
              refine w_iconst ok (z := 1) d0_102 rfl ?_
              refine w_goto ok d0_103 ?_
              refine w_istore ok (Ls' := #[.val (.int nn), .val (.int fl), .val (.int (3 : Int32)), .val (.int (1 : Int32)), .val (.int (1 : Int32)), .val (.int (1 : Int32)), .val (.int (1 : Int32)), .val (.ref b1), .val (.int (1 : Int32)), .val (.int (1 : Int32)), .unset, .unset, .unset, .unset, .unset, .unset]) d0_107 rfl ?_
              refine w_iloadN ok d0_109 rfl ?_
              refine w_iconst ok (z := 2) d0_110 rfl ?_
              refine w_ic_lt ok d0_111 (fun q => absurd q (by decide)) (fun _ => ?_)
              refine w_aload ok d0_114 rfl rfl ?_
              refine w_iload ok d0_116 rfl ?_
              refine w_virtN ok (argsL := [(.int (1 : Int32))]) (rest := []) (hw _ (List.mem_of_getElem? (i := 16) rfl)) (hw _ (List.mem_of_getElem? (i := 17) rfl)) (hw _ (List.mem_of_getElem? (i := 19) rfl)) (hw _ (List.mem_of_getElem? (i := 18) rfl)) (hw _ (List.mem_of_getElem? (i := 2) rfl)) (hw _ (List.mem_of_getElem? (i := 20) rfl)) E_a (by decide) (rmS l Z a0 hw n0 b1 (1 : Int32) (0 : Int32) (0 : Int32) (0 : Int32) h97 Z0 gn_b1 E_a F_l F_m (by decide)) d0_118 (lenOf pd__Z_V rfl) rfl rfl (Nat.le_of_ble_eq_true rfl) (Nat.le_of_ble_eq_true rfl) (k' := 1) (n' := 2) rfl rfl (Nat.le_of_ble_eq_true rfl) (Nat.le_of_ble_eq_true rfl) ?_
              rintro h98 ⟨Kc, E_a, F_l, F_m⟩
              have Z0 := Nat.le_trans Z0 Kc.1
              refine w_iloadN ok d0_121 rfl ?_
              refine w_iconst ok (z := 3) d0_122 rfl ?_
              refine w_ic_lt ok d0_123 (fun q => absurd q (by decide)) (fun _ => ?_)
              refine w_aload ok d0_126 rfl rfl ?_
              refine w_iload ok d0_128 rfl ?_
              refine w_virtN ok (argsL := [(.int (1 : Int32))]) (rest := []) (hw _ (List.mem_of_getElem? (i := 16) rfl)) (hw _ (List.mem_of_getElem? (i := 17) rfl)) (hw _ (List.mem_of_getElem? (i := 19) rfl)) (hw _ (List.mem_of_getElem? (i := 18) rfl)) (hw _ (List.mem_of_getElem? (i := 2) rfl)) (hw _ (List.mem_of_getElem? (i := 20) rfl)) E_a (by decide) (rmS l Z a0 hw n0 b1 (1 : Int32) (0 : Int32) (0 : Int32) (0 : Int32) h98 Z0 gn_b1 E_a F_l F_m (by decide)) d0_130 (lenOf pd__Z_V rfl) rfl rfl (Nat.le_of_ble_eq_true rfl) (Nat.le_of_ble_eq_true rfl) (k' := 1) (n' := 2) rfl rfl (Nat.le_of_ble_eq_true rfl) (Nat.le_of_ble_eq_true rfl) ?_
              rintro h99 ⟨Kc, E_a, F_l, F_m⟩
              have Z0 := Nat.le_trans Z0 Kc.1
              refine w_iloadN ok d0_133 rfl ?_
              refine w_if_ne ok d0_134 (fun _ => ?_) (fun q => absurd q (by decide))
              refine w_iloadN ok d0_143 rfl ?_
              refine w_iconst ok (z := 1) d0_144 rfl ?_
              refine w_ic_ne ok d0_145 (fun _ => ?_) (fun q => absurd q (by decide))
              refine w_iloadN ok d0_162 rfl ?_
              refine w_iconst ok (z := 2) d0_163 rfl ?_
              refine w_ic_ne ok d0_164 (fun _ => ?_) (fun q => absurd q (by decide))
              refine w_iload ok d0_190 rfl ?_
              refine w_if_eq ok d0_192 (fun q => absurd q (by decide)) (fun _ => ?_)
              refine w_iconst ok (z := 0) d0_195 rfl ?_
              refine w_goto ok d0_196 ?_
              refine w_istore ok (Ls' := #[.val (.int nn), .val (.int fl), .val (.int (3 : Int32)), .val (.int (1 : Int32)), .val (.int (1 : Int32)), .val (.int (1 : Int32)), .val (.int (1 : Int32)), .val (.ref b1), .val (.int (1 : Int32)), .val (.int (0 : Int32)), .unset, .unset, .unset, .unset, .unset, .unset]) d0_217 rfl ?_
              exact JM _ _ _ _ Z0 E_a F_l F_m (by decide)
  refine w_iloadN ok d0_0 rfl ?_
  refine w_iconst ok (z := 3) d0_1 rfl ?_
  refine w_iand ok d0_2 ?_
  refine w_istoreN ok (Ls' := #[.val (.int nn), .val (.int fl), .val (.int (nn &&& (3 : Int32))), .unset, .unset, .unset, .unset, .unset, .unset, .unset, .unset, .unset, .unset, .unset, .unset, .unset]) d0_3 rfl ?_
  refine w_iloadN ok d0_4 rfl ?_
  refine w_iconst ok (z := 1) d0_5 rfl ?_
  refine w_iand ok d0_6 ?_
  refine w_if_eq ok d0_7 (fun q0 => ?_) (fun q0 => ?_)
  · refine w_iconst ok (z := 0) d0_14 rfl ?_
    refine w_istoreN ok (Ls' := #[.val (.int nn), .val (.int fl), .val (.int (nn &&& (3 : Int32))), .val (.int (0 : Int32)), .unset, .unset, .unset, .unset, .unset, .unset, .unset, .unset, .unset, .unset, .unset, .unset]) d0_15 rfl ?_
    refine w_iloadN ok d0_16 rfl ?_
    refine w_iconst ok (z := 2) d0_17 rfl ?_
    refine w_iand ok d0_18 ?_
    refine w_if_eq ok d0_19 (fun q1 => ?_) (fun q1 => ?_)
    · refine w_iconst ok (z := 0) d0_26 rfl ?_
      refine w_istore ok (Ls' := #[.val (.int nn), .val (.int fl), .val (.int (nn &&& (3 : Int32))), .val (.int (0 : Int32)), .val (.int (0 : Int32)), .unset, .unset, .unset, .unset, .unset, .unset, .unset, .unset, .unset, .unset, .unset]) d0_27 rfl ?_
      refine w_iloadN ok d0_29 rfl ?_
      refine w_iconst ok (z := 4) d0_30 rfl ?_
      refine w_iand ok d0_31 ?_
      refine w_if_eq ok d0_32 (fun q2 => ?_) (fun q2 => ?_)
      · refine w_iconst ok (z := 0) d0_39 rfl ?_
        refine w_istore ok (Ls' := #[.val (.int nn), .val (.int fl), .val (.int (nn &&& (3 : Int32))), .val (.int (0 : Int32)), .val (.int (0 : Int32)), .val (.int (0 : Int32)), .unset, .unset, .unset, .unset, .unset, .unset, .unset, .unset, .unset, .unset]) d0_40 rfl ?_
        refine w_iloadN ok d0_42 rfl ?_
        refine w_bipush ok (z := 8) d0_43 rfl ?_
        refine w_iand ok d0_45 ?_
        refine w_if_eq ok d0_46 (fun q3 => ?_) (fun q3 => ?_)
        · refine w_iconst ok (z := 0) d0_53 rfl ?_
          refine w_istore ok (Ls' := #[.val (.int nn), .val (.int fl), .val (.int (nn &&& (3 : Int32))), .val (.int (0 : Int32)), .val (.int (0 : Int32)), .val (.int (0 : Int32)), .val (.int (0 : Int32)), .unset, .unset, .unset, .unset, .unset, .unset, .unset, .unset, .unset]) d0_54 rfl ?_
          exact JN _ _ _ _ _ (own_and3 _) (Or.inl rfl) (Or.inl rfl) (Or.inl rfl) (Or.inl rfl)
        · refine w_iconst ok (z := 1) d0_49 rfl ?_
          refine w_goto ok d0_50 ?_
          refine w_istore ok (Ls' := #[.val (.int nn), .val (.int fl), .val (.int (nn &&& (3 : Int32))), .val (.int (0 : Int32)), .val (.int (0 : Int32)), .val (.int (0 : Int32)), .val (.int (1 : Int32)), .unset, .unset, .unset, .unset, .unset, .unset, .unset, .unset, .unset]) d0_54 rfl ?_
          exact JN _ _ _ _ _ (own_and3 _) (Or.inl rfl) (Or.inl rfl) (Or.inl rfl) (Or.inr rfl)
      · refine w_iconst ok (z := 1) d0_35 rfl ?_
        refine w_goto ok d0_36 ?_
        refine w_istore ok (Ls' := #[.val (.int nn), .val (.int fl), .val (.int (nn &&& (3 : Int32))), .val (.int (0 : Int32)), .val (.int (0 : Int32)), .val (.int (1 : Int32)), .unset, .unset, .unset, .unset, .unset, .unset, .unset, .unset, .unset, .unset]) d0_40 rfl ?_
        refine w_iloadN ok d0_42 rfl ?_
        refine w_bipush ok (z := 8) d0_43 rfl ?_
        refine w_iand ok d0_45 ?_
        refine w_if_eq ok d0_46 (fun q3 => ?_) (fun q3 => ?_)
        · refine w_iconst ok (z := 0) d0_53 rfl ?_
          refine w_istore ok (Ls' := #[.val (.int nn), .val (.int fl), .val (.int (nn &&& (3 : Int32))), .val (.int (0 : Int32)), .val (.int (0 : Int32)), .val (.int (1 : Int32)), .val (.int (0 : Int32)), .unset, .unset, .unset, .unset, .unset, .unset, .unset, .unset, .unset]) d0_54 rfl ?_
          exact JN _ _ _ _ _ (own_and3 _) (Or.inl rfl) (Or.inl rfl) (Or.inr rfl) (Or.inl rfl)
        · refine w_iconst ok (z := 1) d0_49 rfl ?_
          refine w_goto ok d0_50 ?_
          refine w_istore ok (Ls' := #[.val (.int nn), .val (.int fl), .val (.int (nn &&& (3 : Int32))), .val (.int (0 : Int32)), .val (.int (0 : Int32)), .val (.int (1 : Int32)), .val (.int (1 : Int32)), .unset, .unset, .unset, .unset, .unset, .unset, .unset, .unset, .unset]) d0_54 rfl ?_
          exact JN _ _ _ _ _ (own_and3 _) (Or.inl rfl) (Or.inl rfl) (Or.inr rfl) (Or.inr rfl)
    · refine w_iconst ok (z := 1) d0_22 rfl ?_
      refine w_goto ok d0_23 ?_
      refine w_istore ok (Ls' := #[.val (.int nn), .val (.int fl), .val (.int (nn &&& (3 : Int32))), .val (.int (0 : Int32)), .val (.int (1 : Int32)), .unset, .unset, .unset, .unset, .unset, .unset, .unset, .unset, .unset, .unset, .unset]) d0_27 rfl ?_
      refine w_iloadN ok d0_29 rfl ?_
      refine w_iconst ok (z := 4) d0_30 rfl ?_
      refine w_iand ok d0_31 ?_
      refine w_if_eq ok d0_32 (fun q2 => ?_) (fun q2 => ?_)
      · refine w_iconst ok (z := 0) d0_39 rfl ?_
        refine w_istore ok (Ls' := #[.val (.int nn), .val (.int fl), .val (.int (nn &&& (3 : Int32))), .val (.int (0 : Int32)), .val (.int (1 : Int32)), .val (.int (0 : Int32)), .unset, .unset, .unset, .unset, .unset, .unset, .unset, .unset, .unset, .unset]) d0_40 rfl ?_
        refine w_iloadN ok d0_42 rfl ?_
        refine w_bipush ok (z := 8) d0_43 rfl ?_
        refine w_iand ok d0_45 ?_
        refine w_if_eq ok d0_46 (fun q3 => ?_) (fun q3 => ?_)
        · refine w_iconst ok (z := 0) d0_53 rfl ?_
          refine w_istore ok (Ls' := #[.val (.int nn), .val (.int fl), .val (.int (nn &&& (3 : Int32))), .val (.int (0 : Int32)), .val (.int (1 : Int32)), .val (.int (0 : Int32)), .val (.int (0 : Int32)), .unset, .unset, .unset, .unset, .unset, .unset, .unset, .unset, .unset]) d0_54 rfl ?_
          exact JN _ _ _ _ _ (own_and3 _) (Or.inl rfl) (Or.inr rfl) (Or.inl rfl) (Or.inl rfl)
        · refine w_iconst ok (z := 1) d0_49 rfl ?_
          refine w_goto ok d0_50 ?_
          refine w_istore ok (Ls' := #[.val (.int nn), .val (.int fl), .val (.int (nn &&& (3 : Int32))), .val (.int (0 : Int32)), .val (.int (1 : Int32)), .val (.int (0 : Int32)), .val (.int (1 : Int32)), .unset, .unset, .unset, .unset, .unset, .unset, .unset, .unset, .unset]) d0_54 rfl ?_
          exact JN _ _ _ _ _ (own_and3 _) (Or.inl rfl) (Or.inr rfl) (Or.inl rfl) (Or.inr rfl)
      · refine w_iconst ok (z := 1) d0_35 rfl ?_
        refine w_goto ok d0_36 ?_
        refine w_istore ok (Ls' := #[.val (.int nn), .val (.int fl), .val (.int (nn &&& (3 : Int32))), .val (.int (0 : Int32)), .val (.int (1 : Int32)), .val (.int (1 : Int32)), .unset, .unset, .unset, .unset, .unset, .unset, .unset, .unset, .unset, .unset]) d0_40 rfl ?_
        refine w_iloadN ok d0_42 rfl ?_
        refine w_bipush ok (z := 8) d0_43 rfl ?_
        refine w_iand ok d0_45 ?_
        refine w_if_eq ok d0_46 (fun q3 => ?_) (fun q3 => ?_)
        · refine w_iconst ok (z := 0) d0_53 rfl ?_
          refine w_istore ok (Ls' := #[.val (.int nn), .val (.int fl), .val (.int (nn &&& (3 : Int32))), .val (.int (0 : Int32)), .val (.int (1 : Int32)), .val (.int (1 : Int32)), .val (.int (0 : Int32)), .unset, .unset, .unset, .unset, .unset, .unset, .unset, .unset, .unset]) d0_54 rfl ?_
          exact JN _ _ _ _ _ (own_and3 _) (Or.inl rfl) (Or.inr rfl) (Or.inr rfl) (Or.inl rfl)
        · refine w_iconst ok (z := 1) d0_49 rfl ?_
          refine w_goto ok d0_50 ?_
          refine w_istore ok (Ls' := #[.val (.int nn), .val (.int fl), .val (.int (nn &&& (3 : Int32))), .val (.int (0 : Int32)), .val (.int (1 : Int32)), .val (.int (1 : Int32)), .val (.int (1 : Int32)), .unset, .unset, .unset, .unset, .unset, .unset, .unset, .unset, .unset]) d0_54 rfl ?_
          exact JN _ _ _ _ _ (own_and3 _) (Or.inl rfl) (Or.inr rfl) (Or.inr rfl) (Or.inr rfl)
  · refine w_iconst ok (z := 1) d0_10 rfl ?_
    refine w_goto ok d0_11 ?_
    refine w_istoreN ok (Ls' := #[.val (.int nn), .val (.int fl), .val (.int (nn &&& (3 : Int32))), .val (.int (1 : Int32)), .unset, .unset, .unset, .unset, .unset, .unset, .unset, .unset, .unset, .unset, .unset, .unset]) d0_15 rfl ?_
    refine w_iloadN ok d0_16 rfl ?_
    refine w_iconst ok (z := 2) d0_17 rfl ?_
    refine w_iand ok d0_18 ?_
    refine w_if_eq ok d0_19 (fun q1 => ?_) (fun q1 => ?_)
    · refine w_iconst ok (z := 0) d0_26 rfl ?_
      refine w_istore ok (Ls' := #[.val (.int nn), .val (.int fl), .val (.int (nn &&& (3 : Int32))), .val (.int (1 : Int32)), .val (.int (0 : Int32)), .unset, .unset, .unset, .unset, .unset, .unset, .unset, .unset, .unset, .unset, .unset]) d0_27 rfl ?_
      refine w_iloadN ok d0_29 rfl ?_
      refine w_iconst ok (z := 4) d0_30 rfl ?_
      refine w_iand ok d0_31 ?_
      refine w_if_eq ok d0_32 (fun q2 => ?_) (fun q2 => ?_)
      · refine w_iconst ok (z := 0) d0_39 rfl ?_
        refine w_istore ok (Ls' := #[.val (.int nn), .val (.int fl), .val (.int (nn &&& (3 : Int32))), .val (.int (1 : Int32)), .val (.int (0 : Int32)), .val (.int (0 : Int32)), .unset, .unset, .unset, .unset, .unset, .unset, .unset, .unset, .unset, .unset]) d0_40 rfl ?_
        refine w_iloadN ok d0_42 rfl ?_
        refine w_bipush ok (z := 8) d0_43 rfl ?_
        refine w_iand ok d0_45 ?_
        refine w_if_eq ok d0_46 (fun q3 => ?_) (fun q3 => ?_)
        · refine w_iconst ok (z := 0) d0_53 rfl ?_
          refine w_istore ok (Ls' := #[.val (.int nn), .val (.int fl), .val (.int (nn &&& (3 : Int32))), .val (.int (1 : Int32)), .val (.int (0 : Int32)), .val (.int (0 : Int32)), .val (.int (0 : Int32)), .unset, .unset, .unset, .unset, .unset, .unset, .unset, .unset, .unset]) d0_54 rfl ?_
          exact JN _ _ _ _ _ (own_and3 _) (Or.inr rfl) (Or.inl rfl) (Or.inl rfl) (Or.inl rfl)
        · refine w_iconst ok (z := 1) d0_49 rfl ?_
          refine w_goto ok d0_50 ?_
          refine w_istore ok (Ls' := #[.val (.int nn), .val (.int fl), .val (.int (nn &&& (3 : Int32))), .val (.int (1 : Int32)), .val (.int (0 : Int32)), .val (.int (0 : Int32)), .val (.int (1 : Int32)), .unset, .unset, .unset, .unset, .unset, .unset, .unset, .unset, .unset]) d0_54 rfl ?_
          exact JN _ _ _ _ _ (own_and3 _) (Or.inr rfl) (Or.inl rfl) (Or.inl rfl) (Or.inr rfl)
      · refine w_iconst ok (z := 1) d0_35 rfl ?_
        refine w_goto ok d0_36 ?_
        refine w_istore ok (Ls' := #[.val (.int nn), .val (.int fl), .val (.int (nn &&& (3 : Int32))), .val (.int (1 : Int32)), .val (.int (0 : Int32)), .val (.int (1 : Int32)), .unset, .unset, .unset, .unset, .unset, .unset, .unset, .unset, .unset, .unset]) d0_40 rfl ?_
        refine w_iloadN ok d0_42 rfl ?_
        refine w_bipush ok (z := 8) d0_43 rfl ?_
        refine w_iand ok d0_45 ?_
        refine w_if_eq ok d0_46 (fun q3 => ?_) (fun q3 => ?_)
        · refine w_iconst ok (z := 0) d0_53 rfl ?_
          refine w_istore ok (Ls' := #[.val (.int nn), .val (.int fl), .val (.int (nn &&& (3 : Int32))), .val (.int (1 : Int32)), .val (.int (0 : Int32)), .val (.int (1 : Int32)), .val (.int (0 : Int32)), .unset, .unset, .unset, .unset, .unset, .unset, .unset, .unset, .unset]) d0_54 rfl ?_
          exact JN _ _ _ _ _ (own_and3 _) (Or.inr rfl) (Or.inl rfl) (Or.inr rfl) (Or.inl rfl)
        · refine w_iconst ok (z := 1) d0_49 rfl ?_
          refine w_goto ok d0_50 ?_
          refine w_istore ok (Ls' := #[.val (.int nn), .val (.int fl), .val (.int (nn &&& (3 : Int32))), .val (.int (1 : Int32)), .val (.int (0 : Int32)), .val (.int (1 : Int32)), .val (.int (1 : Int32)), .unset, .unset, .unset, .unset, .unset, .unset, .unset, .unset, .unset]) d0_54 rfl ?_
          exact JN _ _ _ _ _ (own_and3 _) (Or.inr rfl) (Or.inl rfl) (Or.inr rfl) (Or.inr rfl)
    · refine w_iconst ok (z := 1) d0_22 rfl ?_
      refine w_goto ok d0_23 ?_
      refine w_istore ok (Ls' := #[.val (.int nn), .val (.int fl), .val (.int (nn &&& (3 : Int32))), .val (.int (1 : Int32)), .val (.int (1 : Int32)), .unset, .unset, .unset, .unset, .unset, .unset, .unset, .unset, .unset, .unset, .unset]) d0_27 rfl ?_
      refine w_iloadN ok d0_29 rfl ?_
      refine w_iconst ok (z := 4) d0_30 rfl ?_
      refine w_iand ok d0_31 ?_
      refine w_if_eq ok d0_32 (fun q2 => ?_) (fun q2 => ?_)
      · refine w_iconst ok (z := 0) d0_39 rfl ?_
        refine w_istore ok (Ls' := #[.val (.int nn), .val (.int fl), .val (.int (nn &&& (3 : Int32))), .val (.int (1 : Int32)), .val (.int (1 : Int32)), .val (.int (0 : Int32)), .unset, .unset, .unset, .unset, .unset, .unset, .unset, .unset, .unset, .unset]) d0_40 rfl ?_
        refine w_iloadN ok d0_42 rfl ?_
        refine w_bipush ok (z := 8) d0_43 rfl ?_
        refine w_iand ok d0_45 ?_
        refine w_if_eq ok d0_46 (fun q3 => ?_) (fun q3 => ?_)
        · refine w_iconst ok (z := 0) d0_53 rfl ?_
          refine w_istore ok (Ls' := #[.val (.int nn), .val (.int fl), .val (.int (nn &&& (3 : Int32))), .val (.int (1 : Int32)), .val (.int (1 : Int32)), .val (.int (0 : Int32)), .val (.int (0 : Int32)), .unset, .unset, .unset, .unset, .unset, .unset, .unset, .unset, .unset]) d0_54 rfl ?_
          exact JN _ _ _ _ _ (own_and3 _) (Or.inr rfl) (Or.inr rfl) (Or.inl rfl) (Or.inl rfl)
        · refine w_iconst ok (z := 1) d0_49 rfl ?_
          refine w_goto ok d0_50 ?_
          refine w_istore ok (Ls' := #[.val (.int nn), .val (.int fl), .val (.int (nn &&& (3 : Int32))), .val (.int (1 : Int32)), .val (.int (1 : Int32)), .val (.int (0 : Int32)), .val (.int (1 : Int32)), .unset, .unset, .unset, .unset, .unset, .unset, .unset, .unset, .unset]) d0_54 rfl ?_
          exact JN _ _ _ _ _ (own_and3 _) (Or.inr rfl) (Or.inr rfl) (Or.inl rfl) (Or.inr rfl)
      · refine w_iconst ok (z := 1) d0_35 rfl ?_
        refine w_goto ok d0_36 ?_
        refine w_istore ok (Ls' := #[.val (.int nn), .val (.int fl), .val (.int (nn &&& (3 : Int32))), .val (.int (1 : Int32)), .val (.int (1 : Int32)), .val (.int (1 : Int32)), .unset, .unset, .unset, .unset, .unset, .unset, .unset, .unset, .unset, .unset]) d0_40 rfl ?_
        refine w_iloadN ok d0_42 rfl ?_
        refine w_bipush ok (z := 8) d0_43 rfl ?_
        refine w_iand ok d0_45 ?_
        refine w_if_eq ok d0_46 (fun q3 => ?_) (fun q3 => ?_)
        · refine w_iconst ok (z := 0) d0_53 rfl ?_
          refine w_istore ok (Ls' := #[.val (.int nn), .val (.int fl), .val (.int (nn &&& (3 : Int32))), .val (.int (1 : Int32)), .val (.int (1 : Int32)), .val (.int (1 : Int32)), .val (.int (0 : Int32)), .unset, .unset, .unset, .unset, .unset, .unset, .unset, .unset, .unset]) d0_54 rfl ?_
          exact JN _ _ _ _ _ (own_and3 _) (Or.inr rfl) (Or.inr rfl) (Or.inr rfl) (Or.inl rfl)
        · refine w_iconst ok (z := 1) d0_49 rfl ?_
          refine w_goto ok d0_50 ?_
          refine w_istore ok (Ls' := #[.val (.int nn), .val (.int fl), .val (.int (nn &&& (3 : Int32))), .val (.int (1 : Int32)), .val (.int (1 : Int32)), .val (.int (1 : Int32)), .val (.int (1 : Int32)), .unset, .unset, .unset, .unset, .unset, .unset, .unset, .unset, .unset]) d0_54 rfl ?_
          exact JN _ _ _ _ _ (own_and3 _) (Or.inr rfl) (Or.inr rfl) (Or.inr rfl) (Or.inr rfl)
set_option maxRecDepth 65536 in
set_option maxHeartbeats 4000000 in
theorem comes_1 {Post : Tables → Env → Array Value → State → Outcome → State → Prop} (hpost : ∀ tb e args s v u, (limb_1_1.after args s (.returned v) u = true ∧ limb_1_2.after args s (.returned v) u = true ∧ True) → FrameEnd s (.returned v) u (Jvm.fieldLocs frame_1_writes args s ++ Jvm.arrayLocs frame_1_arrays args s ++ Jvm.staticLocs frame_1_statics s) 16 128 → Post tb e args s (.returned v) u) :
    ArmFor flags0 classFile x code maxLocals ret World_1 tables_1 room_1 Calls_1 rest_1 Pre_1 Post := by
  intro l hfl _ _ p e ha hc hk s m args below hf hA hF happ hP
  obtain ⟨hcalls, hrest, hpre⟩ := hP
  obtain ⟨-, -, -, hnamed, -, -, -, hat⟩ := (Spec.applies_iff hf).mp happ
  obtain ⟨hg, hn⟩ := and_e (Cond.before_iff.mp (show (Jvm.Cond.and given_1 narrow_1).before args s = true from hpre))
  obtain ⟨hct, hg0⟩ := and_e hg
  obtain ⟨hk0, hg1⟩ := and_e hg0
  have hk1 := hg1
  obtain ⟨w0, w1, rfl⟩ : ∃ w0 w1 : Value, args = #[w0, w1] := by
    have hs : args.size = 2 := by simpa [Cond.value, given_1] using hct
    obtain ⟨L⟩ := args
    match L, hs with
    | [w0, w1], _ => exact ⟨w0, w1, rfl⟩
  have hw := fun d (hd : d ∈ tables_1) => atoms_spec (ws := Jvm.Cond.code x code maxLocals ret :: tables_1) hat d (List.mem_cons_of_mem _ hd)
  obtain ⟨i0, ei0⟩ := is_v hk0
  obtain rfl : w0 = (.int i0) := Option.some.inj ei0
  obtain ⟨i1, ei1⟩ := is_v hk1
  obtain rfl : w1 = (.int i1) := Option.some.inj ei1
  obtain ⟨n, o, h1, h2, h3, _, L, rfl, ⟨⟨_, rfl, rfl⟩, N⟩, hq⟩ := rm0 l s _ hw s.heap.size i0 i1 s.heap (Nat.le_refl _) p e ha hc hk s m _ below hf ((Spec.applies_iff_loose hf).mp happ).1 ⟨rfl, State.Warmed39.refl s, rfl⟩ trivial
  refine ⟨n, _, h1, h2, h3, hpost _ _ _ _ _ _ ⟨Cond.after_iff.mpr rfl, Cond.after_iff.mpr (eq_i res_at (Term.int_eval (1)) rfl), trivial⟩ ⟨hq.1, hq.2.1, (hq.2.2.sift fun y hy => Or.inr (N y hy)).mono (by decide) (by decide)⟩⟩
theorem main_1_1 : Claimed_1_1 := comes_1 fun _ _ _ _ _ _ h hF => ⟨h.1, hF⟩
theorem main_1_2 : Claimed_1_2 := comes_1 fun _ _ _ _ _ _ h hF => ⟨h.2.1, hF⟩
end Jvm.Pilot.@@N@@
namespace Jvm.Pilot.@@N@@
open Jvm Jvm.ClassFile Sem Op Lib Jvm.Free Jvm.Stand Jvm.Pilot.@@N@@.Jvm.D
/-! MADE BY PROGRAM (witnessworld.py) out of the Statement's table words and the real class files: 10 classes; the members and pool entries that the words name. The judged class is class 1, her method 1. -/
namespace start1
open Jvm.ClassFile
def u (s : String) : CpInfo := .utf8 (stringToUtf16 s)
/-- a pool by its gaps: so many unusable entries, then the entry; so many at the end -/
def gap : Nat → List CpInfo → List CpInfo
  | 0, r => r
  | n + 1, r => .unusable :: gap n r
def poolList (es : List (Nat × CpInfo)) (last : Nat) : List CpInfo := es.foldr (fun e r => gap e.1 (e.2 :: r)) (gap last [])
def pool (es : List (Nat × CpInfo)) (last : Nat) : Array CpInfo := ⟨poolList es last⟩
def fileOf (pool : Array CpInfo) (this : Nat) (attrs : Array Attribute := #[]) (ms : Array MethodInfo := #[]) (fl : Nat := 33) (sup : Nat := 0) (ifs : Array Nat := #[]) (fds : Array FieldInfo := #[]) : ClassFile where
  minorVersion := 0
  majorVersion := 65
  constantPool := pool
  accessFlags := fl
  thisClass := this
  superClass := sup
  interfaces := ifs
  fields := fds
  methods := ms
  attributes := attrs
def plain (name : String) (sup : Option ClassId) : Class where
  name := name
  kind := .ordinary
  loader := none
  accessFlags := 33
  super := sup
  interfaces := #[]
  cf := none
  fields := #[]
  methods := #[]
  instanceTypes := #[]
  staticTypes := #[]
  resolved := #[]
  callSites := []
  init := .initialized
  statics := none
  mirror := none

def pool0 : Array CpInfo := pool [(5, u "<init>"), (0, u "()V"), (1, .class_ 10), (1, u "java/lang/Object")] 113

def k0c0 : Code := { maxStack := 0, maxLocals := 1, code := object_method_1_code, exceptionTable := #[], attributes := #[] }
def k0m0 : Method := { name := "<init>", desc := "()V", sig := { parameters := [], returnType := none }, accessFlags := 1, code := some k0c0 }
/-- java/lang/Object -/
def k0 : Class := { plain "java/lang/Object" none with
  accessFlags := 33
  interfaces := #[]
  cf := some (fileOf pool0 8 #[] #[{ accessFlags := 1, nameIndex := 5, descriptorIndex := 6, attributes := #[] }] 33 0 #[] #[])
  fields := #[]
  methods := #[k0m0]
  instanceTypes := #[]
  staticTypes := #[]
  resolved := Array.replicate 124 none
  statics := none }

def pool1 : Array CpInfo := pool [(2, .class_ 4), (0, .nameAndType 5 6), (0, u "java/lang/Object"), (0, u "<init>"), (0, u "()V"), (0, .class_ 8), (0, u "com/example/trim_pool/trimpool/SpinBackoff"), (0, .methodref 7 3), (0, .methodref 7 11), (0, .nameAndType 12 13), (0, u "spun"), (0, u "(Z)V"), (0, .methodref 7 15), (0, .nameAndType 16 17), (0, u "spinsThisTime"), (0, u "()Z"), (0, .class_ 19), (0, u "com/example/trim_pool/trimpool/SpinBackoffSpunPinLaw"), (2, u "law"), (0, u "(II)Z")] 3

def k1m0 : Method := { name := "<init>", desc := "()V", sig := { parameters := [], returnType := none }, accessFlags := 1, code := none }
def k1c1 : Code := { maxStack := 3, maxLocals := 16, code := code, exceptionTable := #[], attributes := #[] }
def k1m1 : Method := { name := "law", desc := "(II)Z", sig := { parameters := [.int, .int], returnType := some .boolean }, accessFlags := 9, code := some k1c1 }
/-- com/example/trim_pool/trimpool/SpinBackoffSpunPinLaw -/
def k1 : Class := { plain "com/example/trim_pool/trimpool/SpinBackoffSpunPinLaw" (some 0) with
  accessFlags := 49
  interfaces := #[]
  cf := some (fileOf pool1 18 #[] #[{ accessFlags := 1, nameIndex := 5, descriptorIndex := 6, attributes := #[] }, { accessFlags := 9, nameIndex := 22, descriptorIndex := 23, attributes := #[] }] 49 2 #[] #[])
  fields := #[]
  methods := #[k1m0, k1m1]
  instanceTypes := #[]
  staticTypes := #[]
  resolved := Array.replicate 27 none
  statics := none }

def pool2 : Array CpInfo := pool [(1, .methodref 2 3), (0, .class_ 4), (0, .nameAndType 5 6), (0, u "java/lang/Object"), (0, u "<init>"), (0, u "()V"), (0, .fieldref 8 9), (0, .class_ 10), (0, .nameAndType 11 12), (0, u "com/example/trim_pool/trimpool/SpinBackoff"), (0, u "skipsLeft"), (0, u "I"), (0, .fieldref 8 14), (0, .nameAndType 15 12), (0, u "skipsAfterMiss"), (0, .methodref 17 18), (0, .class_ 19), (0, .nameAndType 20 21), (0, u "java/lang/Math"), (0, u "min"), (0, u "(II)I"), (0, u "MAX_SKIPS"), (4, u "spinsThisTime"), (0, u "()Z"), (1, u "spun"), (0, u "(Z)V")] 2

def k2c0 : Code := { maxStack := 1, maxLocals := 1, code := prog_15_method_1_code, exceptionTable := #[], attributes := #[] }
def k2m0 : Method := { name := "<init>", desc := "()V", sig := { parameters := [], returnType := none }, accessFlags := 0, code := some k2c0 }
def k2c1 : Code := { maxStack := 3, maxLocals := 2, code := prog_15_method_2_code, exceptionTable := #[], attributes := #[] }
def k2m1 : Method := { name := "spinsThisTime", desc := "()Z", sig := { parameters := [], returnType := some .boolean }, accessFlags := 0, code := some k2c1 }
def k2c2 : Code := { maxStack := 4, maxLocals := 2, code := prog_15_method_3_code, exceptionTable := #[], attributes := #[] }
def k2m2 : Method := { name := "spun", desc := "(Z)V", sig := { parameters := [.boolean], returnType := none }, accessFlags := 0, code := some k2c2 }
/-- com/example/trim_pool/trimpool/SpinBackoff -/
def k2 : Class := { plain "com/example/trim_pool/trimpool/SpinBackoff" (some 0) with
  accessFlags := 32
  interfaces := #[]
  cf := some (fileOf pool2 8 #[] #[{ accessFlags := 0, nameIndex := 5, descriptorIndex := 6, attributes := #[] }, { accessFlags := 0, nameIndex := 27, descriptorIndex := 28, attributes := #[] }, { accessFlags := 0, nameIndex := 30, descriptorIndex := 31, attributes := #[] }] 32 2 #[] #[{ accessFlags := 24, nameIndex := 22, descriptorIndex := 12, attributes := #[] }, { accessFlags := 2, nameIndex := 11, descriptorIndex := 12, attributes := #[] }, { accessFlags := 2, nameIndex := 15, descriptorIndex := 12, attributes := #[] }])
  fields := #[{ name := "MAX_SKIPS", type := .int, accessFlags := 24, slot := 0, constantValue := 0 }, { name := "skipsLeft", type := .int, accessFlags := 2, slot := 0, constantValue := 0 }, { name := "skipsAfterMiss", type := .int, accessFlags := 2, slot := 1, constantValue := 0 }]
  methods := #[k2m0, k2m1, k2m2]
  instanceTypes := #[.int, .int]
  staticTypes := #[.int]
  resolved := Array.replicate 34 none
  statics := none }

def pool3 : Array CpInfo := pool [(1, .class_ 2), (0, u "java/lang/Math"), (1, .class_ 6), (1, u "java/lang/Object"), (0, u "<init>"), (0, u "()V"), (89, .class_ 100), (1, u "java/lang/Math$RandomNumberGeneratorHolder"), (71, u "negativeZeroFloatBits"), (0, u "J"), (2, u "negativeZeroDoubleBits"), (24, u "min"), (43, u "$assertionsDisabled"), (0, u "Z"), (88, u "(II)I"), (2, u "twoToTheDoubleScaleDown"), (0, u "D"), (4, u "twoToTheDoubleScaleUp"), (9, u "E"), (3, u "PI"), (2, u "TAU"), (2, u "DEGREES_TO_RADIANS"), (0, u "RADIANS_TO_DEGREES")] 94

def k3m0 : Method := { name := "<init>", desc := "()V", sig := { parameters := [], returnType := none }, accessFlags := 2, code := none }
def k3c1 : Code := { maxStack := 2, maxLocals := 2, code := jdk_29_method_69_code, exceptionTable := #[], attributes := #[] }
def k3m1 : Method := { name := "min", desc := "(II)I", sig := { parameters := [.int, .int], returnType := some .int }, accessFlags := 9, code := some k3c1 }
/-- java/lang/Math -/
def k3 : Class := { plain "java/lang/Math" (some 0) with
  accessFlags := 49
  interfaces := #[]
  cf := some (fileOf pool3 1 #[.nestMembers #[98]] #[{ accessFlags := 2, nameIndex := 7, descriptorIndex := 8, attributes := #[] }, { accessFlags := 9, nameIndex := 201, descriptorIndex := 335, attributes := #[] }] 49 4 #[] #[{ accessFlags := 25, nameIndex := 354, descriptorIndex := 339, attributes := #[] }, { accessFlags := 25, nameIndex := 358, descriptorIndex := 339, attributes := #[] }, { accessFlags := 25, nameIndex := 361, descriptorIndex := 339, attributes := #[] }, { accessFlags := 26, nameIndex := 364, descriptorIndex := 339, attributes := #[] }, { accessFlags := 26, nameIndex := 365, descriptorIndex := 339, attributes := #[] }, { accessFlags := 26, nameIndex := 172, descriptorIndex := 173, attributes := #[] }, { accessFlags := 26, nameIndex := 176, descriptorIndex := 173, attributes := #[] }, { accessFlags := 8, nameIndex := 344, descriptorIndex := 339, attributes := #[] }, { accessFlags := 8, nameIndex := 338, descriptorIndex := 339, attributes := #[] }, { accessFlags := 4120, nameIndex := 245, descriptorIndex := 246, attributes := #[] }])
  fields := #[{ name := "E", type := .double, accessFlags := 25, slot := 0, constantValue := 0 }, { name := "PI", type := .double, accessFlags := 25, slot := 1, constantValue := 0 }, { name := "TAU", type := .double, accessFlags := 25, slot := 2, constantValue := 0 }, { name := "DEGREES_TO_RADIANS", type := .double, accessFlags := 26, slot := 3, constantValue := 0 }, { name := "RADIANS_TO_DEGREES", type := .double, accessFlags := 26, slot := 4, constantValue := 0 }, { name := "negativeZeroFloatBits", type := .long, accessFlags := 26, slot := 5, constantValue := 0 }, { name := "negativeZeroDoubleBits", type := .long, accessFlags := 26, slot := 6, constantValue := 0 }, { name := "twoToTheDoubleScaleUp", type := .double, accessFlags := 8, slot := 7, constantValue := 0 }, { name := "twoToTheDoubleScaleDown", type := .double, accessFlags := 8, slot := 8, constantValue := 0 }, { name := "$assertionsDisabled", type := .boolean, accessFlags := 4120, slot := 9, constantValue := 0 }]
  methods := #[k3m0, k3m1]
  instanceTypes := #[]
  staticTypes := #[.double, .double, .double, .double, .double, .long, .long, .double, .double, .boolean]
  resolved := Array.replicate 460 none
  statics := none }

def pool4 : Array CpInfo := pool [(1, u "java/lang/Cloneable"), (0, .class_ 1), (0, u "java/lang/Object"), (0, .class_ 3)] 3

/-- java/lang/Cloneable -/
def k4 : Class := { plain "java/lang/Cloneable" (some 0) with
  accessFlags := 1537
  interfaces := #[]
  cf := some (fileOf pool4 2 #[] #[] 1537 4 #[] #[])
  fields := #[]
  methods := #[]
  instanceTypes := #[]
  staticTypes := #[]
  resolved := Array.replicate 8 none
  statics := none }

def pool5 : Array CpInfo := pool [(1, u "java/io/Serializable"), (0, .class_ 1), (0, u "java/lang/Object"), (0, .class_ 3)] 3

/-- java/io/Serializable -/
def k5 : Class := { plain "java/io/Serializable" (some 0) with
  accessFlags := 1537
  interfaces := #[]
  cf := some (fileOf pool5 2 #[] #[] 1537 4 #[] #[])
  fields := #[]
  methods := #[]
  instanceTypes := #[]
  staticTypes := #[]
  resolved := Array.replicate 8 none
  statics := none }

/-- the primitive byte -/
def k6 : Class := { plain "byte" none with kind := .primitive 'B', accessFlags := 0x411 }
/-- [B -/
def k7 : Class := { plain "[B" (some 0) with kind := .array 6 .byte, interfaces := #[4, 5], accessFlags := 1041 }

/-- the primitive int -/
def k8 : Class := { plain "int" none with kind := .primitive 'I', accessFlags := 0x411 }
/-- [I -/
def k9 : Class := { plain "[I" (some 0) with kind := .array 8 .int, interfaces := #[4, 5], accessFlags := 1041 }

def heap : Heap := #[]
def classes : Array Class := #[k0, k1, k2, k3, k4, k5, k6, k7, k8, k9]
def interned : List (Array UInt16 × Addr) := []
def slotsUsed : Nat := 0
def theMethod : MethodId := ⟨1, 1⟩
def args0 : Array Value := #[.int 2, .int 3]
def aboutOver (below : List Frame) : State where
  vm := { classes := classes, interned := interned.toArray }
  heap := heap
  slotsUsed := slotsUsed
  threads := #[{ frames := .invoking theMethod args0 :: below }]
def below0 : List Frame := [.native { method := ⟨0, 0⟩, args := #[] }]
def about1 : State := aboutOver below0
def p0 : Program := .bare "" "" ""
def e0 : Env := launch0.env 0 0 0
theorem w_frames : about1.frames = Frame.invoking theMethod args0 :: below0 := rfl
set_option maxRecDepth 65536 in
theorem w_args : argsFit about1.vm theMethod args0 = true := by decide +kernel
set_option maxRecDepth 65536 in
theorem w_heap : heapFits about1 = true := by decide +kernel
set_option maxRecDepth 65536 in
theorem w_runnable : about1.curStatus? = some .runnable := by decide +kernel
set_option maxRecDepth 65536 in
theorem w_alone : about1.alone = true := by decide +kernel
set_option maxRecDepth 65536 in
theorem w_named : about1.methodNamed? x = some theMethod := by decide +kernel
set_option maxRecDepth 65536 in
theorem w_hears : about1.hears theMethod below0 = true := by decide +kernel
set_option maxRecDepth 65536 in
theorem w_ripe : about1.ripe theMethod args0 below0 = true := by decide +kernel
theorem w_running : about1.status = .running := rfl
set_option maxRecDepth 65536 in
theorem w_room : about1.hasRoom e0.platform room_1 = true :=
  launch0.hasRoom_least _ room_1 (by decide +kernel) (by decide +kernel) (by decide +kernel) (by decide +kernel) (by decide +kernel) (by decide +kernel)
theorem allAtoms_all (ts : List Jvm.Cond) (a : Array Jvm.Value) (st : Jvm.State) : (allAtoms ts).before a st = ts.all (fun c => c.before a st) := by
  induction ts with
  | nil => rfl
  | cons c t ih =>
    show (Jvm.Cond.and c (allAtoms t)).before a st = _
    rw [Jvm.Cond.before_and, ih, List.all_cons]
def words1 : List Jvm.Cond := Jvm.Cond.code x code maxLocals ret :: tables_1
/-- a 'code' word, met by the world's own term for the bytes: nothing is compared byte by byte -/
theorem code_word {y : MethodName} {bytes : ByteArray} {mx : Nat} {rt : Option FieldType} {a : Array Value} {s : State} {m : MethodId} {meth : Method} {c : Code} (h1 : s.methodNamed? y = some m) (h2 : s.vm.method? m = some meth) (h3 : meth.code = some c) (h4 : c.code = bytes)
    (h5 : (c.maxLocals == mx && c.exceptionTable.isEmpty && decide (c.maxStack ≤ mostOperands) && decide (meth.sig.returnType = rt) && !meth.locks && decide (parseMethodDescriptor y.desc = some meth.sig)) = true) : (Jvm.Cond.code y bytes mx rt).before a s = true := by
  simp only [Bool.and_eq_true, beq_iff_eq, Bool.not_eq_true', decide_eq_true_eq] at h5
  obtain ⟨⟨⟨⟨⟨g1, g2⟩, g3⟩, g4⟩, g5⟩, g6⟩ := h5
  simp [Cond.before, Cond.holds, Cond.value, h1, h2, h3, h4, g1, g2, g3, g4, g5, g6]
def isCode : Jvm.Cond → Bool
  | .code _ _ _ _ => true
  | _ => false
theorem all_split {L : List Jvm.Cond} {P : Jvm.Cond → Bool} (h1 : L.all (fun c => isCode c || P c) = true) (h2 : ∀ c ∈ L.filter isCode, P c = true) : L.all P = true := by
  refine List.all_eq_true.mpr fun c hc => ?_
  have h := List.all_eq_true.mp h1 c hc
  rcases Bool.eq_false_or_eq_true (isCode c) with hi | hi
  · exact h2 c (List.mem_filter.mpr ⟨hc, hi⟩)
  · simpa [hi] using h
set_option maxRecDepth 65536 in
theorem w_c0 : (Jvm.Cond.code x code maxLocals ret).before args0 about1 = true := code_word (m := ⟨1, 1⟩) (meth := k1m1) (c := k1c1) (by decide +kernel) rfl rfl rfl (by decide +kernel)
set_option maxRecDepth 65536 in
theorem w_c1 : (Jvm.Cond.code ({ cls := "com/example/trim_pool/trimpool/SpinBackoff", name := "<init>", desc := "()V" } : Jvm.MethodName) prog_15_method_1_code (1 : Nat) (Option.none : Option Jvm.ClassFile.FieldType)).before args0 about1 = true := code_word (m := ⟨2, 0⟩) (meth := k2m0) (c := k2c0) (by decide +kernel) rfl rfl rfl (by decide +kernel)
set_option maxRecDepth 65536 in
theorem w_c2 : (Jvm.Cond.code ({ cls := "java/lang/Object", name := "<init>", desc := "()V" } : Jvm.MethodName) object_method_1_code (1 : Nat) (Option.none : Option Jvm.ClassFile.FieldType)).before args0 about1 = true := code_word (m := ⟨0, 0⟩) (meth := k0m0) (c := k0c0) (by decide +kernel) rfl rfl rfl (by decide +kernel)
set_option maxRecDepth 65536 in
theorem w_c3 : (Jvm.Cond.code ({ cls := "com/example/trim_pool/trimpool/SpinBackoff", name := "spinsThisTime", desc := "()Z" } : Jvm.MethodName) prog_15_method_2_code (2 : Nat) (Option.some Jvm.ClassFile.FieldType.boolean)).before args0 about1 = true := code_word (m := ⟨2, 1⟩) (meth := k2m1) (c := k2c1) (by decide +kernel) rfl rfl rfl (by decide +kernel)
set_option maxRecDepth 65536 in
theorem w_c4 : (Jvm.Cond.code ({ cls := "com/example/trim_pool/trimpool/SpinBackoff", name := "spun", desc := "(Z)V" } : Jvm.MethodName) prog_15_method_3_code (2 : Nat) (Option.none : Option Jvm.ClassFile.FieldType)).before args0 about1 = true := code_word (m := ⟨2, 2⟩) (meth := k2m2) (c := k2c2) (by decide +kernel) rfl rfl rfl (by decide +kernel)
set_option maxRecDepth 65536 in
theorem w_c5 : (Jvm.Cond.code ({ cls := "java/lang/Math", name := "min", desc := "(II)I" } : Jvm.MethodName) jdk_29_method_69_code (2 : Nat) (Option.some Jvm.ClassFile.FieldType.int)).before args0 about1 = true := code_word (m := ⟨3, 1⟩) (meth := k3m1) (c := k3c1) (by decide +kernel) rfl rfl rfl (by decide +kernel)
def codes1 : List Jvm.Cond := [Jvm.Cond.code x code maxLocals ret, Jvm.Cond.code ({ cls := "com/example/trim_pool/trimpool/SpinBackoff", name := "<init>", desc := "()V" } : Jvm.MethodName) prog_15_method_1_code (1 : Nat) (Option.none : Option Jvm.ClassFile.FieldType), Jvm.Cond.code ({ cls := "java/lang/Object", name := "<init>", desc := "()V" } : Jvm.MethodName) object_method_1_code (1 : Nat) (Option.none : Option Jvm.ClassFile.FieldType), Jvm.Cond.code ({ cls := "com/example/trim_pool/trimpool/SpinBackoff", name := "spinsThisTime", desc := "()Z" } : Jvm.MethodName) prog_15_method_2_code (2 : Nat) (Option.some Jvm.ClassFile.FieldType.boolean), Jvm.Cond.code ({ cls := "com/example/trim_pool/trimpool/SpinBackoff", name := "spun", desc := "(Z)V" } : Jvm.MethodName) prog_15_method_3_code (2 : Nat) (Option.none : Option Jvm.ClassFile.FieldType), Jvm.Cond.code ({ cls := "java/lang/Math", name := "min", desc := "(II)I" } : Jvm.MethodName) jdk_29_method_69_code (2 : Nat) (Option.some Jvm.ClassFile.FieldType.int)]
set_option maxRecDepth 65536 in
theorem codes_eq : words1.filter isCode = codes1 := rfl
theorem w_codes : ∀ c ∈ words1.filter isCode, c.before args0 about1 = true := by
  rw [codes_eq]
  intro c hc
  simp only [codes1, List.mem_cons, List.not_mem_nil, or_false] at hc
  rcases hc with rfl | rfl | rfl | rfl | rfl | rfl
  · exact w_c0
  · exact w_c1
  · exact w_c2
  · exact w_c3
  · exact w_c4
  · exact w_c5
set_option maxRecDepth 65536 in
theorem w_t1 : (words1.take 24).all (fun c => isCode c || c.before args0 about1) = true := by decide +kernel
set_option maxRecDepth 65536 in
theorem w_t2 : (words1.drop 24).all (fun c => isCode c || c.before args0 about1) = true := by decide +kernel
theorem w_tables : (allAtoms (Jvm.Cond.code x code maxLocals ret :: tables_1)).before args0 about1 = true := by
  rw [allAtoms_all]
  show words1.all (fun c => c.before args0 about1) = true
  refine all_split ?_ w_codes
  rw [← List.take_append_drop 24 words1, List.all_append, w_t1, w_t2]
  rfl
set_option maxRecDepth 65536 in
theorem w_case : (Jvm.Cond.and given_1 narrow_1).before args0 about1 = true := by decide +kernel
theorem w_applies : (headSpec (Jvm.Cond.code x code maxLocals ret :: tables_1) room_1).applies x e0.platform about1 = true :=
  (Spec.applies_iff w_frames).mpr ⟨w_running, w_runnable, w_alone, w_named, w_hears, w_ripe, w_room, w_tables⟩
theorem atStart : AtStart classFile x code maxLocals ret World_1 tables_1 room_1 Calls_1 rest_1 Pre_1 launch0 p0 e0 about1 theMethod args0 below0 :=
  ⟨lists_1, trivial, launch0.admits_env _ _ _, launch0.least_env, fairChoices_fair.cas, fairChoices_fair.clock, w_frames, w_args, w_heap, w_applies, trivial, trivial, w_case⟩
end start1
theorem witness_1 : WitnessClaimed_1 := ⟨start1.p0, start1.e0, start1.about1, start1.theMethod, start1.args0, start1.below0, start1.atStart⟩
end Jvm.Pilot.@@N@@
